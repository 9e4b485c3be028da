/- Lemmas of the walk and plain facts (JeF7 .. JeH5). -/
import Derived.Test.YtmneeannkgnbpaaDoorL1
import Derived.Test.YtmneeannkgnbpaaDoorL2
import Derived.Test.YtmneeannkgnbpaaDoorP26
import Derived.Test.YtmneeannkgnbpaaDoorP01
import Derived.Test.YtmneeannkgnbpaaDoorP24
import Derived.Test.YtmneeannkgnbpaaDoorP06
import Derived.Test.YtmneeannkgnbpaaDoorP31
import Derived.Test.YtmneeannkgnbpaaDoorP27
import Derived.Test.YtmneeannkgnbpaaDoorP12
set_option maxRecDepth 20000
namespace Go.Proofs.Ec
open Go Bw
theorem ahI (w:World) (D:Nat->Prop) (E:SH) (L:List Rt) (T:List NR) (Bd rb root rt eb cb pb h0 z:Nat) (bx path:List UInt8) (na:n6) (hE:RF w D E) (hT:E1 L T E Bd) (p9:nF rb root rt eb∈E) (mM:path.length<=1000000) (hz:z<=1000)
  (vd:qC T bx path 0 ⟨root,0,0,List.replicate z [],none⟩ na)
  (hH:HF w D [pF cb (Sx pb z z) (.slice none 0 0) (Pt h0 0) [] [],Rx pb (List.replicate z (S [])) 9] w):
  Calls Tryd.prog 51 #[Pt rb 0,S bx,S path,Pt cb 0] w fun e w'=>e=.returned (.tuple #[])/\∃mH X,Af L T bx cb h0 (Sx pb z z) na mH X/\HF w D (Rx pb (mH.map S) 9::X) w':=by
 have Jm:w.cell? ⟨rb,0,none⟩=some (Pt root 0):=hE.cell p9 rfl;have hDr:¬D rb:=hE.D p9;refine enter D [pF cb (Sx pb z z) (.slice none 0 0) (Pt h0 0) [] [],Rx pb (List.replicate z (S [])) 9] Tryd.func51 rfl Tryd.ntmps51 rfl rfl hH fun c hc=>?_
 subst hc;refine gz<|gD<|jc (l:=[S path]) rfl rfl rfl (fun b6 hb6=>?_);refine gC<|gz<|gD<|gB<|gF<|gC<|gz<|gD<|gB<|gJ rfl<|gH VL rfl<|gA (hZ aq rfl Jm hDr)<|iK Tryd.zeroValue131 rfl rfl (fun b9 hb9=>?_);refine gO bm rfl rfl rfl (.z) rfl rfl<|gC<|gz<|gD<|gF<|gC<|gz<|gD<|gF<|gC<|gz<|gD<|gA (gG ag rfl (.tail _ (.head _)) rfl)<|iK ck rfl rfl (fun rA aj7=>?_);refine gO ah rfl rfl rfl (.z) rfl rfl<|gC<|gz<|gD<|iK ez rfl rfl (fun ru aj8=>?_);refine gO bh rfl rfl rfl .z rfl rfl<|gC<|gz<|gD<|iK ez rfl rfl (fun ry aj9=>?_);refine gC<|gz<|gD<|gB<|gJ rfl<|gH VJ rfl<|gA (gG bF rfl (m5 (.head _)) rfl)<|iK Tryd.zeroValue43 rfl rfl (fun rz aka=>?_);refine gO cB rfl rfl rfl (.z) rfl rfl<|gC<|gz<|gD<|iZ (v:=wi ⟨b9,ru,ry,rz,b6,rA,pb,z⟩) (kH rfl) rfl<|gF<|gC<|gz<|gW<|jw<|hO (H':=pJ ⟨b9,ru,ry,rz,b6,rA,pb,z⟩ path ⟨root,0,0,List.replicate z [],none⟩ (pF cb (Sx pb z z) (.slice none 0 0) (Pt h0 0) [] [])) (fun w1 fa=>HF.perm (H:=[Rx rz [Sx pb z z] 43,Rx ry [I 0] 3,Rx ru [I 0] 3,Rx rA [S path] 9,Rx b9 [Pt root 0] 131,Rx b6 [S path] 9,pF cb (Sx pb z z) (.slice none 0 0) (Pt h0 0) [] [],Rx pb (List.replicate z (S [])) 9]) fa ?_) ?_
 ·have p:=oN [[Rx rz [Sx pb z z] 43],[Rx ry [I 0] 3],[Rx ru [I 0] 3],[Rx rA [S path] 9],[Rx b9 [Pt root 0] 131],[Rx b6 [S path] 9],[pF cb (Sx pb z z) (.slice none 0 0) (Pt h0 0) [] []],[(Rx pb (List.replicate z (S [])) 9:oJ)]] [0,1,2,3,4,5,6,7] [4,2,1,0,5,3,7,6] (by decide);refine List.Perm.trans (.of_eq ?_) (p.trans (.of_eq ?_))
  ·rfl
  simp[pJ,LB.mI,PO]
 refine afh (L:=L) (T:=T) (Bd:=Bd) hE hT mM hz vd ⟨bM _,bM _,by simp,fun b hb=>by cases hb⟩ (fun A8 X sD si pi s w' ho ia=>⟨rfl,A8,X,ho,ia.sub (.cons _ (.cons _ (.cons _ (.cons _ (.cons _ (.cons _ (gg _)))))))⟩) _ (.of rfl)
end Go.Proofs.Ec
namespace Bw
open Go
variable {P:Program} {c:Cx} {n:Nat} {k:List Item} {fr:SF} {H:SH} {ops:Array Oper} {ty:TypeId} {pos:String} {mG:Array Edge} {S:World->Prop} {nv:Nat} {listed:Array Bool}
end Bw
namespace Go.Proofs.Ec
open Go Bw
variable {cb:Nat} {sl:Value} {w1:World} {fr:SF}
theorem HF.below {w w':World} (h:RowKit.Below w.heap.size w w'):HF w (fun _=>False) [] w':=
 ⟨h.size,fun b hb _=>h.block b hb,fun _ h=>(by cases h),fun _ h=>(by cases h),List.Pairwise.nil,h.tape,h.os,h.output⟩
theorem Yr {w w':World} {e sz:Nat} {v:Value} {n:Nat} {xs:List Value} (h:w'.ownsRow w.heap.size e sz v n xs) (hb:RowKit.Below w.heap.size w w'):∃Hs,Own e sz v n xs Hs/\HF w (fun _=>False) Hs w':=by
 obtain⟨hl,hv⟩:=h;rcases hv with⟨rfl,rfl⟩|⟨g,cap,sD,rfl,hg,HL,hle,hm,rM,oB⟩
 ·have:xs=[]:=bw.1 (by simpa using hl);subst this;exact⟨[],.nil,HF.below hb⟩
 have wq:sD.toList=xs++sD.toList.drop (n*sz):=by
  conv=>lhs;rw[<-a8 (n*sz) sD.toList]
  rw[oB]
 refine⟨_,.row (b:=g) (cap:=cap) (spare:=sD.toList.drop (n*sz)) hl (by rw[<-wq];simpa using rM) hle,?_⟩;refine(HF.below hb).add ?_ (fun _=>.inr hg) (fun _ h=>by cases h);simp only[oe.den];rw[<-wq];simpa using HL
theorem Ys (w:World) (ad:Option Addr) (cp:Nat) (xs:List (List UInt8)) (hx:∀j x,xs[j]? =some x->∃b o,ad=some ⟨b,o,none⟩/\w.cell? ⟨b,o+j,none⟩=some (S x)) (hl:xs.length<=1000000):
  Calls Tryd.prog 52 #[.slice ad xs.length cp] w fun e w'=>∃v Hs,e=.returned v/\Own 9 1 v xs.length (xs.map S) Hs/\HF w (fun _=>False) Hs w':=by
 cases ad with
 |none=>
  have h0:xs=[]:=by
   cases xs with
   |nil=>rfl
   |cons x r=>obtain⟨b,o,h,_⟩:=hx 0 x rfl;cases h
  subst h0;refine(Tryd.slices_Clone_string_nil 0 cp w).mono fun e w' ⟨h1,h2⟩=>⟨_,[],h1,.nil,?_⟩
  rw[h2];exact HF.start w _
 |some a=>
  by_cases h0:xs=[]
  ·subst h0;refine(Tryd.slices_Clone_string_zero a cp w).mono fun e w' ⟨v,h1,h2,h3,h4⟩=>?_
   obtain⟨Hs,h5,h6⟩:=Yr h2 h4;exact⟨v,Hs,h1,h5,h6⟩
  obtain⟨x,r,rfl⟩:∃x r,xs=x::r:=by
   cases xs with
   |nil=>exact absurd rfl h0
   |cons x r=>exact⟨x,r,rfl⟩
  obtain⟨b,o,ha,_⟩:=hx 0 x rfl;cases ha;refine(Tryd.slices_Clone_string b o (x::r).length cp ((x::r).map fun l=>⟨l.toArray⟩) w (by simp) (by omega) (fun j hj=>?_)).mono fun e w' ⟨v,h1,h2,h3,h4⟩=>?_
  ·rw[aQ] at hj;obtain⟨b',o',e1,e2⟩:=hx j _ (ao hj);cases e1;rw[e2,di,aD,ao hj];rfl
  have e3:(((x::r).map fun l=>(⟨l.toArray⟩:ByteArray)).take (x::r).length).map Value.string=(x::r).map S:=by
   rw[bJ (by simp),gp];rfl
  rw[e3] at h2;obtain⟨Hs,h5,h6⟩:=Yr h2 h4;exact⟨v,Hs,h1,h5,h6⟩
theorem ahL (z:Nat):(Go.madeCells (Value.cells (S [])) z).toList =List.replicate z (S []):=by
 simp only[Go.madeCells,Array.toList_map,Array.toList_range];have h:(S []).cells = #[S []]:=rfl;rw[h];refine c9 fun i=>?_
 by_cases hi:i<z
 ·rw[aD,List.getElem?_range hi,List.getElem?_replicate_of_lt hi];simp[Nat.mod_one]
 rw[dq (by simpa using hi),dq (by simpa using hi)]
theorem Yt (z:Nat) (pb hb:Nat) (w:World):(Instr.build 107 #[(0,Sx pb z z),(2,Pt hb 0)]).run Tryd.prog w=.ok (.agg #[Sx pb z z,.slice none 0 0,Pt hb 0,S [],S []]) w:=by
 simp[Instr.build,Tryd.zeroValue107,Tryd.runUnderlying107,cB,cN,qp,Instr.fill,Cv,DX]
inductive Al (L:List Rt) (T:List NR) (bx:List UInt8):n6->Int->List UInt8->List (List UInt8)->List (List UInt8)->List UInt8->Prop
 |wg {mH}:Al L T bx (.wg mH) (-1) [] [] mH []
 |nO {mH} {rt:Rt} (hr:rt∈L):Al L T bx (.nO rt.h mH) (rt.num:Nat) rt.rb.p rt.pS mH []
 |xK {mH} {rt:Rt} {r:NR} (hr:rt∈L) (hT:r∈T) (hn:r.nf=some rt.h):Al L T bx (.o7 r.n mH) (rt.num:Nat) rt.rb.p rt.pS mH []
 |o7 {mH} {r:NR} (hT:r∈T) (hn:r.nf=none) (hd:r.nn=true):Al L T bx (.o7 r.n mH) (if bx=yC then-3 else-2) r.rZ [] mH r.nH
def yI (w:World) (ad:Option Addr) (xs:List (List UInt8)):Prop:=∀j x,xs[j]? =some x->∃b o,ad=some ⟨b,o,none⟩/\w.cell? ⟨b,o+j,none⟩=some (S x)
theorem Yu {w:World} {b off:Nat} {l:List Value} {t:TypeId} {fz:Nat×Nat} {v:Value} (h:w.heap[b]? =some (oe.row l t fz).den) (hv:nth l off=some v):w.cell? ⟨b,off,none⟩=some v:=by
 simp only[oe.den] at h;simp only[World.cell?,h];rw[n8] at hv;simp[hv]
theorem _root_.Bw.Own.tx {w:World} {Hs:SH} {ad:Option Addr} {cp:Nat} {xs:List (List UInt8)} (h:Own 9 1 (.slice ad xs.length cp) xs.length (xs.map S) Hs) (hs:∀e∈Hs,w.heap[e.b]? =some e.k.den):yI w ad xs:=by
 intro j x hx;generalize hv:Value.slice ad xs.length cp=v at h;generalize hn:xs.length=n at h hv;generalize hq:xs.map S=l at h
 cases h with
 |nil=>exfalso;have:=(ae.1 hx).1;omega
 |row h1 h2 h3=>
  simp only[Value.slice.injEq] at hv;refine⟨_,0,hv.1,?_⟩;rw[aH];refine Yu (hs _ (.head _)) ?_;have mS:=(ae.1 hx).1;rw[n8,ak (by rw[<-hq];simpa using mS),<-hq,aD,hx];rfl
theorem ahM {w:World} {D:Nat->Prop} {E:SH} {L:List Rt} {T:List NR} {Bd h0:Nat} {bx:List UInt8} (hE:RF w D E) (hT:E1 L T E Bd) (nx:∀r∈L,Own 9 1 (.slice r.pad r.pS.length r.mR) r.pS.length (r.pS.map S) r.Hn)
  {na:n6} {mH:List (List UInt8)} {X:SH} (h:Af L T bx cb h0 sl na mH X):
  ∃hx num pad mR ns p al X',X=pF cb sl (.slice pad (List.length ns) mR) (Pt hx 0) p al::X'/\Al L T bx na num p ns mH al/\
   ∀w' H,HF w D H w'->(∀e∈X,e∈H)->(Rx h0 [I (-1)] 3:oJ)∈H->w'.cell? ⟨hx,0,none⟩=some (I num)/\yI w' pad ns:=by
 have p9:∀rt∈L,∀w' H,HF w D H w'->w'.cell? ⟨rt.hh,0,none⟩=some (I (rt.num:Nat))/\yI w' rt.pad rt.pS:=fun rt hr w' H hw=>by
  have h1:=hE _ (hT.lE rt hr _ (.head _));refine⟨Yu (hw.old h1.1 h1.2) rfl,(nx rt hr).tx fun e he=>?_⟩;have h2:=hE e (hT.lE rt hr e (.tail _ (.tail _ (.tail _ he))));exact hw.old h2.1 h2.2
 cases h with
 |wg=>exact⟨h0,-1,none,0,[],[],[],[],rfl,.wg,fun w' H hw _ hm=>⟨oQ hw hm rfl,fun j x hx=>(by cases hx)⟩⟩
 | @nO _ rt hr=>exact⟨rt.hh,_,rt.pad,rt.mR,rt.pS,_,_,[],rfl,.nO hr,fun w' H hw _ _=>p9 rt hr w' H hw⟩
 | @xK _ rt r hr RU hn=>exact⟨rt.hh,_,rt.pad,rt.mR,rt.pS,_,_,[],rfl,.xK hr RU hn,fun w' H hw _ _=>p9 rt hr w' H hw⟩
 | @o7 _ hb r RU hn hd=>exact⟨hb,_,none,0,[],_,_,_,rfl,.o7 RU hn hd,fun w' H hw hX _=>⟨oQ hw (hX _ (.tail _ (.head _))) rfl,fun j x hx=>(by cases hx)⟩⟩
theorem yI.RV {w0 w:World} {D:Nat->Prop} {H:SH} {pb:Nat} {xs:List (List UInt8)} (hw:HF w0 D H w) (hm:(Rx pb (xs.map S) 9)∈H):yI w (some ⟨pb,0,none⟩) xs:=by
 intro j x hx;refine⟨pb,0,rfl,?_⟩;rw[aH];exact oQ hw hm (by rw[n8,aD,hx];rfl)
def _root_.Bw.n6.mH:n6->List (List UInt8)
 |.wg v=>v
 |.nO _ v=>v
 |.o7 _ v=>v
theorem ahN {T:List NR} {bx path:List UInt8} {q7:Nat} {st:St} {na:n6} (h:qC T bx path q7 st na):na.mH.length=st.mH.length:=by
 induction h with
 |Qe=>rfl
 |Qf _ _ _ _ _ _ ih=>exact ih
 |nO=>rfl
 |nf=>rfl
 |down _ _ _ _ _ _ ih=>exact ih
 |stay _ _ _ _ _ _ ih=>exact ih
 |ng _ _ _ _ _ _ _ ih=>rw[ih];simp
 |L9 _ _ _ _ ih=>exact ih
 |Qg=>simp[n6.mH]
 |Qh=>simp[n6.mH]
 |Qi=>simp[n6.mH]
 | @Ma r st=>unfold L8;cases st.mT<;>rfl
 |Qj _ _ _ _ _ _ _ ih=>exact ih
 |Ql _ _ _ _ _ _ _ _ _ ih=>rw[ih];simp
theorem ahO {L:List Rt} {T:List NR} {bx:List UInt8} {h0:Nat} {na:n6} {mH:List (List UInt8)} {X:SH} (h:Af L T bx cb h0 sl na mH X):mH=na.mH:=by cases h<;>rfl
theorem Yv {a:Act} {n d z:Nat} {x y:Operand} {ty:TypeId} {pos:String} {mG:Array Edge} (ha:Fr n fr a) (hx:ev fr x=some (I (z:Int))) (hy:ev fr y=some (I (z:Int))) (hz:z<=1000):
  (execOp a.eval ⟨some d,.makeSlice 43 x y,ty,pos,mG,none⟩).run Tryd.prog w1=.ok (.value (Sx w1.heap.size z z)) {w1 with heap:=w1.heap.push (oe.row (List.replicate z (S [])) 9 (0,0)).den }:=by
 have hr:=run_make (P:=Tryd.prog) w1 43 9 Tryd.t9 (S []) aE rfl rfl .i64 .i64 (z:Int) (z:Int) (by omega) (by omega) (by show((16:Nat):Int)*_<=_;omega) (by omega);have hs:(Tryd.t9).size =1:=rfl;rw[hs,aT,Int.toNat_natCast] at hr;have hm:Go.madeCells (Value.cells (S [])) z=(List.replicate z (S [])).toArray :=by rw[<-ahL]
 rw[hm] at hr;simp only[execOp,ha.eval hx,ha.eval hy,Sem.run_bind,oe.den];rw[hr];rfl
theorem Yw {a:Act} {n d t:Nat} {x:Operand} {v:Value} {l:List Value} {ty:TypeId} {pos:String} {mG:Array Edge} (ha:Fr n fr a) (hx:ev fr x=some v) (hl:v.cells.toList=l):
  (execOp a.eval ⟨some d,.box t x,ty,pos,mG,none⟩).run Tryd.prog w1=.ok (.value (Pt w1.heap.size 0)) {w1 with heap:=w1.heap.push (oe.row l t (0,0)).den }:=by
 subst hl;simp[execOp,ha.eval hx,Instr.box,newVar,newRow,oe.den]
theorem Oi (w:World) (D:Nat->Prop) (E:SH) (L:List Rt) (T:List NR) (Bd rb root rt eb zb z:Nat) (bx path:List UInt8) (na:n6) (hE:RF w D E) (hT:E1 L T E Bd) (p9:nF rb root rt eb∈E) (RW:nK zb rb z∈E) (mM:path.length<=1000000) (hz:z<=1000)
  (nx:∀r∈L,Own 9 1 (.slice r.pad r.pS.length r.mR) r.pS.length (r.pS.map S) r.Hn) (FL:∀r∈L,r.pS.length<=1000000) (vd:qC T bx path 0 ⟨root,0,0,List.replicate z [],none⟩ na):
  Calls Tryd.prog 35 #[Pt zb 0,S bx,S path] w fun e w'=>∃num p ns mH al vn vv Hn Hv,Al L T bx na num p ns mH al/\e=.returned (.tuple #[I num,S p,vn,vv,S al])/\Own 9 1 vn ns.length (ns.map S) Hn/\Own 9 1 vv mH.length (mH.map S) Hv/\HF w D (Hn++Hv) w':=by
 have Yx:∀(i:Nat) (v:Value),nth [Pt rb 0,I (z:Int)] i=some v->w.cell? ⟨zb,i,none⟩=some v:=fun i v hv=>hE.cell RW hv
 have Yy:¬D zb:=hE.D RW;refine enter D [] Tryd.func35 rfl Tryd.ntmps35 rfl rfl (HF.start w _) fun c hc=>?_
 subst hc;refine gz<|gD<|gF<|gF<|gF<|gF<|gF<|gC<|gN (bc:=[(0,Pt zb 0),(1,S bx),(2,S path)]) (.of rfl)<|gz<|hY (fun bc H'=>∃cb pb hb,Sub [(0,Pt zb 0),(1,S bx),(2,S path),(11,Pt cb 0)] bc/\H'=[pF cb (Sx pb z z) (.slice none 0 0) (Pt hb 0) [] [],Rx pb (List.replicate z (S [])) 9,Rx hb [I (-1)] 3]) (fun J=>?_) ?_
 ·have xO:∀H w1,HF w D H w1->w1.cell? ⟨zb,1,none⟩=some (I (z:Int)):=fun H w1 fa=>fa.pT (Yx 1 _ rfl) Yy
  refine jM (fun w1=>w1.cell? ⟨zb,1,none⟩=some (I (z:Int))) mixed<|im 0 rfl (xO _) (gM rfl)<|im 1 rfl (xO _) (gX rfl)<|im 2 rfl (xO _) (gQ VI rfl)<|jE 3 rfl (xO _) aY rfl (fun w1 h=>h)<|jQ 4 5 rfl rfl (by kernel_rfl) ?_ ?_
  ·refine jY (kb:=.row (List.replicate z (S [])) 9 (0,0)) (v:=fun b=>Sx b z z) (fun a w1 ha fa=>Yv ha rfl rfl hz) (xO _) rfl (fun pb=>?_);refine iQ 5 rfl (by kernel_rfl)<|kZ (xs:=[.const (.int .i64 (-1))]) (vs:=[I (-1)]) dV rfl rfl (xO _) (fun w1 _=>yB w1 (-1)) (fun hb=>?_);refine iQ 6 rfl (by kernel_rfl)<|jk (iN (ps:=[(0,.tmp 16),(2,.tmp 17)]) (vs:=[(0,Sx pb z z),(2,Pt hb 0)]) rfl (fun w1=>Yt z pb hb w1)) (xO _) rfl<|iQ 7 rfl (by kernel_rfl)<|jY (kb:=.row [Sx pb z z,.slice none 0 0,Pt hb 0,S [],S []] 107 (0,0)) (v:=fun b=>Pt b 0) (fun a w1 ha fa=>Yw ha rfl rfl) (xO _) rfl (fun cb=>?_);exact iQ 8 rfl (by kernel_rfl)<|jk (iT rfl) (xO _) rfl<|jz (by kernel_rfl)<|hO (fun w1 fa=>fa.perm (.cons _ (List.Perm.swap _ _ _))) (J _ _ ⟨cb,pb,hb,.of rfl,rfl⟩)
  refine kZ (xs:=[.const (.int .i64 (-1))]) (vs:=[I (-1)]) dV rfl rfl (xO _) (fun w1 _=>yB w1 (-1)) (fun hb=>?_);refine iQ 4 rfl (by kernel_rfl)<|jY (kb:=.row (List.replicate z (S [])) 9 (0,0)) (v:=fun b=>Sx b z z) (fun a w1 ha fa=>Yv ha rfl rfl hz) (xO _) rfl (fun pb=>?_);refine iQ 6 rfl (by kernel_rfl)<|jk (iN (ps:=[(0,.tmp 16),(2,.tmp 17)]) (vs:=[(0,Sx pb z z),(2,Pt hb 0)]) rfl (fun w1=>Yt z pb hb w1)) (xO _) rfl<|iQ 7 rfl (by kernel_rfl)<|jY (kb:=.row [Sx pb z z,.slice none 0 0,Pt hb 0,S [],S []] 107 (0,0)) (v:=fun b=>Pt b 0) (fun a w1 ha fa=>Yw ha rfl rfl) (xO _) rfl (fun cb=>?_);exact iQ 8 rfl (by kernel_rfl)<|jk (iT rfl) (xO _) rfl<|jz (by kernel_rfl)<|J _ _ ⟨cb,pb,hb,.of rfl,rfl⟩
 rintro bc H' ⟨cb,pb,hb,hs,rfl⟩;refine gN hs<|gz<|gD<|gB<|gJ rfl<|gH Pj rfl<|gA (hZ Tryd.isAgg100 rfl (Yx 0 _ rfl) Yy)<|gB<|gB<|gB<|iP (fun _ H2=>∃mH X,Af L T bx cb hb (Sx pb z z) na mH X/\H2=(Rx pb (mH.map S) 9::X)++[Rx hb [I (-1)] 3]) Tryd.call51 rfl rfl (fun w1 fa=>?_) ?_
 ·have tA:HF w D ([pF cb (Sx pb z z) (.slice none 0 0) (Pt hb 0) [] [],Rx pb (List.replicate z (S [])) 9]++[Rx hb [I (-1)] 3]) w1:=fa;have nj:=(bS.1 tA.nd).1;have ahP:=tA.loc (H1:=[pF cb (Sx pb z z) (.slice none 0 0) (Pt hb 0) [] [],Rx pb (List.replicate z (S [])) 9]) (fun e he=>ay _ he) nj
  have Yz:∀e∈[pF cb (Sx pb z z) (.slice none 0 0) (Pt hb 0) [] [],(Rx pb (List.replicate z (S [])) 9:oJ)],e.w=true:=fun e he=>by
   simp only[af,aC,or_false] at he;rcases he with rfl|rfl<;>rfl
  have hE1:RF w1 (fun b=>∃e∈[pF cb (Sx pb z z) (.slice none 0 0) (Pt hb 0) [] [],(Rx pb (List.replicate z (S [])) 9:oJ)],e.b=b) E:=fun e he=>by
   have h1:=hE e he;refine⟨tA.old h1.1 h1.2,fun⟨x,hx,zJ⟩=>?_⟩;have mS:e.b<w.heap.size:=(dK.1 h1.1).1;rcases tA.wr x (ay _ hx) (Yz x hx) with h2|h2
   ·exact h1.2 (zJ▸h2)
   have h2:w.heap.size<=x.b:=h2;omega
  refine(ahI w1 _ E L T Bd rb root rt eb cb pb hb z bx path na hE1 hT p9 mM hz vd ahP).mono fun e w' ⟨h1,mH,X,h2,h3⟩=>⟨_,_,h1,tA.back (.refl _) Yz ?_ h3,mH,X,h2,rfl⟩
  intro e he;rcases af.1 he with rfl|he
  ·rfl
  cases h2<;>simp only[af,aC,or_false] at he
  ·rw[he];rfl
  ·rw[he];rfl
  ·rw[he];rfl
  rcases he with rfl|rfl<;>rfl
 rintro _ H2 ⟨mH,X,Fp,rfl⟩;refine gC ?_;obtain⟨hx,num,pad,mR,ns,p,al,X',rfl,YA,ahR⟩:=ahM hE hT nx Fp;have GO:ns.length<=1000000:=by cases YA<;>first|exact FL _ ‹_› |simp
 have qW:mH.length=z:=by rw[ahO Fp,ahN vd];simp
 have YB:∀w1 H,HF w D H w1->(∀e∈(Rx pb (mH.map S) 9::pF cb (Sx pb z z) (.slice pad (List.length ns) mR) (Pt hx 0) p al::X')++[(Rx hb [I (-1)] 3:oJ)],e∈H)->w1.cell? ⟨hx,0,none⟩=some (I num)/\yI w1 pad ns:=fun w1 H hw hm=>ahR w1 H hw (fun e he=>hm e (ay _ (.tail _ he))) (hm _ (by simp))
 generalize LH:(Rx pb (mH.map S) 9::pF cb (Sx pb z z) (.slice pad (List.length ns) mR) (Pt hx 0) p al::X')++[(Rx hb [I (-1)] 3:oJ)]=H0 at*;have ahS:(Rx pb (mH.map S) 9)∈H0:=by rw[<-LH];exact .head _
 have ahT:pF cb (Sx pb z z) (.slice pad (List.length ns) mR) (Pt hx 0) p al∈H0:=by rw[<-LH];exact .tail _ (.head _)
 let S0:World->Prop:=fun w1=>(∀i v,nth [Sx pb z z,.slice pad (List.length ns) mR,Pt hx 0,S p,S al] i=some v->w1.cell? ⟨cb,i,none⟩=some v)/\w1.cell? ⟨hx,0,none⟩=some (I num)
 have MW:∀(H:SH) w1,HF w D H w1->(∀e∈H0,e∈H)->S0 w1:=fun H w1 hw hm=>⟨fun i v hv=>oQ hw (hm _ ahT) hv,(YB w1 H hw hm).1⟩
 refine gN (bc:=[(0,Pt zb 0),(11,Pt cb 0)]) (.of rfl)<|gz<|jM S0 mixed<|k8 (fun w1 fa=>MW _ w1 fa fun _ he=>he) fun hS=>?_
 refine im 0 rfl hS (gM rfl)<|im 1 rfl hS (gX rfl)<|im 2 rfl hS (gQ yY rfl)<|jE 3 rfl hS dy rfl (fun w1 h=>h.1 2 _ rfl)<|im 4 rfl hS (gX rfl)<|jE 5 rfl hS aY rfl (fun w1 h=>h.2)<|im 6 rfl hS (gM rfl)<|im 7 rfl hS (gX rfl)<|im 8 rfl hS (gQ Gk rfl)<|jE 9 rfl hS ag rfl (fun w1 h=>h.1 3 _ rfl)<|im 10 rfl hS (gM rfl)<|im 11 rfl hS (gX rfl)<|im 12 rfl hS (gQ Gj rfl)<|jE 13 rfl hS bF rfl (fun w1 h=>h.1 1 _ rfl)<|im 15 rfl hS (gM rfl)<|im 16 rfl hS (gX rfl)<|im 17 rfl hS (gQ VJ rfl)<|jE 18 rfl hS bF rfl (fun w1 h=>h.1 0 _ rfl)<|im 20 rfl hS (gM rfl)<|im 21 rfl hS (gX rfl)<|im 22 rfl hS (gQ Pk rfl)<|jE 23 rfl hS ag rfl (fun w1 h=>h.1 4 _ rfl)<|iQ 14 rfl (by kernel_rfl)<|jR (xs:=[.tmp 41]) (vs:=[.slice pad (List.length ns) mR]) (fun v H2=>∃Hs,Own 9 1 v ns.length (ns.map S) Hs/\H2=Hs++H0) Tryd.call52 rfl rfl (fun v H2 ⟨Hs,_,h2⟩ w1 fa=>MW _ w1 fa fun e he=>by rw[h2];exact au _ he) (fun w1 fa=>?_) ?_
 ·refine(Ys w1 pad mR ns (YB w1 _ fa fun _ he=>he).2 GO).mono fun e w' ⟨v,Hs,h1,h2,h3⟩=>⟨v,_,h1,fa.o9 h3 h2.w,Hs,h2,rfl⟩
 rintro vn H2 ⟨Hn,vZ,rfl⟩;refine iQ 19 rfl (by kernel_rfl)<|jR (xs:=[.tmp 46]) (vs:=[Sx pb z z]) (fun v H2=>∃Hs,Own 9 1 v mH.length (mH.map S) Hs/\H2=Hs++(Hn++H0)) Tryd.call52 rfl rfl (fun v H2 ⟨Hs,_,h2⟩ w1 fa=>MW _ w1 fa fun e he=>by rw[h2];exact au _ (au _ he)) (fun w1 fa=>?_) ?_
 ·have:=Ys w1 (some ⟨pb,0,none⟩) z mH (yI.RV fa (au _ ahS)) (by omega);rw[qW] at this;exact this.mono fun e w' ⟨v,Hs,h1,h2,h3⟩=>⟨v,_,h1,fa.o9 h3 h2.w,Hs,by rw[qW];exact h2,rfl⟩
 rintro vv H2 ⟨Hv,oS,rfl⟩;refine k8 (fun w1 fa=>MW _ w1 fa fun _ he=>au _ (au _ he)) fun hS=>?_
 refine im 24 rfl hS (iT rfl)<|im 25 rfl hS (iT rfl)<|im 26 rfl hS (iT rfl)<|im 27 rfl hS (iT rfl)<|im 28 rfl hS (iT rfl)<|jz (by kernel_rfl)<|kf (fun a w1 ha fa=>?_) fun w' ia=>⟨num,p,ns,mH,al,vn,vv,Hn,Hv,YA,rfl,vZ,oS,?_⟩
 ·have e6:=ha.at_ 6 (I num) rfl;have e7:=ha.at_ 7 (S p) rfl;have e8:=ha.at_ 8 vn rfl;have e9:=ha.at_ 9 vv rfl;have e10:=ha.at_ 10 (S al) rfl;have ol:Tryd.f35.results= #[.tmp 6,.tmp 7,.tmp 8,.tmp 9,.tmp 10]:=rfl;simp[results,e6,e7,e8,e9,e10]
 exact(HF.sub ia (cL (Hv++Hn) H0|>fun h=>by rw[aw] at h;exact h)).perm aF
end Go.Proofs.Ec
namespace Bw
open Go Go.Proofs Go.Proofs.Ec
theorem _root_.Go.Proofs.Ec.yI.cell {w:World} {b o:Nat} {xs:List (List UInt8)} (h:yI w (some ⟨b,o,none⟩) xs) {j:Nat} {x:List UInt8} (hx:xs[j]? =some x):w.cell? ⟨b,o+j,none⟩=some (S x):=by
 obtain⟨b',o',e,h1⟩:=h j x hx;simp only[bk,Addr.mk.injEq,and_true] at e;obtain⟨rfl,rfl⟩:=e;exact h1
end Bw
namespace Go.Proofs.Ec
open Go Bw

end Go.Proofs.Ec
namespace Bw
open Go Go.Proofs Go.Proofs.Ec
theorem YC:∀{kv:AL} {x:List UInt8},(uJ kv x).isSome =true<->x∈kv.map (·.1)
 |[],x=>by simp[uJ]
 |(k,v)::r,x=>by
  simp only[uJ,aX,af];split
  ·rename_i e;simp[e]
  rename_i e;rw[YC (kv:=r)];constructor
  ·exact .inr
  rintro(h|h)
  ·exact absurd h.symm e
  exact h
theorem YD {i j:Nat} (hi:i<11) (hj:j<11) (h:rW i=rW j):i=j:=by
 have h1:=JO hi;have h2:=JO hj;rw[h,h2] at h1;exact(bp h1).symm
theorem ahV {x:List UInt8} {i:Nat} (hx:nY x=some i):x=rW i/\i<11:=by
 refine⟨?_,PZ hx⟩
 unfold nY at hx
 repeat' (split at hx;· rename_i e;rw[e];simp only[bk] at hx;subst hx;rfl)
 cases hx
theorem ahW {f:Nat->Option Nat} {kv:AL} {nH:List UInt8} (h:BN f kv nH) (nj:(kv.map (·.1)).Nodup) (qJ:∀p∈kv,nY p.1=none/\p.1≠oo):
  ∃ms:List (List UInt8),ms.Nodup/\(∀x,x∈ms<->x≠oo/\x≠Dk/\(getM f kv x).isSome =true)/\nH=Dk++ms.flatMap fun k=>[44,32]++k:=by
 obtain⟨ks,tf,rfl⟩:=h;have pZ:nY oo=none:=by decide
 have ho:nY Dk=some 4:=by decide
 refine⟨([0,1,2,3,5,6,7,8,9,10].filter fun i=>(f i).isSome).map rW++ks,?_,?_,?_⟩
 ·have qK:∀x∈ks,nY x=none/\x≠oo:=fun x hx=>by
   obtain⟨p,hp,rfl⟩:=aZ.1 (tf.mem_iff.1 hx);exact qJ p hp
  rw[List.nodup_append];refine⟨?_,tf.nodup_iff.2 nj,?_⟩
  ·have h0:([0,1,2,3,5,6,7,8,9,10]:List Nat).Nodup :=by decide
   have h1:(([0,1,2,3,5,6,7,8,9,10]:List Nat).filter fun i=>(f i).isSome).Nodup :=h0.filter (fun i=>(f i).isSome)
   have mS:∀i∈([0,1,2,3,5,6,7,8,9,10]:List Nat).filter (fun i=>(f i).isSome),i<11:=fun i hi=>by
    have:=(dF.1 hi).1;simp only[af,aC,or_false] at this;omega
   generalize ([0,1,2,3,5,6,7,8,9,10]:List Nat).filter (fun i=>(f i).isSome)=l at h1 mS
   induction l with
   |nil=>exact .nil
   |cons a l ih=>
    rw[aX,bf];have h1:=bf.1 (show(a::l).Nodup from h1);refine⟨fun hm=>?_,ih h1.2 fun i hi=>mS i (.tail _ hi)⟩;obtain⟨j,hj,e⟩:=aZ.1 hm;have:=YD (mS j (.tail _ hj)) (mS a (.head _)) e;exact h1.1 (this▸hj)
  intro x hx y hy e;subst e;obtain⟨i,hi,rfl⟩:=aZ.1 hx;have:=(dF.1 hi).1;have h3:=(qK _ hy).1;rw[JO (by simp only[af,aC,or_false] at this;omega)] at h3;cases h3
 ·intro x;rw[aB,aZ]
  cases hx:nY x with
  |some i=>
   obtain⟨rfl,hi⟩:=ahV hx;have hg:getM f kv (rW i)=f i:=by simp only[getM,hx]
   rw[hg];constructor
   ·rintro(⟨j,hj,e⟩|h)
    ·obtain⟨yL,sn⟩:=dF.1 hj;have Kq:j<11/\j≠4:=by simp only[af,aC,or_false] at yL;omega
     have:=YD Kq.1 hi e;subst this;refine⟨fun h=>?_,fun h=>?_,sn⟩
     ·rw[h,pZ] at hx;cases hx
     rw[h,ho] at hx;exact Kq.2 (bp hx).symm
    obtain⟨p,hp,RX⟩:=aZ.1 (tf.mem_iff.1 h);have:=(qJ p hp).1;rw[RX,hx] at this;cases this
   rintro⟨_,h2,h3⟩;refine .inl ⟨i,dF.2 ⟨?_,h3⟩,rfl⟩;have:i≠4:=fun h=>h2 (by rw[h];rfl)
   have oF:i=0\/i=1\/i=2\/i=3\/i=5\/i=6\/i=7\/i=8\/i=9\/i=10:=by omega
   simpa using oF
  |none=>
   have hg:getM f kv x=uJ kv x:=by simp only[getM,hx]
   rw[hg,YC,<-tf.mem_iff];constructor
   ·rintro(⟨j,hj,e⟩|h)
    ·have yL:=(dF.1 hj).1;have Kq:j<11:=by simp only[af,aC,or_false] at yL;omega
     rw[<-e,JO Kq] at hx;cases hx
    obtain⟨p,hp,RX⟩:=aZ.1 (tf.mem_iff.1 h);refine⟨RX▸(qJ p hp).2,fun h2=>?_,h⟩;rw[h2,ho] at hx;cases hx
   exact fun h=>.inr h.2.2
 simp only[Go.Proofs.Ec.hp,List.flatMap_append,aw,List.flatMap_map]
variable {T:List NR} {q:Nat->List Tok} {R:List En} {root:Nat} {L:List Rt} {z B:Nat}
theorem ahX {bx:List UInt8} {na:n6} {num:Int} {p al:List UInt8} {ns mH vs:List (List UInt8)} {h:Nat} (hz:Al L T bx na num p ns mH al) (e:na=.nO h vs):∃rt∈L,rt.h=h/\num=(rt.num:Nat)/\p=rt.rb.p/\ns=rt.pS/\mH=vs/\al=[]:=by
 cases hz with
 |wg=>cases e
 | @nO mH rt hr=>injection e with e1 e2;exact⟨rt,hr,e1,rfl,rfl,rfl,e2,rfl⟩
 |xK _ _ _=>cases e
 |o7 _ _ _=>cases e
theorem ahY {bx:List UInt8} {na:n6} {num:Int} {p al:List UInt8} {ns mH vs:List (List UInt8)} (hz:Al L T bx na num p ns mH al) (e:na=.wg vs):num= -1/\p=[]/\ns=[]/\al=[]:=by
 cases hz with
 |wg=>exact⟨rfl,rfl,rfl,rfl⟩
 |nO _=>cases e
 |xK _ _ _=>cases e
 |o7 _ _ _=>cases e
theorem ahZ {bx:List UInt8} {na:n6} {num:Int} {p al:List UInt8} {ns mH vs:List (List UInt8)} {n:Nat} (hz:Al L T bx na num p ns mH al) (e:na=.o7 n vs):∃r∈T,r.n=n/\mH=vs/\
  ((∃rt∈L,r.nf=some rt.h/\num=(rt.num:Nat)/\p=rt.rb.p/\ns=rt.pS/\al=[])\/(r.nf=none/\r.nn=true/\num=(if bx=yC then-3 else-2)/\ns=[]/\al=r.nH)):=by
 cases hz with
 |wg=>cases e
 |nO _=>cases e
 | @xK mH rt r hr hT hn=>injection e with e1 e2;exact⟨r,hT,e1,e2,.inl ⟨rt,hr,hn,rfl,rfl,rfl,rfl⟩⟩
 | @o7 mH r hT hn hd=>injection e with e1 e2;exact⟨r,hT,e1,e2,.inr ⟨hn,hd,rfl,rfl,rfl⟩⟩
theorem ah0 {z k:Nat} {vs:List (List UInt8)} (h:k<=z):(pad z vs).take k=(vs++List.replicate k []).take k:=by
 apply c9;intro i;simp only[pad,fS,List.getElem?_append,List.getElem?_replicate];split
 ·split
  ·rfl
  rw[if_pos (by omega),if_pos (by omega)]
 rfl
theorem YE {L:List Rt} (nj:(L.map Rt.h).Nodup) {a b:Rt} (ha:a∈L) (hb:b∈L) (h:a.h=b.h):a=b:=by
 induction L with
 |nil=>cases ha
 |cons r L ih=>
  rw[aX,bf] at nj;rcases af.1 ha with h1|h1
  ·rcases af.1 hb with h2|h2
   ·exact h1.trans h2.symm
   exact absurd (aZ.2 ⟨b,h2,h1▸h.symm⟩) nj.1
  rcases af.1 hb with h2|h2
  ·exact absurd (aZ.2 ⟨a,h1,h2▸h⟩) nj.1
  exact ih nj.2 h1 h2
theorem oA.ah1 (s:oA T q R root L z B) (nj:(L.map Rt.h).Nodup) {Rs:List RB} (Gl:L.reverse.map Rt.key=Rs.zipIdx) {bx path:List UInt8} {na:n6} (hv:VF T q L z na (wN L bx 1002 [] path [] none))
  {num:Int} {p al:List UInt8} {ns mH:List (List UInt8)} (hz:Al L T bx na num p ns mH al):Aj Rs bx (qU (KS Rs) bx 1002 [] path [] none) num p ns (mH.take ns.length) al:=by
 have ah2:L.map Rt.key=Rs.zipIdx.reverse:=by rw[<-Gl,List.map_reverse,List.reverse_reverse]
 have YF:KS Rs=(KR L).map Rt.key:=by
  unfold KS KR;rw[<-ah2];exact afM Rt.key (fun _=>rfl) (fun _=>rfl) L
 have YG:∀rt∈L,Rs[rt.num]? =some rt.rb:=fun rt h=>by
  have h1:rt.key∈Rs.zipIdx:=by rw[<-Gl];exact aZ.2 ⟨rt,List.mem_reverse.2 h,rfl⟩
  have:=fm.1 h1;exact this
 have WG:∀rt:Rt,rt.pS.length=ny rt.tk:=fun rt=>by
  have h1:=B0 rt.rb.p none;show(nh rt.rb.p none).2.length =ny (nh rt.rb.p none).1;simpa using h1
 have MX:∀x p,(KS Rs).look x p=(u5 Rt.tk (fun r=>r.rb.m) L x p).map Rt.key:=fun x p=>by rw[YF];rfl
 have YH:∀{x:NR} {vs:List (List UInt8)} {o:o8 (RB×Nat)},x∈T->na=.o7 x.n (pad z vs)->(o=.stop (.o7 (q x.n) vs)\/o=.back (some (q x.n))/\vs=[])->Aj Rs bx o num p ns (mH.take ns.length) al:=by
  intro x vs o hx hr ho;obtain⟨r,ra,vB,rfl,h⟩:=ahZ hz hr;have hrx:r=x:=uC s.sh.cl.nd ra hx vB;subst hrx;have pZ:=s.nf ra;rw[Mq] at pZ;rcases h with⟨rt,p9,h1,rfl,rfl,rfl,rfl⟩|⟨h1,h2,rfl,rfl,rfl⟩
  ·rw[h1] at pZ;obtain⟨PU,h3,h4⟩:=aN.1 pZ.symm;obtain⟨h5,h6,h7⟩:=JR h3;have:=YE nj h5 p9 h4;subst this;have YI:PU.pS.length<=z:=s.zl _ p9;rw[ah0 YI];exact .xK ho (by rw[MX,h3];rfl) (YG _ p9) h7
  rw[h1] at pZ
  have h3:u5 Rt.tk (fun r=>r.rb.m) L oo (q r.n)=none:=by
   cases h:u5 Rt.tk (fun r=>r.rb.m) L oo (q r.n) with
   |none=>rfl
   |some a=>rw[h] at pZ;cases pZ
  refine .o7 ho (by rw[MX,h3];rfl) ?_;obtain⟨ms,g1,g2,g3⟩:=ahW (s.sh.nH r ra h2) (s.ok r ra).keys.2 (s.sh.kv r ra);refine⟨ms,g1,fun x=>?_,g3⟩;rw[g2 x];have hg:=s.get ra x;constructor
  ·rintro⟨a1,a2,a3⟩;rw[hg,if_neg a1,Mq] at a3;exact⟨a1,a2,by rw[MX];simpa using a3⟩
  rintro⟨a1,a2,a3⟩;refine⟨a1,a2,?_⟩;rw[hg,if_neg a1,Mq];rw[MX] at a3;simpa using a3
 rw[QE] at hv;rw[YF,QB];generalize ho:qU (KR L) bx 1002 [] path [] none=o at hv
 cases o with
 |stop r=>
  cases r with
  |nO YJ vs=>
   have hh:=QG _ _ _ _ _ _ _ ho;obtain⟨h1,h2,u,ws,h3,h4,h5,h6⟩:=hh
   have hr:na=.nO YJ.h (pad z vs):=by
    generalize hx:(o8.stop (u4.nO YJ vs)).xL Rt.h=o' at hv
    cases hv with
    |nO=>simp only[o8.xL,u4.Mp,VO.stop.injEq,VR.nO.injEq] at hx;rw[hx.1,hx.2]
    |o7 _=>cases hx
    |back _ _=>cases hx
    |none=>cases hx
   obtain⟨rt,p9,h7,rfl,rfl,rfl,rfl,rfl⟩:=ahX hz hr;have:=YE nj p9 h1 h7;subst this
   have hlen:vs.length=rt.pS.length:=by
    rw[WG,h3,h4];simpa using h5
   have oB:(pad z vs).take rt.pS.length=vs:=by rw[<-hlen];simp[pad]
   rw[oB]
   exact .nO (YG _ p9) hlen
  |o7 pl vs=>
   generalize hx:(o8.stop (u4.o7 pl vs)).xL Rt.h=o' at hv
   cases hv with
   |nO=>cases hx
   | @o7 x sM RY=>
    simp only[o8.xL,u4.Mp,VO.stop.injEq,VR.o7.injEq] at hx;obtain⟨rfl,rfl⟩:=hx
    exact YH RY rfl (.inl rfl)
   |back _ _=>cases hx
   |none=>cases hx
 |back b=>
  generalize hx:(o8.back b).xL Rt.h=o' at hv
  cases hv with
  |nO=>cases hx
  |o7 _=>cases hx
  | @back x RY _=>
   simp only[o8.xL,VO.back.injEq] at hx;subst hx
   exact YH RY rfl (.inr ⟨rfl,rfl⟩)
  |none=>
   simp only[o8.xL,VO.back.injEq] at hx;subst hx;obtain⟨rfl,rfl,rfl,rfl⟩:=ahY hz rfl;simp only[cm,fU];exact .none
variable {T:List NR} {q:Nat->List Tok} {R:List En} {root:Nat} {L:List Rt} {z B:Nat}
theorem oA.ah4 (s:oA T q R root L z B) {o:VO} {bx:List UInt8} {na:n6} (hv:VF T q L z na o) {num:Int} {p al:List UInt8} {ns mH:List (List UInt8)} (hz:Al L T bx na num p ns mH al):ns.length<=mH.length/\ns.length<=1000/\p.length<=1000\/ns=[]:=by
 have h1:z<=na.mH.length:=by
  cases hv<;>simp only[n6.mH,pad,ax,List.length_replicate]<;>omega
 have hl:∀rt∈L,rt.pS.length<=z:=s.zl;have YI:=s.zz
 cases hz with
 |wg=>exact .inr rfl
 | @nO mH rt hr=>
  have:=hl rt hr;have:=(s.rb rt hr).pl;simp only[n6.mH] at h1
  exact .inl ⟨by omega,by omega,by omega⟩
 | @xK mH rt r hr hT hn=>
  have:=hl rt hr;have:=(s.rb rt hr).pl;simp only[n6.mH] at h1
  exact .inl ⟨by omega,by omega,by omega⟩
 |o7 _ _ _=>exact .inr rfl
theorem ah5 (s:oA T q R root L z B) {rb rt eb zb:Nat}:∀e∈RH rb root rt eb zb z T L,e.w=true:=by
 intro e he;simp only[RH,af,aB] at he;rcases he with rfl|rfl|rfl|rfl|he|he
 ·rfl
 ·rfl
 ·rfl
 ·rfl
 ·exact BP s.ok e he
 obtain⟨r,hr,he⟩:=dP.1 he;simp only[Rt.mI,af] at he;rcases he with rfl|rfl|rfl|he
 ·rfl
 ·rfl
 ·rfl
 exact(s.own r hr).w e he
theorem ah6 {rb rt eb zb:Nat} (h:(RH rb root rt eb zb z T L).Pairwise (fun x y=>x.b≠y.b)):(L.map Rt.h).Nodup :=by
 have h1:(L.flatMap Rt.mI).Pairwise (fun x y=>x.b≠y.b):=h.sublist ((aG _ _).trans (((ai _ _).trans (ai _ _)).trans ((ai _ _).trans (ai _ _))));clear h
 induction L with
 |nil=>exact .nil
 |cons r L ih=>
  rw[ed] at h1;have h2:=bS.1 h1;rw[aX,bf];refine⟨fun hm=>?_,ih h2.2.1⟩;obtain⟨x,hx,e⟩:=aZ.1 hm;exact h2.2.2 (nT r.h (some r.hh) r.rb.p r.pad r.pS.length r.mR) (m2 (.head _)) (nT x.h (some x.hh) x.rb.p x.pad x.pS.length x.mR) (dP.2 ⟨x,hx,m2 (.head _)⟩) e.symm
end Bw
namespace Bw
open Go
variable {P:Program} {c:Cx} {n:Nat} {k:List Item} {fr:SF} {H:SH} {ops:Array Oper} {ty:TypeId} {pos:String} {mG:Array Edge} {S:World->Prop} {nv:Nat} {listed:Array Bool}
end Bw
namespace Go.Proofs.Ec
open Go Bw
theorem ah7 (i:Int) (p al:List UInt8) (ad:Option Addr) (l c:Nat) (w:World):(Instr.build 46 #[(0,I i),(1,S p),(2,.slice ad l c),(4,S al)]).run Tryd.prog w=.ok (.agg #[I i,S p,.slice ad l c,.slice none 0 0,S al]) w:=by
 simp[Instr.build,eJ,Tryd.runUnderlying46,cB,bh,ah,qp,Instr.fill,Bk,tR,DX]
theorem Kb (w:World) (ad:Option Addr) (cp:Nat) (Rs:List RB) (bx path:List UInt8) (tG:JC w ad Rs) (nk:∀r∈Rs,r.ok) (hlen:Rs.length<=30) (mM:path.length<=1000000):
  Calls Tryd.prog 14 #[.slice ad Rs.length cp,S bx,S path] w fun e w'=>∃(num:Int) (p:List UInt8) (ns vs:List (List UInt8)) (al:List UInt8) (vn vv:Value) (Hn Hv:SH),Aj Rs bx (qU (KS Rs) bx 1002 [] path [] none) num p ns vs al/\ns.length<=1000/\e=.returned (.agg #[I num,S p,vn,vv,S al])/\Own 9 1 vn ns.length (ns.map S) Hn/\Own 9 1 vv vs.length (vs.map S) Hv/\HF w (fun _=>False) (Hn++Hv) w':=by
 refine enter (fun _=>False) [] Tryd.func14 rfl Tryd.ntmps14 rfl rfl (HF.start w _) fun c hc=>?_
 subst hc;refine gz<|gD<|iK eJ rfl rfl (fun b6 hb6=>?_);refine gC<|gz<|gD<|gB<|iP (fun v H2=>∃rb root rt eb zb z B T q R L,v=Pt zb 0/\oA T q R root L z B/\B<=200000/\L.reverse.map Rt.key=Rs.zipIdx/\H2=RH rb root rt eb zb z T L++[Rx b6 [I 0,S [],.slice none 0 0,.slice none 0 0,S []] 46]) Tryd.call34 rfl rfl (fun w1 fa=>?_) ?_
 ·refine(K5 w1 ad cp Rs (fun i r hr=>by obtain⟨b,o,h1,h2⟩:=tG i r hr;exact⟨b,o,h1,fun j v hj=>fa.pT (h2 j v hj) id⟩) nk hlen).mono fun e w' ⟨rb,root,rt,eb,zb,z,B,T,q,R,L,h1,h2,h3,h4,h5⟩=>?_
  exact⟨_,_,h1,fa.o9 h5 (ah5 h2),rb,root,rt,eb,zb,z,B,T,q,R,L,rfl,h2,h3,h4,rfl⟩
 rintro v H2 ⟨rb,root,rt,eb,zb,z,B,T,q,R,L,rfl,hinv,hB,Gl,rfl⟩;refine gB<|gB<|iP (fun v H2=>∃(num:Int) (p:List UInt8) (ns mH:List (List UInt8)) (al:List UInt8) (vn vv:Value) (Hn Hv:SH),Aj Rs bx (qU (KS Rs) bx 1002 [] path [] none) num p ns (mH.take ns.length) al/\ns.length<=1000/\ns.length<=mH.length/\v=.tuple #[I num,S p,vn,vv,S al]/\Own 9 1 vn ns.length (ns.map S) Hn/\Own 9 1 vv mH.length (mH.map S) Hv/\H2=Hn++Hv++[Rx b6 [I 0,S [],.slice none 0 0,.slice none 0 0,S []] 46]) Tryd.call35 rfl rfl (fun w1 fa=>?_) ?_
 ·obtain⟨na,vd,YK⟩:=hinv.afF bx path;have pN:∀rt∈L,rt.pS.length<=1000000:=fun r hr=>by have:=hinv.zl r hr;have:=hinv.zz;omega
  have RW:=hinv.zz;refine(Oi w1 (fun _=>False) (RH rb root rt eb zb z T L) L T B rb root rt eb zb z bx path na (fun e he=>⟨fa.has e (ay _ he),id⟩) (hinv.tok (by omega) (fun e he=>?_) (fun r hr e he=>?_)) (.head _) (m2 (.head _)) mM (by omega) hinv.own pN vd).mono fun e w' ⟨num,p,ns,mH,al,vn,vv,Hn,Hv,h1,h2,h3,h4,h5⟩=>?_
  ·exact .tail _ (.tail _ (.tail _ (.tail _ (ay _ he))))
  ·exact .tail _ (.tail _ (.tail _ (.tail _ (au _ (dP.2 ⟨r,hr,he⟩)))))
  have nj:=ah6 (bS.1 fa.nd).1;have tu:=hinv.ah1 nj Gl YK h1;have YL:=hinv.ah4 YK h1;refine⟨_,_,h2,?_,num,p,ns,mH,al,vn,vv,Hn,Hv,tu,?_,?_,rfl,h3,h4,rfl⟩
  ·have:=fa.o9 h5 (fun e he=>by
    rcases aB.1 he with he|he
    ·exact h3.w e he
    exact h4.w e he)
   exact this.sub (List.Sublist.append (gg _) (aG _ _))
  ·rcases YL with h|h
   ·exact h.2.1
   rw[h];simp
  rcases YL with h|h
  ·exact h.1
  rw[h];simp
 rintro v H2 ⟨num,p,ns,mH,al,vn,vv,Hn,Hv,tu,ah8,ah9,rfl,vZ,oS,rfl⟩;obtain⟨vG,vH,rfl⟩:=vZ.slice;obtain⟨adq,YM,rfl⟩:=oS.slice;refine gB<|gA (iz rfl rfl)<|gA (iz rfl rfl)<|gA (iz rfl rfl)<|gA (iz rfl rfl)<|gA (iz rfl rfl)<|gF<|gF<|gF<|gF<|gF<|gC<|gz<|gD<|gB<|gB<|gB<|gB<|gA (iN (ps:=[(0,.tmp 24),(1,.tmp 25),(2,.tmp 26),(4,.tmp 27)]) (vs:=[(0,I num),(1,S p),(2,.slice vG ns.length vH),(4,S al)]) rfl (fun w1=>ah7 num p al vG ns.length vH w1))<|iK eJ rfl rfl (fun Be akb=>?_);refine iO (cs:=[I num,S p,.slice vG ns.length vH,.slice none 0 0,S al]) eQ rfl rfl (fun v hv=>?_) .z rfl ?_
 ·simp only[af,aC,or_false] at hv;rcases hv with rfl|rfl|rfl|rfl|rfl<;>rfl
 refine gC<|gz<|gz<|gD<|gB<|gA (iu aE rfl)<|gB<|gC<|gW ?_
 refine iC (fun N bc H'=>∃j vw Hw,j+N=ns.length/\Own 9 1 vw j ((mH.take j).map S) Hw/\Sub [(6,Pt b6 0),(11,Pt Be 0),(9,.slice adq mH.length YM),(30,I (ns.length:Nat)),(31,I ((j:Nat):Int))] bc/\H'=(Rx Be [I num,S p,.slice vG ns.length vH,vw,S al] 46)::(Hn++Hv++[Rx b6 [I 0,S [],.slice none 0 0,.slice none 0 0,S []] 46]++Hw)) ns.length
  ⟨0,_,[],by omega,.nil,.of rfl,?_⟩ ?_
 ·simp[sV]
 rintro N bc H' ⟨j,vw,Hw,hj,MY,hs,rfl⟩ ih;refine gN hs ?_;clear hs;obtain⟨Am,An,rfl⟩:=MY.slice;refine gz<|gD<|gA (ik rfl rfl)<|gC<|gz<|gS rfl (fun tC=>?_) (fun tC=>?_)
 ·refine gL<|gz<|gW<|gz ?_;have mS:j<ns.length:=by omega
  obtain⟨bv,akc,Cq,YN,rfl⟩:=oS.at (i:=j) (by omega);simp only[Value.slice.injEq,true_and] at YN;obtain⟨rfl,rfl⟩:=YN;obtain⟨x,hx⟩:∃x,mH[j]? =some x:=gx (by omega);refine gD<|gB ?_;refine gF<|gC ?_;refine gz<|gD ?_;refine gB<|gB ?_;refine gA (iu aE rfl)<|gA (ik rfl rfl) ?_;refine gC<|gS rfl (fun AH=>?_) (fun AH=>absurd AH (by omega));refine hY (fun bc H'=>∃RZ nX,Own 9 1 RZ (j+1) ((mH.take (j+1)).map S) nX/\Sub [(6,Pt b6 0),(11,Pt Be 0),(9,Sx bv mH.length YM),(30,I (ns.length:Nat)),(31,I ((j:Nat):Int))] bc/\H'=(Rx Be [I num,S p,.slice vG ns.length vH,RZ,S al] 46)::(Hn++[Rx bv (mH.map S++Cq) 9]++[Rx b6 [I 0,S [],.slice none 0 0,.slice none 0 0,S []] 46]++nX)) (fun J7=>?_) ?_
  ·have Eg:nth (mH.map S++Cq) (0+j*1)=some (S x):=by rw[n8,aH,aT,ak (by simp;omega),aD,hx];rfl
   have xj:∀(H:SH) w1,HF w (fun _=>False) H w1->(Rx bv (mH.map S++Cq) 9:oJ)∈H->w1.cell? ⟨bv,0+j*1,none⟩=some (S x):=fun H w1 hw hm=>oQ hw hm Eg
   refine jM (fun w1=>w1.cell? ⟨bv,0+j*1,none⟩=some (S x)) mixed<|im 0 rfl (fun w1 fa=>xj _ w1 fa (by simp)) (gQ EA rfl)<|im 2 rfl (fun w1 fa=>xj _ w1 fa (by simp)) (gM rfl)<|im 3 rfl (fun w1 fa=>xj _ w1 fa (by simp)) (gM rfl)<|im 4 rfl (fun w1 fa=>xj _ w1 fa (by simp)) (ij (i:=j) aE ah rfl rfl (by omega))<|jE 5 rfl (fun w1 fa=>xj _ w1 fa (by simp)) ag rfl (fun w1 h=>h)<|jQ 1 6 rfl rfl (by kernel_rfl) ?_ ?_
   ·refine jk (gG bF rfl (.head _) rfl) (fun w1 fa=>xj _ w1 fa (by simp)) rfl<|iQ 6 rfl (by kernel_rfl)<|kM (jn aE ah ck (v:=S x) rfl) rfl (fun w1 fa=>xj _ w1 fa (by simp)) rfl (fun tb=>?_);refine iQ 7 rfl (by kernel_rfl)<|kL (i:=Tryd.t9) (sz:=1) (qg:=16) aE rfl rfl rfl rfl rfl rfl rfl MY (H':=[Rx tb [S x] 9,Rx Be [I num,S p,.slice vG ns.length vH,.slice Am j An,S al] 46]++(Hn++[Rx bv (mH.map S++Cq) 9]++[Rx b6 [I 0,S [],.slice none 0 0,.slice none 0 0,S []] 46])) ?_ (vf (vs:=[S x]) (r:=[]) (.head _)) rfl (by simp[Value.oneCell']) (by omega) (by omega) (by omega) (fun w1 fa=>xj _ w1 fa (by simp)) rfl (fun sC nX y1=>?_)
    ·have p:=oN [[Rx tb [S x] 9,Rx Be [I num,S p,.slice vG ns.length vH,.slice Am j An,S al] 46],Hn,[Rx bv (mH.map S++Cq) 9],[Rx b6 [I 0,S [],.slice none 0 0,.slice none 0 0,S []] 46],Hw] [0,1,2,3,4] [4,0,1,2,3] (by decide);exact List.Perm.trans (.of_eq (by simp)) (p.trans (.of_eq (by simp)))
    obtain⟨mX,Dj,rfl⟩:=y1.slice;refine iQ 8 rfl (by kernel_rfl)<|jk (gQ EA rfl) (fun w1 fa=>xj _ w1 fa (by simp)) rfl<|iQ 9 rfl (by kernel_rfl)<|jK cB rfl rfl rfl (.s .z) rfl rfl (fun w1 fa=>xj _ w1 fa (by simp[sV]))<|jz (by kernel_rfl) ?_
    have oB:(mH.take j).map S++[S x]=(mH.take (j+1)).map S:=by
     rw[eZ,hx];simp
    rw[oB] at y1;refine hO (H':=Rx Be [I num,S p,.slice vG ns.length vH,.slice mX (j+1) Dj,S al] 46::(Hn++[Rx bv (mH.map S++Cq) 9]++[Rx b6 [I 0,S [],.slice none 0 0,.slice none 0 0,S []] 46]++nX)) (fun w1 fa=>?_) (J7 _ _ ⟨_,nX,y1,.of rfl,rfl⟩);have:=fa.sub (ai _ _);simpa[sV,rC] using this
   refine kM (jn aE ah ck (v:=S x) rfl) rfl (fun w1 fa=>xj _ w1 fa (by simp)) rfl (fun tb=>?_);refine iQ 1 rfl (by kernel_rfl)<|jk (gG bF rfl (.tail _ (.head _)) rfl) (fun w1 fa=>xj _ w1 fa (by simp)) rfl<|iQ 7 rfl (by kernel_rfl)<|kL (i:=Tryd.t9) (sz:=1) (qg:=16) aE rfl rfl rfl rfl rfl rfl rfl MY (H':=[Rx tb [S x] 9,Rx Be [I num,S p,.slice vG ns.length vH,.slice Am j An,S al] 46]++(Hn++[Rx bv (mH.map S++Cq) 9]++[Rx b6 [I 0,S [],.slice none 0 0,.slice none 0 0,S []] 46])) ?_ (vf (vs:=[S x]) (r:=[]) (.head _)) rfl (by simp[Value.oneCell']) (by omega) (by omega) (by omega) (fun w1 fa=>xj _ w1 fa (by simp)) rfl (fun sC nX y1=>?_)
   ·have p:=oN [[Rx tb [S x] 9,Rx Be [I num,S p,.slice vG ns.length vH,.slice Am j An,S al] 46],Hn,[Rx bv (mH.map S++Cq) 9],[Rx b6 [I 0,S [],.slice none 0 0,.slice none 0 0,S []] 46],Hw] [0,1,2,3,4] [4,0,1,2,3] (by decide);exact List.Perm.trans (.of_eq (by simp)) (p.trans (.of_eq (by simp)))
   obtain⟨mX,Dj,rfl⟩:=y1.slice;refine iQ 8 rfl (by kernel_rfl)<|jk (gQ EA rfl) (fun w1 fa=>xj _ w1 fa (by simp)) rfl<|iQ 9 rfl (by kernel_rfl)<|jK cB rfl rfl rfl (.s .z) rfl rfl (fun w1 fa=>xj _ w1 fa (by simp[sV]))<|jz (by kernel_rfl) ?_
   have oB:(mH.take j).map S++[S x]=(mH.take (j+1)).map S:=by
    rw[eZ,hx];simp
   rw[oB] at y1;refine hO (H':=Rx Be [I num,S p,.slice vG ns.length vH,.slice mX (j+1) Dj,S al] 46::(Hn++[Rx bv (mH.map S++Cq) 9]++[Rx b6 [I 0,S [],.slice none 0 0,.slice none 0 0,S []] 46]++nX)) (fun w1 fa=>?_) (J7 _ _ ⟨_,nX,y1,.of rfl,rfl⟩);have:=fa.sub (ai _ _);simpa[sV,rC] using this
  rintro bc H' ⟨RZ,nX,y1,CF,rfl⟩;refine gN CF ?_;clear CF;exact il<|gD<|gA (iB rfl rfl rfl (by omega) (by omega))<|gB<|gC<|ih (N-1) _ _ (by omega) ⟨j+1,_,_,by omega,y1,.of rfl,rfl⟩
 refine ir rfl<|gz<|gD<|gA (ja (cs:=[I num,S p,.slice vG ns.length vH,.slice Am j An,S al]) Tryd.isAgg46 eQ rfl (.head _) rfl rfl)<|jb (H':=Rx b6 [I 0,S [],.slice none 0 0,.slice none 0 0,S []] 46::(Hn++Hv++Hw)) (fun w1 fa=>?_) ?_
 ·have p:=oN [Hn,Hv,[Rx b6 [I 0,S [],.slice none 0 0,.slice none 0 0,S []] 46],Hw] [0,1,2,3] [2,0,1,3] (by decide);exact(fa.sub (ai _ _)).perm (List.Perm.trans (.of_eq (by simp)) (p.trans (.of_eq (by simp))))
 refine iO (cs:=[I num,S p,.slice vG ns.length vH,.slice Am j An,S al]) eQ rfl rfl (fun v hv=>?_) .z rfl ?_
 ·simp only[af,aC,or_false] at hv;rcases hv with rfl|rfl|rfl|rfl|rfl<;>rfl
 refine gC ?_;have vU:j=ns.length:=by omega
 subst vU;refine jv (cs:=[I num,S p,.slice vG ns.length vH,.slice Am ns.length An,S al]) rfl Tryd.isAgg46 eQ rfl (by exact .head _) rfl fun w' ia=>⟨num,p,ns,mH.take ns.length,al,_,_,Hn,Hw,tu,ah8,rfl,vZ,?_,?_⟩
 ·rw[eH,dG ah9];exact MY
 refine ia.sub ?_;refine(List.Sublist.append (cL Hn Hv) (gg Hw)).trans (ai _ _)
end Go.Proofs.Ec
namespace Bw
open Go Go.Proofs Go.Proofs.Ec
section
variable {P:Program} {c:Cx} {n:Nat} {k:List Item} {fr:SF} {H:SH} {ops:Array Oper} {ty t:TypeId} {pos:String} {mG:Array Edge} {S0:World->Prop} {nv:Nat} {listed:Array Bool}
end
def lg (acc:List UInt8):List (List UInt8):=if acc=[] then[] else[acc]
def MZ:List UInt8->List Tok->List (List UInt8)
 |acc,[]=>lg acc
 |acc,.b c::u=>MZ (acc++[c]) u
 |acc,.P ::u=>lg acc++[58]::MZ [] u
 |acc,.A ::u=>lg acc++[42]::MZ [] u
def parts (p:List UInt8):List (List UInt8):=MZ [] (nh p none).1
def rv:Bool->List UInt8->List (List UInt8)->List UInt8
 |_,[],_=>[]
 |true,c::r,ws=>if c=47 then c::rv false r ws else rv true r ws
 |false,c::r,[]=>c::rv false r []
 |false,c::r,w::ws=>if c=58\/c=42 then w++rv true r ws else c::rv false r (w::ws)
end Bw
namespace Go.Proofs.Ec
open Go Bw
theorem K7 (w:World) (a1 a2:Option Addr) (c1 c2:Nat) (xs ys:List (List UInt8)) (hx:yI w a1 xs) (hy:yI w a2 ys) (Bx:xs.length<=1000000000000) (xy:ys.length<=1000000000000):
  Calls Tryd.prog 36 #[.slice a1 xs.length c1,.slice a2 ys.length c2] w fun e w'=>e=.returned (.bool (decide (xs=ys)))/\HF w (fun _=>False) [] w':=by
 by_cases hl:xs.length=ys.length
 ·cases Ej:xs with
  |nil=>
   have Kr:ys=[]:=bw.1 (by rw[<-hl,Ej];rfl);subst Kr;refine(Tryd.slices_Equal_string_empty a1 a2 c1 0 c2 w (by omega)).mono fun e w' ⟨h1,h2⟩=>⟨h1,?_⟩
   rw[h2];exact HF.start w _
  |cons x xr=>
   cases Kr:ys with
   |nil=>rw[Ej,Kr] at hl;cases hl
   |cons y yr=>
    rw[<-Ej,<-Kr];obtain⟨b1,o1,rfl,_⟩:=hx 0 x (by rw[Ej];rfl);obtain⟨b2,o2,rfl,_⟩:=hy 0 y (by rw[Kr];rfl);refine(Tryd.slices_Equal_string b1 o1 xs.length c1 b2 o2 ys.length c2 (xs.map fun l=>⟨l.toArray⟩) (ys.map fun l=>⟨l.toArray⟩) w (by simp) (by simp) (by omega) (by omega) (fun j hj=>?_) (fun j hj=>?_)).mono fun e w' ⟨h1,k,h2⟩=>⟨?_,?_⟩
    ·rw[aQ] at hj;have:=hx.cell (ao hj);rw[this,di,aD,ao hj];rfl
    ·rw[aQ] at hj;have:=hy.cell (ao hj);rw[this,di,aD,ao hj];rfl
    ·rw[h1];have e1:(xs.map fun l=>(⟨l.toArray⟩:ByteArray)).take xs.length=xs.map fun l=>⟨l.toArray⟩:=bJ (by simp)
     have e2:(ys.map fun l=>(⟨l.toArray⟩:ByteArray)).take ys.length=ys.map fun l=>⟨l.toArray⟩:=bJ (by simp)
     rw[e1,e2]
     have inj:∀(xs ys:List (List UInt8)),(xs.map fun l=>(⟨l.toArray⟩:ByteArray))=(ys.map fun l=>⟨l.toArray⟩)<->xs=ys:=by
      intro xs ys;constructor
      ·intro h;have:=congrArg (List.map fun b:ByteArray=>b.data.toList) h;simpa[Function.comp_def] using this
      rintro rfl;rfl
     rw[decide_eq_decide.2 (inj xs ys)]
    rw[h2];exact(HF.start w _).drewN k
 refine(Tryd.slices_Equal_string_lens a1 a2 xs.length c1 ys.length c2 w hl).mono fun e w' ⟨h1,h2⟩=>⟨?_,?_⟩
 ·rw[h1,decide_eq_false (fun h=>hl (by rw[h]))]
 rw[h2];exact HF.start w _
structure akd (r:RB):Prop where
 hd:r.p.head? =some 47
 m0:r.m≠[]
 ml:r.m.length<=40
 nl:r.nm.length<=40
 pl:r.p.length<=1000
 uE:Bw.uE r.p
end Go.Proofs.Ec
namespace Bw
open Go Go.Proofs Go.Proofs.Ec
variable {Rs:List RB} {ns sM ws:List (List UInt8)} {al:List UInt8}
def R0:List Tok->Prop
 |[]=>True
 |.b _::u=>R0 u
 |.P ::u=>(u=[]\/u.head? =some (.b 47))/\R0 u
 |.A ::u=>u=[]
theorem YO {p u:List Tok} {s t:Tok} (h:p++[t]<+:p++s::u):t=s:=by
 have:=(bu _).1 h;exact(ct.1 this).1
theorem aib {w s:List UInt8} (h:47∉w) (hs:s=[]\/s.head? =some 47):qm (w++s)=w.length:=by
 unfold qm
 induction w with
 |nil=>
  cases s with
  |nil=>rfl
  |cons c r=>
   rcases hs with hs|hs
   ·cases hs
   simp only[cw,bk] at hs;subst hs;simp
 |cons a w ih=>
  have ha:a≠47:=fun e=>h (by rw[e];exact .head _)
  rw[aW,dj (by simpa using ha),aI,aI,ih (fun hm=>h (.tail _ hm))]
theorem aic {u:List Tok} (h:u=[]\/u.head? =some (.b 47)) (ws:List (List UInt8)):fill u ws=[]\/(fill u ws).head? =some 47:=by
 cases u with
 |nil=>exact .inl rfl
 |cons a l=>
  rcases h with h|h
  ·cases h
  simp only[cw,bk] at h;subst h;exact .inr rfl
theorem R1 {α:Type} {tk:α->List Tok} {m:α->List UInt8} {a:α} {bx:List UInt8} (hm:m a=bx) (pZ:bx≠oo):∀(u p:List Tok) (ws vs:List (List UInt8)) (b:Option (List Tok)) (f:Nat),
  tk a=p++u->u.length<f->ws.length=ny u->(∀w∈ws,w≠[]/\47∉w)->R0 u->qU (om tk m [a]) bx f p (fill u ws) vs b=.stop (.nO a (vs++ws))
 |u,p,ws,vs,b,0,_,hf,_,_,_=>by omega
 |[],p,ws,vs,b,f+1,ht,_,hc,_,_=>by
  have h0:ws=[]:=bw.1 (by rw[hc];rfl);subst h0;rw[aS] at ht
  have nx:(om tk m [a]).own bx p (fill [] []) vs=some (.nO a vs):=by
   unfold Kn.own;rw[if_pos (show fill [] []=[] from rfl),if_pos ⟨a,.head _,ht,by rw[hm];exact pZ⟩];simp[Kn.to,pZ,om,u5,ht,hm]
  rw[Ai,nx,aS]
 |.b c::u,p,ws,vs,b,f+1,ht,hf,hc,hw,hk=>by
  have nx:(om tk m [a]).own bx p (fill (.b c::u) ws) vs=none:=by unfold Kn.own;rw[if_neg (by simp[fill])]
  have ih:=R1 (tk:=tk) (f:=f) hm pZ u (p++[.b c]) ws vs ((om tk m [a]).pK p (fill (.b c::u) ws) b) (by rw[ht];simp) (by simpa using hf) hc hw hk
  have u6:(om tk m [a]).text (fun p' s'=>qU (om tk m [a]) bx f p' s' vs ((om tk m [a]).pK p (fill (.b c::u) ws) b)) p (fill (.b c::u) ws) ((om tk m [a]).pK p (fill (.b c::u) ws) b)=.stop (.nO a (vs++ws)):=by
   simp only[Kn.text,fill];rw[if_pos ⟨a,.head _,by rw[ht];exact⟨u,by simp⟩⟩];exact ih
  rw[Ai,nx];simp only
  rw[u6];rfl
 |.P ::u,p,ws,vs,b,f+1,ht,hf,hc,hw,hk=>by
  obtain⟨w,xP,rfl⟩:∃w xP,ws=w::xP:=by
   cases ws with
   |nil=>simp[ny] at hc
   |cons w l=>exact⟨w,l,rfl⟩
  obtain⟨wL,YP⟩:=hw w (.head _);have hs:fill (.P ::u) (w::xP)=w++fill u xP:=rfl;have mW:w++fill u xP≠[]:=by simp[wL]
  have nx:(om tk m [a]).own bx p (w++fill u xP) vs=none:=by unfold Kn.own;rw[if_neg mW]
  have uH:∀t,t≠ .P ->¬(om tk m [a]).has (p++[t]):=by
   rintro t h1 ⟨x,hx,hp⟩;rw[aj.1 hx,ht] at hp;exact h1 (YO hp)
  have tq:(om tk m [a]).pK p (w++fill u xP) b=b:=by unfold Kn.pK;rw[if_neg (fun h=>mW h.1)]
  have u6:∀g,(om tk m [a]).text g p (w++fill u xP) b=.back b:=by
   intro g;unfold Kn.text;split
   ·exact if_neg (uH (.b _) (by simp))
   rfl
  have yP:(om tk m [a]).cut (p++[.P]) (w++fill u xP)=w.length:=by
   unfold Kn.cut;split
   ·rename_i hl
    have hu:u=[]:=by
     cases u with
     |nil=>rfl
     |cons t l=>exact absurd ⟨t,a,.head _,by rw[ht];exact⟨l,by simp⟩⟩ hl
    subst hu;simp[fill]
   exact aib YP (aic hk.1 xP)
  have qj:xP.length=ny u:=by
   rw[show Tok.P::u=[Tok.P]++u from rfl,BW] at hc;simp only[aI] at hc;have:ny [Tok.P]=1:=rfl;omega
  have ih:=R1 (tk:=tk) (f:=f) hm pZ u (p++[.P]) xP (vs++[w]) b (by rw[ht];simp) (by simpa using hf) qj (fun x hx=>hw x (.tail _ hx)) hk.2
  have nQ:(om tk m [a]).ng (fun p' s' v=>qU (om tk m [a]) bx f p' s' (vs++[v]) b) p (w++fill u xP) b=.stop (.nO a (vs++w::xP)):=by
   unfold Kn.ng;rw[if_pos ⟨mW,a,.head _,by rw[ht];exact⟨u,by simp⟩⟩,yP,eE,List.take_left];simp only;rw[ih];simp
  rw[hs,Ai,nx];simp only;rw[tq,u6];simp only[o8.then]
  rw[nQ]
 |.A ::u,p,ws,vs,b,f+1,ht,hf,hc,hw,hk=>by
  have hu:u=[]:=hk;subst hu
  obtain⟨w,rfl⟩:∃w,ws=[w]:=by
   cases ws with
   |nil=>simp[ny] at hc
   |cons w l=>
    have:l=[]:=bw.1 (by simp[ny] at hc;simp[hc]);exact⟨w,by rw[this]⟩
  obtain⟨wL,YP⟩:=hw w (.head _);have hs:fill (.A ::[]) [w]=w:=by simp[fill]
  have nx:(om tk m [a]).own bx p w vs=none:=by unfold Kn.own;rw[if_neg wL]
  have uH:∀t,t≠ .A ->¬(om tk m [a]).has (p++[t]):=by
   rintro t h1 ⟨x,hx,hp⟩;rw[aj.1 hx,ht] at hp;exact h1 (YO hp)
  have tq:(om tk m [a]).pK p w b=b:=by unfold Kn.pK;rw[if_neg (fun h=>wL h.1)]
  have u6:∀g,(om tk m [a]).text g p w b=.back b:=by
   intro g;unfold Kn.text;split
   ·exact if_neg (uH (.b _) (by simp))
   rfl
  have nQ:∀g,(om tk m [a]).ng g p w b=.back b:=by
   intro g;unfold Kn.ng;rw[if_neg (fun h=>uH .P (by simp) h.2)]
  have aid:(om tk m [a]).any bx p w vs b=.stop (.nO a (vs++[w])):=by
   unfold Kn.any;rw[if_pos ⟨a,.head _,by rw[ht];exact cU⟩];simp[Kn.to,pZ,om,u5,ht,hm]
  rw[hs,Ai,nx];simp only;rw[tq,u6];simp only[o8.then];rw[nQ];simp only;rw[aid]
theorem aie {bx:List UInt8} {rb:RB} {n:Nat} {vs:List (List UInt8)} {num:Int} {p:List UInt8} (h:Aj Rs bx (.stop (.nO (rb,n) vs)) num p ns sM al):
  num=(n:Nat)/\p=rb.p/\ns=(nh rb.p none).2/\sM=vs/\al=[]/\Rs[n]? =some rb:=by
 cases h with
 |nO h hl=>exact⟨rfl,rfl,rfl,rfl,rfl,h⟩
 |xK ho _ _ _=>rcases ho with ho|⟨ho,_⟩<;>cases ho
 |o7 ho _ _=>rcases ho with ho|⟨ho,_⟩<;>cases ho
theorem aif {bx:List UInt8} {num:Int} {p:List UInt8} (h:Aj Rs bx (.back none) num p ns sM al):num= -1/\p=[]/\ns=[]/\sM=[]/\al=[]:=by
 generalize R2:(o8.back none:o8 (RB×Nat))=o' at h
 cases h with
 |nO h hl=>cases R2
 |xK ho _ _ _=>subst R2;rcases ho with ho|⟨ho,_⟩<;>cases ho
 |o7 ho _ _=>subst R2;rcases ho with ho|⟨ho,_⟩<;>cases ho
 |none=>exact⟨rfl,rfl,rfl,rfl,rfl⟩
end Bw
namespace Go.Proofs.Ec
open Go Bw
def qx:RB:=⟨[71,69,84],[47,97,47,58,120],[114]⟩
theorem Ge:DG (qx,0)=[.b 47,.b 97,.b 47,.P]:=by decide
theorem YQ:qx.ok:=⟨rfl,by simp[uE,qx],by decide,by decide⟩
theorem Jg:qU (KS [qx]) [71,69,84] 1002 [] [47,97,47,98] [] none=.stop (.nO (qx,0) [[98]]):=by
 have h:=R1 (tk:=DG) (m:=mk') (a:=(qx,0)) (bx:=[71,69,84]) rfl (by decide) [.b 47,.b 97,.b 47,.P] [] [[98]] [] none 1002 (by rw[Ge];rfl) (by decide) rfl (by decide) ⟨.inl rfl,trivial⟩;exact h
theorem Hd (q:List Tok):(KS [qx]).has q<->q<+:[.b 47,.b 97,.b 47,.P]:=by
 rw[<-Ge];exact⟨fun⟨a,ha,hp⟩=>by rw[aj.1 (show a∈[(qx,0)] from ha)] at hp;exact hp,fun h=>⟨(qx,0),.head _,h⟩⟩
theorem Lr:qU (KS [qx]) [71,69,84] 1002 [] [47,98] [] none=.back none:=by
 have h1:qU (KS [qx]) [71,69,84] 1001 [.b 47] [98] [] none=.back none:=by
  rw[show(1001:Nat)=1000+1 from rfl,Ai];have ho:(KS [qx]).own [71,69,84] [.b 47] [98] []=none:=by unfold Kn.own;rw[if_neg (by decide)]
  have hb:(KS [qx]).pK [.b 47] [98] none=none:=by unfold Kn.pK;rw[if_neg (fun h=>by cases h.1)]
  have ht:∀g,(KS [qx]).text g [.b 47] [98] none=.back none:=fun g=>by unfold Kn.text;simp only;rw[if_neg];rw[Hd];decide
  have hp:∀g,(KS [qx]).ng g [.b 47] [98] none=.back none:=fun g=>by unfold Kn.ng;rw[if_neg];rw[Hd];decide
  have ha:(KS [qx]).any [71,69,84] [.b 47] [98] [] none=.back none:=by unfold Kn.any;rw[if_neg];rw[Hd];decide
  rw[ho];simp only;rw[hb,ht];simp only[o8.then];rw[hp];simp only;rw[ha]
 rw[show(1002:Nat)=1001+1 from rfl,Ai];have ho:(KS [qx]).own [71,69,84] [] [47,98] []=none:=by unfold Kn.own;rw[if_neg (by decide)]
 have hb:(KS [qx]).pK [] [47,98] none=none:=by unfold Kn.pK;rw[if_neg (fun h=>by cases h.1)]
 have ht:(KS [qx]).text (fun p' s'=>qU (KS [qx]) [71,69,84] 1001 p' s' [] none) [] [47,98] none=.back none:=by unfold Kn.text;simp only;rw[if_pos (by rw[Hd];decide)];exact h1
 have hp:∀g,(KS [qx]).ng g [] [47,98] none=.back none:=fun g=>by unfold Kn.ng;rw[if_neg];rw[Hd];decide
 have ha:(KS [qx]).any [71,69,84] [] [47,98] [] none=.back none:=by unfold Kn.any;rw[if_neg];rw[Hd];decide
 rw[ho];simp only;rw[hb,ht];simp only[o8.then];rw[hp];simp only;rw[ha]
theorem aih (a b c:List UInt8) (w:World):(Instr.build 39 #[(0,S a),(1,S b),(2,S c)]).run Tryd.prog w=.ok (.agg #[S a,S b,S c]) w:=by
 simp[Instr.build,fA,Tryd.runUnderlying39,ah,qp,Instr.fill,tR]
theorem aii (w:World):Calls Tryd.prog 15 #[] w fun e w'=>e=.returned (.bool true)/\HF w (fun _=>False) [] w':=by
 refine enter (fun _=>False) [] Tryd.func15 rfl Tryd.ntmps15 rfl rfl (HF.start w _) fun c hc=>?_
 subst hc;refine gz<|gD<|gF<|gC<|gz<|gD<|gA (iN (ps:=[(0,.const (S [71,69,84])),(1,.const (S [47,97,47,58,120])),(2,.const (S [114]))]) (vs:=[(0,S [71,69,84]),(1,S [47,97,47,58,120]),(2,S [114])]) rfl (fun w1=>aih _ _ _ w1))<|je (kj (a:=S [71,69,84]) (b:=S [47,97,47,58,120]) (c:=S [114]) fe Tryd.sizeOf39 fA) rfl rfl (fun tb NP=>?_);refine gF<|gC<|gz<|gD<|gB<|iP (fun v H2=>∃vn vv Hn Hv,Own 9 1 vn 1 [S [120]] Hn/\Own 9 1 vv 1 [S [98]] Hv/\v=.agg #[I 0,S [47,97,47,58,120],vn,vv,S []]/\H2=(Hn++Hv)++[Rx tb [S [71,69,84],S [47,97,47,58,120],S [114]] 39]) Tryd.call14 rfl rfl (fun w1 fa=>?_) ?_
 ·skip
  have tG:JC w1 (some ⟨tb,0,none⟩) [qx]:=fun i r hr=>by
   cases i with
   |succ i=>simp at hr
   |zero=>
    simp only[dC,bk] at hr;subst hr;exact⟨tb,0,rfl,fun j v hj=>oQ fa (.head _) (by rw[n8,Nat.zero_mul,aH];exact hj)⟩
  refine(Kb w1 (some ⟨tb,0,none⟩) 1 [qx] [71,69,84] [47,97,47,98] tG (fun r hr=>by rw[aj.1 hr];exact YQ) (by decide) (by decide)).mono fun e w' ⟨num,p,ns,vs,al,vn,vv,Hn,Hv,h1,_,h2,h3,h4,h5⟩=>?_
  rw[Jg] at h1;obtain⟨rfl,rfl,rfl,rfl,rfl,_⟩:=aie h1
  exact⟨_,_,h2,fa.o9 h5 (fun e he=>by
   rcases aB.1 he with he|he
   ·exact h3.w e he
   exact h4.w e he),vn,vv,Hn,Hv,h3,h4,rfl,rfl⟩
 rintro v H2 ⟨vn,vv,Hn,Hv,vZ,oS,rfl,rfl⟩;refine gB<|iP (fun v H2=>∃R3 R4,v=.agg #[I (-1),S [],R3,R4,S []]/\(∃n1 n2 H3 H4,Own 9 1 R3 n1 [] H3/\Own 9 1 R4 n2 [] H4)/\H2=(Hn++Hv)) Tryd.call14 rfl rfl (fun w1 fa=>?_) ?_
 ·skip
  have tG:JC w1 (some ⟨tb,0,none⟩) [qx]:=fun i r hr=>by
   cases i with
   |succ i=>simp at hr
   |zero=>
    simp only[dC,bk] at hr;subst hr;exact⟨tb,0,rfl,fun j v hj=>oQ fa (au _ (.head _)) (by rw[n8,Nat.zero_mul,aH];exact hj)⟩
  refine(Kb w1 (some ⟨tb,0,none⟩) 1 [qx] [71,69,84] [47,98] tG (fun r hr=>by rw[aj.1 hr];exact YQ) (by decide) (by decide)).mono fun e w' ⟨num,p,ns,vs,al,vn,vv,Hn,Hv,h1,_,h2,h3,h4,h5⟩=>?_
  rw[Lr] at h1;obtain⟨rfl,rfl,rfl,rfl,rfl⟩:=aif h1;refine⟨_,_,h2,?_,vn,vv,rfl,⟨_,_,_,_,h3,h4⟩,rfl⟩
  have:=fa.o9 h5 (fun e he=>by
   rcases aB.1 he with he|he
   ·exact h3.w e he
   exact h4.w e he)
  exact this.sub ((cL _ _).trans (aG _ _))
 rintro v H2 ⟨R3,R4,rfl,⟨n1,n2,H3,H4,zI,aij⟩,rfl⟩;obtain⟨vG,vH,rfl⟩:=vZ.slice;obtain⟨Am,An,rfl⟩:=oS.slice;obtain⟨x8,YR,rfl⟩:=zI.slice;obtain⟨YS,YT,rfl⟩:=aij.slice;refine iK eJ rfl rfl (fun b2 sf=>?_);refine iK eJ rfl rfl (fun b3 ze=>?_);refine iO (cs:=[I 0,S [47,97,47,58,120],.slice vG 1 vH,.slice Am 1 An,S []]) eQ rfl rfl (fun v hv=>?_) (.s .z) rfl ?_
 ·simp only[af,aC,or_false] at hv;rcases hv with rfl|rfl|rfl|rfl|rfl<;>rfl
 refine iO (cs:=[I (-1),S [],.slice x8 n1 YR,.slice YS n2 YT,S []]) eQ rfl rfl (fun v hv=>?_) .z rfl ?_
 ·simp only[af,aC,or_false] at hv;rcases hv with rfl|rfl|rfl|rfl|rfl<;>rfl
 refine gC<|gz<|gD<|jb (H':=Rx b2 [I 0,S [47,97,47,58,120],.slice vG 1 vH,.slice Am 1 An,S []] 46::Rx b3 [I (-1),S [],.slice x8 n1 YR,.slice YS n2 YT,S []] 46::(Hn++Hv)) (fun w1 fa=>HF.perm fa (.swap _ _ _))<|gH Lt rfl<|gA (gG aY rfl (.head _) rfl)<|gA (ie rfl rfl)<|gB<|gZ 13 rfl (fun wB=>?_) (fun wB=>?_)
 ·refine gI (gQ Ph rfl)<|gI (gG ag rfl (.head _) rfl)<|gI (iE rfl rfl)<|gT<|gB<|gZ 18 rfl (fun yG=>?_) (fun yG=>?_)
  ·refine gI (gQ Jh rfl)<|gI (gG bF rfl (.head _) rfl)<|jd rfl rfl<|je (jn aE ah ck (v:=S [120]) rfl) rfl rfl (fun zQ Dz=>?_);refine jd rfl rfl<|iw Tryd.call36 rfl rfl (fun w1 fa=>K7 w1 _ _ _ _ [[120]] [[120]] ((show Own 9 1 (.slice vG [[120]].length vH) [[120]].length ([[120]].map S) Hn from vZ).tx fun e he=>fa.has e ?_) (yI.RV fa (.head _)) (by decide) (by decide)) ?_
   ·simp[he]
   refine gT<|gB<|gZ 24 rfl (fun qu=>?_) (fun qu=>?_)
   ·refine gI (gQ EA rfl)<|gI (gG bF rfl (.tail _ (.head _)) rfl)<|jd rfl rfl<|je (jn aE ah ck (v:=S [98]) rfl) rfl rfl (fun tb2 L7=>?_);refine jd rfl rfl<|iw Tryd.call36 rfl rfl (fun w1 fa=>K7 w1 _ _ _ _ [[98]] [[98]] ((show Own 9 1 (.slice Am [[98]].length An) [[98]].length ([[98]].map S) Hv from oS).tx fun e he=>fa.has e ?_) (yI.RV fa (.head _)) (by decide) (by decide)) ?_
    ·simp[he]
    refine gT<|gB<|gZ 30 rfl (fun th=>?_) (fun th=>?_)
    ·exact gI (gQ Lt rfl)<|gI (gG aY rfl (m3 (.head _)) rfl)<|gI (ie rfl rfl)<|gT<|gF<|gC<|ic rfl rfl fun w' ia=>⟨rfl,ia.sub (ar _)⟩
    exact absurd th (by decide)
   exact absurd qu (by decide)
  exact absurd yG (by decide)
 exact absurd wB (by decide)
end Go.Proofs.Ec
