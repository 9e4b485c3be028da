/- Lemmas of the walk and plain facts (JgE1 .. JgP1). -/
import Derived.Test.YtmneeannkgnbpaaDoorL1
import Derived.Test.YtmneeannkgnbpaaDoorL2
import Derived.Test.YtmneeannkgnbpaaDoorP01
import Derived.Test.YtmneeannkgnbpaaDoorP03
import Derived.Test.YtmneeannkgnbpaaDoorP04
import Derived.Test.YtmneeannkgnbpaaDoorP05
import Derived.Laws.Small
import Derived.Lib.BufferWrite
import Derived.Laws.BytesArg
import Derived.Test.YtmneeannkgnbpaaDoorP00
import Derived.Laws.IdiomStrings
import Derived.Lib.AppendStr
set_option maxRecDepth 20000
namespace Go.Proofs
open Go Bw
theorem ZE (c:UInt8) (s:List UInt8) (i:Nat):(s.take i).count c<=i:=br eB (by simp;omega)
theorem Nu (w:World) (s:List UInt8) (ch:UInt8) (hs:s.length<=1000000000000):Calls Tryd.prog 76 #[S s,S [ch]] w fun e w'=>e=.returned (I (s.count ch:Nat))/\HF w (fun _=>False) [] w':=by
 refine enter (fun _=>False) [] Tryd.func76 rfl Tryd.ntmps76 rfl rfl (HF.start w _) fun c hc=>?_
 subst hc;refine gz<|gD<|gF<|gC<|gz<|gD<|gF<|gC<|gz<|gz<|gD<|gB<|gA (ig aa rfl)<|gA (ie rfl rfl)<|gC<|iJ rfl<|gL<|gz<|gz<|gD<|gF<|gC<|gW ?_
 refine iC (fun N bc H'=>∃i,i+N=s.length/\Sub [(0,S s),(1,S [ch]),(5,I ((s.take i).count ch:Nat)),(6,I ((i:Nat):Int))] bc/\H'=[]) s.length
  ⟨0,by omega,.of rfl,rfl⟩ ?_
 rintro N bc H' ⟨i,hi,hs,rfl⟩ ih;refine gN hs ?_;clear hs;refine gz<|gz<|gD<|gB<|gB<|gA (ig aa rfl) ?_;refine gA (iy i (by omega))<|gB<|gA (ig aa rfl)<|gA (jG rfl rfl)<|gC<|gS rfl (fun qu=>?_) (fun qu=>?_)
 ·refine gL<|gW<|gz ?_;have mS:i<s.length:=by omega
  obtain⟨b,hb⟩:=gx mS;have KC:=Gs.ZD (c:=ch) hb;have hle:=ZE ch s i
  have xU:(s.take (i+1)).drop i=[b]:=by
   rw[fg,bl mS];rw[ao mS] at hb;simp[bp hb]
  refine gD<|gB<|gB<|gB<|gB<|gA (ig aa rfl) ?_;refine gA (iy i (by omega))<|gA (j7 (i:=i) (j:=i+1) aa rfl rfl rfl (by omega) (by omega) xU)<|gB<|gA (iE rfl rfl)<|gC<|hY (fun bc H'=>Sub [(0,S s),(1,S [ch]),(5,I ((s.take (i+1)).count ch:Nat)),(6,I ((i+1:Nat):Int))] bc/\H'=[]) (fun S6=>?_) ?_
  ·refine gS rfl (fun vK=>?_) (fun vK=>?_)
   ·refine gz<|gD ?_;refine gB<|gA (iB (r:=(((s.take i).count ch+1:Nat):Int)) rfl rfl rfl (by omega) (by omega)) ?_;refine gF<|gC ?_;refine gD<|gB ?_;refine gB<|gA (ig aa rfl) ?_;refine gA (iy i (by omega))<|gF ?_;refine gC ?_;have e:b=ch:=by simpa using vK
    rw[if_pos e] at KC;rw[<-KC];exact S6 _ _ ⟨.of rfl,rfl⟩
   refine gD<|gB<|gA (iy i (by omega))<|gF<|gC ?_;have e:b≠ch:=by simpa using vK
   rw[if_neg e] at KC;have ZF:(s.take (i+1)).count ch=(s.take i).count ch:=KC;rw[<-ZF];exact S6 _ _ ⟨.of rfl,rfl⟩
  rintro bc H' ⟨S7,rfl⟩;refine gN S7 ?_;clear S7;exact il<|ih (N-1) _ _ (by omega) ⟨i+1,by omega,.of rfl,rfl⟩
 refine ir rfl<|gz<|gD<|gB<|gF<|gC ?_;have vh:i=s.length:=by omega
 exact ic rfl rfl fun w' ia=>⟨by rw[vh,b8],ia⟩
theorem S8 (w:World) (n:Nat) (hn:n<=65535):Calls Tryd.prog 77 #[I (n:Nat)] w fun e w'=>e=.returned (.int .u16 (n:Int))/\HF w (fun _=>False) [] w':=by
 refine enter (fun _=>False) [] Tryd.func77 rfl Tryd.ntmps77 rfl rfl (HF.start w _) fun c hc=>?_
 subst hc
 have wu:IntKind.u16.wrap (n:Int)=(n:Int):=by
  unfold IntKind.wrap;simp[IntKind.bits,IntKind.signed];omega
 refine gz<|gD ?_;refine gF<|gC ?_;refine gz<|gz ?_;refine gD<|gB ?_;refine gA (iS rfl rfl)<|gC<|gS rfl (fun h4=>absurd h4 (by omega)) (fun h4=>?_);refine gL<|gz ?_;refine gD<|gB ?_;refine gA (j5 dN Tryd.underlying85 rfl) ?_;rw[wu];exact gF<|gC<|ic rfl rfl fun w' ia=>⟨rfl,ia⟩
theorem S9 (w:World) (s:List UInt8) (hs:s.length<=20000):Calls Tryd.prog 58 #[S s] w fun e w'=>e=.returned (.int .u16 ((s.count 58+s.count 42:Nat):Int))/\HF w (fun _=>False) [] w':=by
 refine enter (fun _=>False) [] Tryd.func58 rfl Tryd.ntmps58 rfl rfl (HF.start w _) fun c hc=>?_
 subst hc;have h1:=eB (a:=(58:UInt8)) (l:=s);have h2:=eB (a:=(42:UInt8)) (l:=s);refine gz<|gD ?_;refine gF<|gC ?_;refine gz<|gD ?_;refine gB<|iw Tryd.call76 rfl rfl (fun w1 fa=>Nu w1 s 58 (by omega)) ?_;refine gF<|gC ?_;refine gz<|gD ?_;refine gB<|iw Tryd.call76 rfl rfl (fun w1 fa=>Nu w1 s 42 (by omega)) ?_;refine gF<|gC ?_;refine gz<|gD ?_;refine gB<|gB ?_;refine gA (iB (r:=((s.count 58+s.count 42:Nat):Int)) rfl rfl (by omega) (by omega) (by omega))<|iw Tryd.call77 rfl rfl (fun w1 fa=>S8 w1 _ (by omega)) ?_;exact gF<|gC<|ic rfl rfl fun w' ia=>⟨rfl,ia⟩
theorem Ta (w:World) (s:List UInt8) (hs:s.length<=20000):Calls Tryd.prog 59 #[S s] w fun e w'=>e=.returned (.int .u16 ((s.count 47:Nat):Int))/\HF w (fun _=>False) [] w':=by
 refine enter (fun _=>False) [] Tryd.func59 rfl Tryd.ntmps59 rfl rfl (HF.start w _) fun c hc=>?_
 subst hc;have h1:=eB (a:=(47:UInt8)) (l:=s);exact gz<|gD<|gF<|gC<|gz<|gD<|gB<|iw Tryd.call76 rfl rfl (fun w1 fa=>Nu w1 s 47 (by omega))<|iw Tryd.call77 rfl rfl (fun w1 fa=>S8 w1 _ (by omega))<|gF<|gC<|ic rfl rfl fun w' ia=>⟨rfl,ia⟩
theorem _root_.Bw.k9 {P:Program} {c:Cx} {n:Nat} {fr:SF} {H:SH} {ty t u:TypeId} {x y:Operand} {i j:Nat} (hx:ev fr x=some (I (i:Int))) (hy:ev fr y=some (I (j:Int))):nB P c n (.call ⟨.builtin .min, #[x,y], #[t,u]⟩) ty fr H (I ((min i j:Nat):Int)):=by
 intro a w ha hw dst pos mG g;have h:=Go.run_min_int2 (P:=P) (w:=w) #[t,u] ty .i64 .i64 (i:Int) (j:Int)
 have e:(if ((j:Int)<(i:Int)) then(j:Int) else(i:Int))=((min i j:Nat):Int):=by
  split<;>omega
 rw[e] at h;simp[execOp,resolve,invoke,builtin,ha.eval hx,ha.eval hy,h]
theorem ZG (w:World) (a b:List UInt8) (ha:a.length<=1000000000000):Calls Tryd.prog 71 #[S a,S b] w fun e w'=>e=.returned (I (Gs.mK a b:Nat))/\HF w (fun _=>False) [] w':=by
 refine enter (fun _=>False) [] Tryd.func71 rfl Tryd.ntmps71 rfl rfl (HF.start w _) fun c hc=>?_
 subst hc;have hle:=Gs.zu a b;refine gz<|gD<|gF<|gC<|gz<|gD<|gF<|gC<|gz<|gD<|gB<|gA (ig aa rfl)<|gB<|gA (ig aa rfl)<|gA (k9 rfl rfl)<|gF<|gC<|gz<|gW ?_
 refine iC (fun N bc H'=>∃i,i+N=Gs.mK a b/\Sub [(0,S a),(1,S b),(5,I ((i:Nat):Int)),(6,I ((min a.length b.length:Nat):Int))] bc/\H'=[]) (Gs.mK a b)
  ⟨0,by omega,.of rfl,rfl⟩ ?_
 rintro N bc H' ⟨i,hi,hs,rfl⟩ ih;refine gN hs ?_;clear hs;refine gz<|gz<|hY (fun bc H'=>∃t:Bool,(t=true->i+1<=Gs.mK a b)/\(t=false->i=Gs.mK a b)/\Sub [(0,S a),(1,S b),(5,I ((i:Nat):Int)),(6,I ((min a.length b.length:Nat):Int)),(23,.bool t)] bc/\H'=[]) (fun J3=>?_) ?_
 ·refine iV mixed (by kernel_rfl)<|gK (gM rfl)<|gK (gM rfl)<|gK (ik rfl rfl)<|gK (gM rfl)<|jr 15 rfl (fun qY=>?_) (fun qY=>?_)
  ·have hlm:i<min a.length b.length:=by have:=of_decide_eq_true qY;omega
   obtain⟨x,hx⟩:∃x,a[i]? =some x:=gx (by omega);obtain⟨y,hy⟩:∃y,b[i]? =some y:=gx (by omega);have mO:=Gs.ZB (i:=i) (by omega) hx hy;exact gY (gM rfl)<|gY (gM rfl)<|gY (iG (i:=i) (b:=x) aa rfl rfl hx)<|gY (gM rfl)<|gY (gM rfl)<|gY (iG (i:=i) (b:=y) aa rfl rfl hy)<|gY (ie rfl rfl)<|gK (iL rfl rfl)<|iH<|J3 _ _ ⟨_,fun h=>mO.1 (bU.1 (by have:=of_decide_eq_true h;omega)),fun h=>mO.2 (fun e=>absurd h (by rw[e];simp)),.of rfl,rfl⟩
  refine gP ?_;refine gP ?_;refine gP ?_;refine gP ?_;refine gP ?_;refine gP ?_;refine gP ?_;refine gK (iD rfl rfl) ?_;refine iH ?_;exact J3 _ _ ⟨false,fun h=>(by cases h),fun _=>Gs.ZC (by omega) (by have:=of_decide_eq_false qY;omega),.of rfl,rfl⟩
 rintro bc H' ⟨t,qQ,sq,vi,rfl⟩;refine gN vi ?_;clear vi;refine gV rfl (fun uj=>?_) (fun uj=>?_)
 ·exact gL<|gW<|gD<|gB<|gA (iy i (by omega))<|gF<|gC<|il<|ih (N-1) _ _ (by have:=qQ uj;omega) ⟨i+1,by have:=qQ uj;omega,.of rfl,rfl⟩
 refine ir rfl<|gz<|gD<|gB<|gF<|gC ?_;have vh:i=Gs.mK a b:=sq (by simpa using uj);exact ic rfl rfl fun w' ia=>⟨by rw[vh],ia⟩
end Go.Proofs
namespace Bw
open Go Go.Proofs
variable {P:Program} {c:Cx} {n:Nat} {k:List Item} {fr:SF} {H:SH} {ops:Array Oper} {rest:List Oper} {ty t:TypeId} {pos:String} {mG:Array Edge}
theorem j8 {src dst e:TypeId} {x:Operand} {b m cap:Nat} {l:List UInt8} {T:TypeId} {wf:Bool} (hs:P.underlying src=some (.slice e)) (he:P.underlying e=some (.int .u8)) (hd:P.underlying dst=some .string) (hx:ev fr x=some (Sx b m cap))
  (hm:⟨b,wf,.row (bC l) T (0,0)⟩∈H) (hl:m<=l.length):nB P c n (.convert src dst x) ty fr H (S (l.take m)):=by
 intro a w ha hw ds pos mG g
 have vI:∀i,i<m->w.cell? ⟨b,0+i,none⟩=some (.int .u8 (((l.take m).map fun x=>(x.toNat:Int)).getD i 0)):=fun i hi=>by
  refine oQ hw hm ?_;have oO:i<l.length:=by omega
  rw[n8,aH];simp only[bC,Lib.byteCells,aD,ao oO,dm,di,bP hi,dO]
 have h:=run_convert_bytes_arg (P:=P) w src e hs he b 0 m cap ((l.take m).map fun x=>(x.toNat:Int)) (by simp;omega) vI dst hd
 have e2:strOfNums ((l.take m).map fun x=>(x.toNat:Int))=⟨(l.take m).toArray⟩:=by
  have h0:((fun n:Int=>UInt8.ofNat n.toNat)∘fun x:UInt8=>(x.toNat:Int))=id:=by
   funext x;simp
  simp[strOfNums,gp,h0]
 rw[e2] at h;simp[execOp,ha.eval hx,h]
end Bw
namespace Bw
open Go
def PO:Option Nat->Value
 |none=>Nil
 |some b=>Pt b 0
def Nv (m:Nat) (ng mV mP nf:Option Nat) (pre rZ:List UInt8) (sc:Value) (pc:Nat) (nP:UInt8) (kd:Nat) (leaf nn:Bool):List Value:=
 [Pt m 0,PO ng,PO mV,PO mP,PO nf,S pre,S rZ,sc,I pc,.int .u8 (nP.toNat:Int),.int .u8 (kd:Int),.bool leaf,.bool nn]
def sE (f:Nat->Option Nat) (mp:Option Nat) (nH:List UInt8):List Value:=
 [PO (f 0),PO (f 1),PO (f 2),PO (f 3),PO (f 4),PO (f 5),PO (f 6),PO (f 7),PO (f 8),PO (f 9),PO (f 10),.map mp,S nH]
def nY (m:List UInt8):Option Nat:=
 if m=[67,79,78,78,69,67,84] then some 0 else
 if m=[68,69,76,69,84,69] then some 1 else
 if m=[71,69,84] then some 2 else
 if m=[72,69,65,68] then some 3 else
 if m=[79,80,84,73,79,78,83] then some 4 else
 if m=[80,65,84,67,72] then some 5 else
 if m=[80,79,83,84] then some 6 else
 if m=[80,82,79,80,70,73,78,68] then some 7 else
 if m=[80,85,84] then some 8 else
 if m=[84,82,65,67,69] then some 9 else
 if m=[82,69,80,79,82,84] then some 10 else none
def oo:List UInt8:=[101,99,104,111,95,114,111,117,116,101,95,110,111,116,95,102,111,117,110,100]
abbrev AL:=List (List UInt8×Nat)
def uJ:AL->List UInt8->Option Nat
 |[],_=>none
 |(k,v)::r,x=>if k=x then some v else uJ r x
def tQ:AL->List UInt8->Nat->AL
 |[],x,u=>[(x,u)]
 |(k,v)::r,x,u=>if k=x then(k,u)::r else(k,v)::tQ r x u
def pH (l:AL):KV:=l.map fun p=>(p.1,Pt p.2 0)
theorem Tc:∀(l:AL) (x:List UInt8),Cu (pH l) x=(uJ l x).map (Pt · 0)
 |[],x=>rfl
 |(k,v)::r,x=>by
  simp only[pH,aX,Cu,uJ];by_cases h:k=x
  ·simp[h]
  rw[if_neg h,if_neg h];exact Tc r x
theorem Nw:∀(l:AL) (x:List UInt8) (u:Nat),ug (pH l) x (Pt u 0)=pH (tQ l x u)
 |[],x,u=>rfl
 |(k,v)::r,x,u=>by
  simp only[pH,aX,ug,tQ];by_cases h:k=x
  ·simp[h]
  rw[if_neg h,if_neg h];have:=Nw r x u;simp only[pH] at this;simp[this]
theorem ZH (l:AL) (x:List UInt8):(Cu (pH l) x).getD Nil=PO (uJ l x):=by
 rw[Tc];cases uJ l x<;>rfl
def getM (f:Nat->Option Nat) (l:AL) (m:List UInt8):Option Nat:=
 match nY m with
 |some i=>f i
 |none=>uJ l m
def re (f:Nat->Option Nat) (l:AL):Bool:=
 (f 0).isSome ||(f 1).isSome ||(f 2).isSome ||(f 3).isSome ||(f 4).isSome ||(f 5).isSome ||(f 6).isSome ||(f 7).isSome ||(f 8).isSome ||(f 9).isSome ||(f 10).isSome || !l.isEmpty
def uK (w:World):Option Nat->AL->Prop
 |none,l=>l=[]
 |some b,l=>w.heap[b]? =some (pG (pH l))
theorem uK.old {w w':World} {H:SH} {mp:Option Nat} {l:AL} (qJ:uK w mp l) (h:HF w (fun _=>False) H w'):uK w' mp l:=by
 cases mp with
 |none=>exact qJ
 |some b=>exact h.old qJ id
variable {P:Program} {c:Cx} {n:Nat} {k:List Item} {fr:SF} {H:SH} {ty:TypeId}
theorem iA {t e u:TypeId} {x:Operand} {p:Option Nat} (hU:P.underlying t=some (.pointer e)) (hx:ev fr x=some (PO p)):nB P c n (.binOp .neq t x (.const Nil) u) ty fr H (.bool p.isSome):=by
 cases p with
 |none=>exact jW (p:=none) hU hx
 |some b=>exact jW (p:=some ⟨b,0,none⟩) hU hx
theorem jg {t e u:TypeId} {x:Operand} {p:Option Nat} (hU:P.underlying t=some (.pointer e)) (hx:ev fr x=some (PO p)):nB P c n (.binOp .eql t x (.const Nil) u) ty fr H (.bool p.isNone):=by
 cases p with
 |none=>exact jP (p:=none) hU hx
 |some b=>exact jP (p:=some ⟨b,0,none⟩) hU hx
theorem l8 {t kt e:TypeId} {x:Operand} {p:Option Nat} {l:AL} (hU:P.underlying t=some (.map kt e)) (h:ev fr x=some (.map p)) (hm:uK c.w0 p l) (hD:∀b,p=some b->¬c.D b):
  nB P c n (.call ⟨.builtin .len, #[x], #[t]⟩) ty fr H (I (l.length:Nat)):=by
 intro a w ha hw dst pos mG g
 cases p with
 |none=>
  simp only[uK] at hm;subst hm
  simp[execOp,resolve,invoke,builtin,ha.eval h,Builtin.len_,underlying,hU,goInt]
 |some b=>
  have hb:w.heap[b]? =some (pG (pH l)):=hw.old hm (hD b rfl);have hg:(getObj b).run P w=.ok (.map (p4 0 (pH l)).toArray (pH l).length) w:=by simp[getObj,Sem.run,hb,pG]
  simp[execOp,resolve,invoke,builtin,ha.eval h,Builtin.len_,underlying,hU,goInt,hg,SP,pH]
theorem ZI (p:Option Nat):(PO p).cells = #[PO p]:=by cases p<;>rfl
theorem Bk (k:IntKind) (i:Int):(Value.int k i).cells = #[.int k i]:=rfl
theorem HZ (b:Bool):(Value.bool b).cells = #[.bool b]:=rfl
theorem tR (s:ByteArray):(Value.string s).cells = #[.string s]:=rfl
theorem Cv (p:Option Addr):(Value.pointer p).cells = #[.pointer p]:=rfl
theorem DX (p:Option Addr) (l c:Nat):(Value.slice p l c).cells = #[.slice p l c]:=rfl
theorem ZJ (p:Option Nat):(Value.map p).cells = #[.map p]:=rfl
theorem qp (a:Array Value):(Value.agg a).cells =a:=rfl
def DY (fr:SF):List (Nat×Operand)->Option (List (Nat×Value))
 |[]=>some []
 |(i,x)::r=>match ev fr x,DY fr r with
  |some v,some vs=>some ((i,v)::vs)
  |_,_=>none
theorem Fr.KD {fr:SF} {n:Nat} {a:Act} (ha:Fr n fr a):∀{xs:List (Nat×Operand)} {vs:List (Nat×Value)},DY fr xs=some vs->xs.map (fun p=>(p.1,a.eval p.2))=vs
 |[],vs,h=>by simp[DY] at h;simp[h]
 |(i,x)::r,vs,h=>by
  simp only[DY] at h;split at h
  ·rename_i v ws hv HA;simp only[bk] at h;subst h;simp[ha.eval hv,ha.KD HA]
  cases h
theorem iN {t:TypeId} {ps:List (Nat×Operand)} {vs:List (Nat×Value)} {v:Value} (he:DY fr ps=some vs) (hr:∀w,(Instr.build t vs.toArray).run P w=.ok v w):nB P c n (.build t ps.toArray) ty fr H v:=by
 intro a w ha hw dst pos mG g;have:=ha.KD he;simp[execOp,this,hr]
end Bw
namespace Bw
open Go Go.Proofs
variable {P:Program} {c:Cx} {n:Nat} {k:List Item} {fr:SF} {H:SH} {ops:Array Oper} {rest:List Oper} {ty t:TypeId} {pos:String} {mG:Array Edge}
theorem jS {src dst e:TypeId} {x:Operand} {d:Nat} {l:List UInt8} (hs:P.underlying src=some .string) (ZK:P.underlying dst=some (.slice e)) (he:P.underlying e=some (.int .u8)) (hx:ev fr x=some (S l)) (hd:Nat.blt d n=true)
  (hk:∀b cp (z:List UInt8) fz,c.w0.heap.size<=b->l.length<=cp->G P c n k ops rest ((d,Sx b l.length cp)::fr) (⟨b,true,.row (bC (l++z)) e fz⟩::H)):G P c n k ops (⟨some d,.convert src dst x,ty,pos,mG,none⟩::rest) fr H:=by
 intro hf a w ha hw;refine wpList_step fun K hK=>?_
 have rM:(⟨l.toArray⟩:ByteArray).size =l.length:=eY;have h:=run_bytes_of_string (P:=P) w src dst e ⟨l.toArray⟩ hs ZK he;have Td:=grownCap_ge w (⟨l.toArray⟩:ByteArray).size 0 e;rw[rM] at h Td;generalize grownCap w l.length 0 e=cp at h Td
 have n5:bytesRow ⟨l.toArray⟩ cp=(bC (l++List.replicate (cp-l.length) 0)).toArray :=by
  simp[bytesRow,bC,Lib.byteCells,rM]
 rw[n5] at h;generalize DR:((bC (l++List.replicate (cp-l.length) 0)).toArray.size,(bC (l++List.replicate (cp-l.length) 0)).toArray.size +1)=fz at h
 have vd:(execOp a.eval ⟨some d,.convert src dst x,ty,pos,mG,none⟩).run P w=.ok (.value (Sx w.heap.size l.length cp)) (w.drew.alloc (.cells (bC (l++List.replicate (cp-l.length) 0)).toArray e fz)):=by
  simp[execOp,ha.eval hx,h]
 simp only[Region.wanted,if_true,Oper.wp,vd,Oper.upon];have tA:HF c.w0 c.D H w.drew:=hw.drew _;exact hK _ _ (hk w.heap.size cp (List.replicate (cp-l.length) 0) fz hw.size (by omega) hf _ _ (ha.put hd _) (tA.push (.row (bC (l++List.replicate (cp-l.length) 0)) e fz)))
theorem j9 {t u s:Nat} {v x y:Value} (hr:c.fn.results= #[.tmp t,.tmp u,.tmp s]) (hv:look t fr=some v) (hx:look u fr=some x) (hy:look s fr=some y) (hR:∀w,HF c.w0 c.D H w->c.R (.returned (.tuple #[v,x,y])) w):GC P c n (.code .ret ::k) fr H:=by
 intro hf a w ha hw b hb hk cs;refine⟨.returned _,w,_,hR w hw,.one step_ret,hb,rfl,ha.defers,hk,c.fn,by simpa[Frame.at,hb] using hf,?_⟩;have h1:=ha.at_ t v hv;have h2:=ha.at_ u x hx;have h3:=ha.at_ s y hy;simp[results,hr,Frame.at,h1,h2,h3]
theorem jB {t u e:TypeId} {x:Operand} {p:Option Addr} {l cp:Nat} (hU:P.underlying t=some (.slice e)) (hx:ev fr x=some (.slice p l cp)):nB P c n (.binOp .neq t x (.const (.slice none 0 0)) u) ty fr H (.bool (!p.isNone)):=by
 intro a w ha hw dst pos mG g;have h1:(Op.equal t (.slice p l cp) (.slice none 0 0)).run P w=.ok p.isNone w:=Su 9999 p l cp hU;have hk:∀v:Value,a.eval (.const v)=v:=fun _=>rfl
 simp[execOp,ha.eval hx,hk,eqGuard,binOp,h1]
theorem jd {P:Program} {c:Cx} {n:Nat} {k:List Item} {fr:SF} {H:SH} {ops:Array Oper} {rest:List Oper} {op:Op} {ty:TypeId} {d:Option Tmp} {j t:Nat} {b:Bool} {pos:String} {mG:Array Edge} (hj:(ops[j]?).bind (·.dst)=some t) (hb:look t fr=some (.bool b))
  (h:G P c n k ops (⟨d,op,ty,pos,mG,none⟩::rest) fr H):G P c n k ops (⟨d,op,ty,pos,mG,some (j,b)⟩::rest) fr H:=by
 intro hf a w ha hw;have h1:=h hf a w ha hw;have hy:yielded ops a.tmps j=some b:=by simp[yielded,hj,ha.at_ t _ hb]
 have w1:Region.wanted ⟨d,op,ty,pos,mG,some (j,b)⟩ (yielded ops a.tmps)=true:=by simp[Region.wanted,hy]
 have w0:Region.wanted ⟨d,op,ty,pos,mG,none⟩ (yielded ops a.tmps)=true:=rfl;unfold wpList at h1⊢;rw[if_pos w0] at h1;rw[if_pos w1];exact h1
theorem l9 {t u:TypeId} {x y:Operand} {kd:IntKind} {i j:Nat} (hx:ev fr x=some (.int kd (i:Int))) (hy:ev fr y=some (.int kd (j:Int))):nB P c n (.call ⟨.builtin .max, #[x,y], #[t,u]⟩) ty fr H (.int kd ((max i j:Nat):Int)):=by
 intro a w ha hw dst pos mG g;have h:=Go.run_max_int2 (P:=P) (w:=w) #[t,u] ty kd kd (i:Int) (j:Int)
 have e:(if ((j:Int)>(i:Int)) then(j:Int) else(i:Int))=((max i j:Nat):Int):=by
  split<;>omega
 rw[e] at h;simp[execOp,resolve,invoke,builtin,ha.eval hx,ha.eval hy,h]
end Bw
namespace Bw
open Go
variable {P:Program} {c:Cx} {n:Nat} {k:List Item} {fr:SF} {H:SH} {ops:Array Oper} {rest:List Oper} {ty:TypeId} {pos:String} {mG:Array Edge}
theorem ZL {P:Program} (t:TypeId) (v:Value) (w:World):(Instr.panic (.iface t v)).run P w=.halt (.panic (.iface t v)) w:=rfl
theorem kp {x:Operand} {t:TypeId} {v:Value} {d:Option Tmp} (hx:ev fr x=some (.iface t v)) (hR:∀w,HF c.w0 c.D H w->c.R (.panicked [{v:=.iface t v,recovered:=false}]) w):
  G P c n k ops (⟨d,.panic x,ty,pos,mG,none⟩::rest) fr H:=by
 intro hf a w ha hw;refine wpList_step fun K hK=>?_
 have h1:(execOp a.eval ⟨d,.panic x,ty,pos,mG,none⟩).run P w=.halt (.panic (.iface t v)) w:=by
  simp[execOp,ha.eval hx,ZL]
 simp only[Region.wanted,if_true,Oper.wp,h1,Oper.upon];exact⟨ha.defers,hR w hw⟩
theorem kq {t:TypeId} {x:Operand} {l:List UInt8} (hU:P.underlying t=some .string) (hx:ev fr x=some (S l)):nB P c n (.makeInterface t x) ty fr H (.iface t (S l)):=by
 intro a w ha hw dst pos mG g;simp[execOp,ha.eval hx,Instr.makeInterface,underlying,hU,S]
def wP (e:Ending):Prop:=∃t v,e=.panicked [{v:=.iface t v,recovered:=false}]
theorem ku {H1 Hk:SH} {g:FuncId} {xs:List Operand} {vs:List Value} {pj:Array TypeId} {d:Nat} (J:Value->SH->Prop) (X:SH->Prop) (hp:H.Perm (H1++Hk)) (ha:∀e∈H1,e.w=true)
  (hg:∀(args:Array Value) w,(callFunc g args).run P w=.ok (.enter g args) w) (he:rN fr xs=some vs) (hd:Nat.blt d n=true)
  (hc:∀w,HF w (fun b=>∃e∈H1,e.b=b) H1 w->
   Calls P g vs.toArray w (fun e w'=>∃ni,(∀x∈ni,x.w=true)/\HF w (fun b=>∃e∈H1,e.b=b) ni w'/\((∃v,e=.returned v/\J v ni)\/(wP e/\X ni))))
  (hk:∀v ni,J v ni->G P c n k ops rest ((d,v)::fr) (ni++Hk)) (hR:∀ni e w',X ni->wP e->HF c.w0 c.D (ni++Hk) w'->c.R e w'):
  G P c n k ops (⟨some d,.call ⟨.value (.func g),xs.toArray,pj⟩,ty,pos,mG,none⟩::rest) fr H:=by
 intro hf a w Ao hw;refine wpList_step fun K' Bf=>?_
 simp only[Region.wanted,if_true,Oper.wp,Cr Ao hg he,Oper.upon];have hh:=hw.perm hp;have nj:=bS.1 hh.nd;refine(hc w (hh.loc (fun e he=>ay _ he) nj.1)).mono fun e w' ⟨ni,h1,h2,h3⟩=>?_
 have hb:=hw.back hp ha h1 h2;rcases h3 with⟨v,rfl,hJ⟩|⟨⟨t,v,rfl⟩,hX⟩
 ·exact Bf _ _ (hk v ni hJ hf _ _ (Ao.put hd v) hb)
 exact⟨Ao.defers,hR ni _ _ hX ⟨t,v,rfl⟩ hb⟩
end Bw
namespace Go.Proofs
open Go Bw
def DZ (s p:List UInt8) (r:Int):Prop:=(r= -1/\∀i,i+p.length<=s.length->(s.take (i+p.length)).drop i≠p)\/(∃i:Nat,r=i/\i+p.length<=s.length/\(s.take (i+p.length)).drop i=p/\∀j,j<i->(s.take (j+p.length)).drop j≠p)
theorem ZM {s p:List UInt8} {r r':Int} (h:DZ s p r) (h':DZ s p r'):r=r':=by
 rcases h with⟨rfl,h⟩|⟨i,rfl,h1,h2,h3⟩<;>rcases h' with⟨rfl,h'⟩|⟨j,rfl,zr,HN,Nx⟩
 ·rfl
 ·exact absurd HN (h j zr)
 ·exact absurd h2 (h' i h1)
 rcases Nat.lt_trichotomy i j with h|h|h
 ·exact absurd h2 (Nx i h)
 ·rw[h]
 exact absurd HN (h3 j h)
theorem ZN (s p:List UInt8):∃r,DZ s p r:=by
 by_cases h:∃i,i+p.length<=s.length/\(s.take (i+p.length)).drop i=p
 ·obtain⟨i,hi⟩:=h
  induction i using Nat.strongRecOn with
  |_ i ih=>
   by_cases h2:∃j,j<i/\(s.take (j+p.length)).drop j=p
   ·obtain⟨j,h3,h4⟩:=h2;exact ih j h3 ⟨by omega,h4⟩
   exact⟨i,.inr ⟨i,rfl,hi.1,hi.2,fun j hj e=>h2 ⟨j,hj,e⟩⟩⟩
 exact⟨-1,.inl ⟨rfl,fun i hi e=>h ⟨i,hi,e⟩⟩⟩
theorem Ny (w:World) (s p:List UInt8) (hs:s.length<=1000000000000) (hp:p.length<=1000000000000):Calls Tryd.prog 75 #[S s,S p] w fun e w'=>∃r,DZ s p r/\e=.returned (I r)/\HF w (fun _=>False) [] w':=by
 refine enter (fun _=>False) [] Tryd.func75 rfl Tryd.ntmps75 rfl rfl (HF.start w _) fun c hc=>?_
 subst hc;refine gz<|gD<|gF<|gC<|gz<|gz<|gD<|gF<|gC<|gW ?_
 refine iC (fun N bc H'=>∃i,i+N=s.length+1/\(∀j,j<i->j+p.length<=s.length->(s.take (j+p.length)).drop j≠p)/\Sub [(0,S s),(1,S p),(5,I ((i:Nat):Int))] bc/\H'=[]) (s.length+1)
  ⟨0,by omega,fun j h=>by omega,.of rfl,rfl⟩ ?_
 rintro N bc H' ⟨i,hi,pN,hs,rfl⟩ ih;refine gN hs ?_;clear hs;refine gz<|gz<|gD<|gB<|gB<|gA (ig aa rfl) ?_;refine gA (iB (r:=((i+p.length:Nat):Int)) rfl rfl (by omega) (by omega) (by omega))<|gB<|gA (ig aa rfl)<|gA (jG rfl rfl)<|gC<|gS rfl (fun vj=>?_) (fun vj=>?_)
 ·refine gL<|gz<|gW<|gz ?_;have hle:i+p.length<=s.length:=by omega
  refine gD<|gB<|gB<|gB<|gB<|gA (ig aa rfl) ?_;refine gA (iB (r:=((i+p.length:Nat):Int)) rfl rfl (by omega) (by omega) (by omega))<|gA (kG (i:=i) (j:=i+p.length) aa rfl rfl rfl (by omega) (by omega))<|gB<|gA (iE rfl rfl)<|gC<|gS rfl (fun uj=>?_) (fun uj=>?_)
  ·exact gz<|gD<|gB<|gF<|gC<|ic rfl rfl fun w' ia=>⟨_,.inr ⟨i,rfl,hle,by simpa using uj,fun j hj=>pN j hj (by omega)⟩,rfl,ia⟩
  refine gL<|il<|gD<|gB<|gA (iy i (by omega))<|gF<|gC<|ih (N-1) _ _ (by omega) ⟨i+1,by omega,fun j hj oC=>?_,.of rfl,rfl⟩;by_cases e:j=i
  ·subst e;simpa using uj
  exact pN j (by omega) oC
 exact ir rfl<|gz<|gD<|gF<|gC<|ic rfl rfl fun w' ia=>⟨_,.inl ⟨rfl,fun j hj=>pN j (by omega) hj⟩,rfl,ia⟩
theorem Te (w:World) (s p:List UInt8) (hs:s.length<=1000000000000) (hp:p.length<=1000000000000):Calls Tryd.prog 74 #[S s,S p] w fun e w'=>∃a b t,a<+:s/\e=.returned (.tuple #[S a,S b,.bool t])/\HF w (fun _=>False) [] w':=by
 refine enter (fun _=>False) [] Tryd.func74 rfl Tryd.ntmps74 rfl rfl (HF.start w _) fun c hc=>?_
 subst hc;refine gz<|gD<|gF<|gF<|gF<|gC<|gz<|gz<|gD<|gB<|gB<|iP (fun v H2=>∃r,DZ s p r/\v=I r/\H2=[]) Tryd.call75 rfl rfl (fun w1 fa=>(Ny w1 s p hs hp).mono fun e w' ⟨r,h1,h2,h3⟩=>⟨_,_,h2,fa.o9 h3 (fun e he=>by cases he),r,h1,rfl,rfl⟩) ?_;rintro v H2 ⟨r,hr,rfl,rfl⟩;refine gF<|gC<|gz<|gD<|gB<|gA (jJ rfl rfl)<|gC<|gS rfl (fun vj=>?_) (fun vj=>?_)
 ·refine gz ?_
  obtain⟨i,rfl,hi,xV⟩:∃i:Nat,r=i/\i+p.length<=s.length/\(s.take (i+p.length)).drop i=p:=by
   rcases hr with⟨h,_⟩|h
   ·omega
   obtain⟨i,h1,h2,h3,_⟩:=h;exact⟨i,h1,h2,h3⟩
  exact iV mixed (by kernel_rfl)<|gK (gM rfl)<|gK (gM rfl)<|gK (jm (j:=i) aa rfl rfl (by omega))<|gK (gM rfl)<|gK (gM rfl)<|gK (gM rfl)<|gK (ig aa rfl)<|gK (iB (r:=((i+p.length:Nat):Int)) rfl rfl (by omega) (by omega) (by omega))<|gK (iX (i:=i+p.length) aa rfl rfl (by omega))<|gK (iT rfl)<|gK (iT rfl)<|gK (iT rfl)<|iH<|j9 rfl rfl rfl rfl fun w' ia=>⟨_,_,_,List.take_prefix _ _,rfl,ia⟩
 exact gL<|gz<|gD<|gB<|gF<|gF<|gF<|gC<|j9 rfl rfl rfl rfl fun w' ia=>⟨_,_,_,fo _,rfl,ia⟩
end Go.Proofs
namespace Bw
open Go
section
variable {P:Program} {ops:Array Oper} {md:Region.Mode} {S:World->Prop} {Q:Exit->Act->World->Prop}
def Fv (P:Program) (md:Region.Mode) (ops:Array Oper) (Q:Exit->Act->World->Prop) (S:World->Prop) (m:Nat) (E:Array Bool->Act->World->Prop):Nat->Array Bool->Act->World->Prop
 |0,l,a,w=>E l a w
 |f+1,l,a,w=>Region.ready md ops l≠[]/\∀i,i∈Region.ready md ops l->i<m/\wpOp P ops Q i (fun a' w'=>S w'/\Fv P md ops Q S m E f (l.setIfInBounds i true) a' w') a w
theorem ZO {m g:Nat} {E:Array Bool->Act->World->Prop} (hE:∀l a w,E l a w->wpAny P md ops Q g l a w) (f:Nat):
  ∀l a w,Fv P md ops Q S m E f l a w->wpAny P md ops Q (f+g) l a w:=by
 induction f with
 |zero=>intro l a w h;rw[aH];exact hE l a w h
 |succ f ih=>
  intro l a w h;have e:f+1+g=(f+g)+1:=by omega
  rw[e];refine⟨fun h0=>absurd h0 h.1,fun i hi=>?_⟩;exact wpOp_mono (fun a' w' h'=>ih _ a' w' h'.2) (h.2 i hi).2
theorem ZP {m i:Nat} {oi:Oper} {v:Value} {E:Array Bool->Act->World->Prop} (hi:ops[i]? =some oi) (yK:∀(j:Nat) (o:Oper) cs b,ops[j]? =some o->o.op≠ .select cs b)
  (hQ:∀c a w,Q (.panic c) (a.put oi.dst v) w->Q (.panic c) a w)
  (hs:Region.sinkB md ops m=true) (hc:Region.chainB md ops m=true) (hm:m<ops.size) (xm:i<m) (hE:∀l a w,E l a w->∀j,j∈Region.ready md ops l->m<=j) (f:Nat):
  ∀l a w,HeadInv md ops m l->(∀j oj,ops[j]? =some oj->j≠i->l.getD j true=false->(∀e∈oj.after,Region.binds md e=true->e.on≠i)->oi.apart ops oj=true)->
   i∈Region.ready md ops l->YieldsIf P ops S oi v a->S w->Fv P md ops Q S m E f (l.setIfInBounds i true) (a.put oi.dst v) w->Fv P md ops Q S m E (f+1) l a w:=by
 induction f with
 |zero=>
  intro l a w inv DU hr hy hS hk;have rX:=(mem_ready.1 hr).1;refine⟨fM hr,fun j hj=>?_⟩
  have zn:j<m:=by
   rcases cn j m with h|h
   ·exact h
   exact absurd hj (tail_waits hs hc hm inv _ i rfl xm rX j h)
  refine⟨zn,?_⟩;rcases Nat.decEq j i with mW|rfl
  ·have:=hE _ _ _ hk j (ready_mono hj mW);omega
  exact hy.wpOp hi hS ⟨hS,hk⟩
 |succ f ih=>
  intro l a w inv DU hr hy hS hk;have rX:=(mem_ready.1 hr).1;refine⟨fM hr,fun j hj=>?_⟩
  have zn:j<m:=by
   rcases cn j m with h|h
   ·exact h
   exact absurd hj (tail_waits hs hc hm inv _ i rfl xm rX j h)
  refine⟨zn,?_⟩;rcases Nat.decEq j i with mW|rfl
  ·have yL:=(hk.2 j (ready_mono hj mW)).2;obtain⟨HE,oj,DV,pN⟩:=mem_ready.1 hj
   have uH:∀e∈oj.after,Region.binds md e=true->e.on≠i:=fun e he hb M9=>by
    have h1:=pN e he hb;rw[M9,getD_both rX] at h1;cases h1
   have h2:=wpOp_putIf DV (DU j oj DV mW HE uH) (fun cs b=>yK i oi cs b hi) (fun cs b=>yK j oj cs b DV) hQ hy yL;refine wpOp_mono (fun a' w' h3=>⟨h3.2.1,ih (l.setIfInBounds j true) a' w' (inv.set hj zn) (fun x ox hx HG Na nN=>DU x ox hx HG ?_ nN) (ready_mono hr (Ne.symm mW)) h3.1 h3.2.1 ?_⟩) h2
   ·rcases Nat.decEq j x with h|rfl
    ·rwa[getD_set_ne true h] at Na
    exact HE
   have h4:=h3.2.2;rwa[Array.setIfInBounds_comm _ _ (Ne.symm mW)] at h4
  exact hy.wpOp hi hS ⟨hS,hk⟩
end
variable {P:Program} {c:Cx} {n:Nat} {k:List Item} {fr:SF} {H:SH} {ops:Array Oper} {rest tail:List Oper} {ty:TypeId} {pos:String} {mG:Array Edge} {S:World->Prop} {m nv:Nat} {listed:Array Bool}
def Tf (P:Program) (c:Cx) (k:List Item) (ops:Array Oper) (m:Nat) (tail:List Oper) (l:Array Bool) (a:Act) (w:World):Prop:=
 Region.seqB .any ops (ops.size-m) m l=true/\wpList P ops (Qk P c k) tail a w
def GM (P:Program) (c:Cx) (n:Nat) (k:List Item) (ops:Array Oper) (S:World->Prop) (m:Nat) (tail:List Oper) (nv:Nat) (listed:Array Bool) (fr:SF) (H:SH):Prop:=
 P.funcs[c.f]? =some c.fn->∀a w,Fr n fr a->HF c.w0 c.D H w->HeadInv .any ops m listed->Fv P .any ops (Qk P c k) S m (Tf P c k ops m tail) nv listed a w
def Ar (P:Program) (c:Cx) (n:Nat) (k:List Item) (ops:Array Oper) (S:World->Prop) (m:Nat) (tail:List Oper) (nv:Nat) (listed:Array Bool) (o:Oper) (fr:SF) (H:SH):Prop:=
 P.funcs[c.f]? =some c.fn->∀a w,Fr n fr a->HF c.w0 c.D H w->HeadInv .any ops m listed->o.guard=none/\o.wp P a w (fun a' w'=>S w'/\Fv P .any ops (Qk P c k) S m (Tf P c k ops m tail) nv listed a' w') (Qk P c k)
def Fw (ops:Array Oper) (m:Nat):Bool:=Region.noSelect ops&&decide (m<ops.size)&&Region.sinkB .any ops m&&Region.chainB .any ops m
theorem Nb {l:List Oper} (m:Nat):HeadInv .any l.toArray m (Array.replicate l.toArray.size false):=
 ⟨by simp,fun j oj _ hl=>(by rw[getD_replicate_false] at hl;cases hl),fun t _ ht=>getD_in (by simpa using ht) (getD_replicate_false _ _)⟩
theorem jT {id:Nat} {l:List Oper} (m:Nat) (S:World->Prop) (hm:P.follows .mixedOrders =true) (hB:Nat.ble m l.length=true) (h:GM P c n k l.toArray S m (l.drop m) m (Array.replicate l.toArray.size false) fr H):
  GC P c n (.code (.region id l.toArray true)::k) fr H:=by
 intro hf a w ha hw;refine xk.of_wp hf (wp_region_any hm ?_);have h1:=h hf a _ ha (hw.drew (w.drawn+1)) (Nb m)
 have h2:=ZO (g:=l.toArray.size-m) (fun li a w ⟨hq,hl⟩=>by
  have nn:(l.drop m).length =l.toArray.size-m:=by simp
  have h3:=wpAny_of_seq (P:=P) (md:=.any) (Q':=Qk P c k) (l.drop m) m li a w (fun j=>by simp) (by rw[nn];exact hq) hl
  rw[nn] at h3;exact h3) m _ a _ h1
 have e:m+(l.toArray.size-m)=l.toArray.size:=by have:=Nat.le_of_ble_eq_true hB;simp;omega
 rw[e] at h2;exact h2
theorem lc {i d:Nat} {op:Op} {v:Value} (hi:ops[i]? =some ⟨some d,op,ty,pos,mG,none⟩) (nk:Fw ops m=true) (hB:(Region.free .any ops listed i&&(Region.ready .any ops listed).contains i&&Nat.blt i m)=true)
  (hS:∀w,HF c.w0 c.D H w->S w) (hv:∀a w,Fr n fr a->S w->∀dst pos mG g,(execOp a.eval ⟨dst,op,ty,pos,mG,g⟩).run P w=.ok (.value v) w) (hd:Nat.blt d n=true)
  (h:GM P c n k ops S m tail nv (listed.setIfInBounds i true) ((d,v)::fr) H):GM P c n k ops S m tail (nv+1) listed fr H:=by
 intro hf a w ha hw inv;simp only[cG,Fw,decide_eq_true_eq] at hB nk;have xm:i<m:=by simpa[Nat.blt_eq] using hB.2
 have hr:i∈Region.ready .any ops listed:=by simpa using hB.1.2
 exact ZP hi (Region.noSelect_spec nk.1.1.1) (fun ch a' w' hq=>⟨hq.1,hq.2⟩) nk.1.2 nk.2 nk.1.1.2 xm (fun l a w hE=>seqB_ready hE.1) nv listed a w inv (Region.free_spec hi hB.1.1) hr (.inl ⟨by simp[Region.wanted],fun w' HP=>hv a w' ha HP _ _ _ _⟩) (hS w hw) (h hf _ _ (ha.put hd v) hw (inv.set hr xm))
theorem ma (i:Nat) {d:Nat} {op:Op} {v:Value} (hi:ops[i]? =some ⟨some d,op,ty,pos,mG,none⟩) (nk:Fw ops m=true) (hB:(Region.free .any ops listed i&&(Region.ready .any ops listed).contains i&&Nat.blt i m)=true)
  (hS:∀w,HF c.w0 c.D H w->S w) (hv:∀(w0:World),nB P ⟨c.f,c.fn,c.R,w0,fun _=>False⟩ n op ty fr [] v) (hd:Nat.blt d n=true)
  (h:GM P c n k ops S m tail nv (listed.setIfInBounds i true) ((d,v)::fr) H):GM P c n k ops S m tail (nv+1) listed fr H:=
 lc hi nk hB hS (fun a w ha _ dst pos mG g=>hv w a w ha (HF.start w _) dst pos mG g) hd h
theorem me (i:Nat) {d:Nat} {t:TypeId} {x:Operand} {b off:Nat} {v:Value} (hi:ops[i]? =some ⟨some d,.load t x,ty,pos,mG,none⟩) (nk:Fw ops m=true) (hB:(Region.free .any ops listed i&&(Region.ready .any ops listed).contains i&&Nat.blt i m)=true)
  (hS:∀w,HF c.w0 c.D H w->S w) (hA:∀w,(isAgg t).run P w=.ok false w) (hx:ev fr x=some (Pt b off)) (hc:∀w,S w->w.cell? ⟨b,off,none⟩=some v) (hd:Nat.blt d n=true)
  (h:GM P c n k ops S m tail nv (listed.setIfInBounds i true) ((d,v)::fr) H):GM P c n k ops S m tail (nv+1) listed fr H:=
 lc hi nk hB hS (fun a w ha hS dst pos mG g=>by simp[execOp,ha.eval hx,Instr.loadAt,Instr.sureAddr,loadVar,hA,run_load,hc w hS]) hd h
theorem jN (hS:∀w,HF c.w0 c.D H w->S w) (h:(∀w,HF c.w0 c.D H w->S w)->GM P c n k ops S m tail nv listed fr H):GM P c n k ops S m tail nv listed fr H:=h hS
theorem iq (i:Nat) {d:Nat} {op:Op} {v:Value} (hi:ops[i]? =some ⟨some d,op,ty,pos,mG,none⟩) (hS:∀w,HF c.w0 c.D H w->S w) (hv:∀{w0:World},nB P ⟨c.f,c.fn,c.R,w0,fun _=>False⟩ n op ty fr [] v)
  (h:GM P c n k ops S m tail nv (listed.setIfInBounds i true) ((d,v)::fr) H) (nk:Fw ops m=true:=by kernel_rfl) (hB:(Region.free .any ops listed i&&(Region.ready .any ops listed).contains i&&Nat.blt i m)=true:=by kernel_rfl) (hd:Nat.blt d n=true:=by exact rfl):GM P c n k ops S m tail (nv+1) listed fr H:=
 ma i hi nk hB hS (fun _=>hv) hd h
theorem jh (i:Nat) {d:Nat} {t:TypeId} {x:Operand} {b off:Nat} {v:Value} (hi:ops[i]? =some ⟨some d,.load t x,ty,pos,mG,none⟩) (hS:∀w,HF c.w0 c.D H w->S w) (hA:∀w,(isAgg t).run P w=.ok false w) (hx:ev fr x=some (Pt b off)) (hc:∀w,S w->w.cell? ⟨b,off,none⟩=some v)
  (h:GM P c n k ops S m tail nv (listed.setIfInBounds i true) ((d,v)::fr) H) (nk:Fw ops m=true:=by kernel_rfl) (hB:(Region.free .any ops listed i&&(Region.ready .any ops listed).contains i&&Nat.blt i m)=true:=by kernel_rfl) (hd:Nat.blt d n=true:=by exact rfl):GM P c n k ops S m tail (nv+1) listed fr H:=
 me i hi nk hB hS hA hx hc hd h
theorem jC (i:Nat) {o:Oper} (hi:ops[i]? =some o) (hr:(match Region.ready .any ops listed with|[j]=>Nat.beq j i&&Nat.blt i m|_=>false)=true) (h:Ar P c n k ops S m tail nv (listed.setIfInBounds i true) o fr H):GM P c n k ops S m tail (nv+1) listed fr H:=by
 have xn:Region.ready .any ops listed=[i]/\i<m:=by
  split at hr
  ·rename_i j e;simp only[cG] at hr;have e2:=dQ hr.1;subst e2;exact⟨e,by simpa[Nat.blt_eq] using hr.2⟩
  cases hr
 intro hf a w ha hw inv;refine⟨by rw[xn.1];simp,fun j hj=>?_⟩;rw[xn.1,aj] at hj;subst hj;refine⟨xn.2,?_⟩;obtain⟨h1,h2⟩:=h hf a w ha hw (inv.set (by rw[xn.1];simp) xn.2);unfold wpOp;simp only[hi];have:Region.wanted o (yielded ops a.tmps)=true:=by simp[Region.wanted,h1]
 rw[if_pos this];exact .inl h2
theorem jU (hq:Region.seqB .any ops (ops.size-m) m listed=true) (h:G P c n k ops tail fr H):GM P c n k ops S m tail 0 listed fr H:=fun hf a w ha hw _=>⟨hq,h hf a w ha hw⟩
theorem kw {op:Op} {d:Nat} {A:Type} {H':A->SH} {v:A->Value} (hr:∀a w,Fr n fr a->HF c.w0 c.D H w->∃x w',(execOp a.eval ⟨some d,op,ty,pos,mG,none⟩).run P w=.ok (.value (v x)) w'/\HF c.w0 c.D (H' x) w') (hS:∀x w,HF c.w0 c.D (H' x) w->S w)
  (hd:Nat.blt d n=true) (hk:∀x,GM P c n k ops S m tail nv listed ((d,v x)::fr) (H' x)):Ar P c n k ops S m tail nv listed ⟨some d,op,ty,pos,mG,none⟩ fr H:=by
 intro hf a w ha hw inv;obtain⟨x,w',h1,h2⟩:=hr a w ha hw;refine⟨rfl,?_⟩;simp only[Oper.wp,h1,Oper.upon];exact⟨hS x _ h2,hk x hf _ _ (ha.put hd _) h2 inv⟩
theorem mf {op:Op} {v:Value} {d:Nat} (hv:nB P c n op ty fr H v) (hS:∀w,HF c.w0 c.D H w->S w) (hd:Nat.blt d n=true) (hk:GM P c n k ops S m tail nv listed ((d,v)::fr) H):Ar P c n k ops S m tail nv listed ⟨some d,op,ty,pos,mG,none⟩ fr H:=
 kw (A:=Unit) (H':=fun _=>H) (v:=fun _=>v) (fun a w ha hw=>⟨(),w,hv a w ha hw _ _ _ _,hw⟩) (fun _=>hS) hd (fun _=>hk)
theorem kA {op:Op} {d:Nat} {kb:oe} {v:Nat->Value} (hr:∀a w,Fr n fr a->HF c.w0 c.D H w->(execOp a.eval ⟨some d,op,ty,pos,mG,none⟩).run P w=.ok (.value (v w.heap.size)) {w with heap:=w.heap.push kb.den})
  (hS:∀w,HF c.w0 c.D H w->S w) (hd:Nat.blt d n=true) (hk:∀b,GM P c n k ops S m tail nv listed ((d,v b)::fr) (⟨b,true,kb⟩::H)):Ar P c n k ops S m tail nv listed ⟨some d,op,ty,pos,mG,none⟩ fr H:=
 kw (A:=Nat) (H':=fun b=>⟨b,true,kb⟩::H) (v:=v) (fun a w ha hw=>⟨_,_,hr a w ha hw,hw.push kb⟩) (fun _b w hw=>hS w (hw.sub (ai _ _))) hd hk
theorem kB {T e d z:Nat} {xs:List (Nat×Operand)} {vl:List (Nat×Value)} {vs:List Value} (hb:∀w,(Instr.buildSlice T z vl.toArray).run P w=.ok (Sx w.heap.size z z) {w with heap:=w.heap.push (.cells vs.toArray e)})
  (hx:DY fr xs=some vl) (hS:∀w,HF c.w0 c.D H w->S w) (hd:Nat.blt d n=true)
  (hk:∀b,GM P c n k ops S m tail nv listed ((d,Sx b z z)::fr) (Rx b vs e::H)):Ar P c n k ops S m tail nv listed ⟨some d,.buildSlice T z xs.toArray,ty,pos,mG,none⟩ fr H:=by
 refine kA (kb:=.row vs e (0,0)) (v:=fun b=>Sx b z z) (fun a w ha hw=>?_) hS hd hk;have h1:=ha.KD hx;have h2:=hb w;simp only[execOp];have e2:(xs.toArray.map fun p=>(p.1,a.eval p.2))=vl.toArray:=by rw[<-h1];simp
 simp[oe.den] at*;simp[h1,h2]
theorem mg {t:TypeId} {z:Value} {d:Nat} {l:List Value} (hz:∀w,(zeroValue t).run P w=.ok z w) (hl:z.cells.toList=l) (hS:∀w,HF c.w0 c.D H w->S w) (hd:Nat.blt d n=true)
  (hk:∀b,GM P c n k ops S m tail nv listed ((d,Pt b 0)::fr) (Rx b l t::H)):Ar P c n k ops S m tail nv listed ⟨some d,.alloc t,ty,pos,mG,none⟩ fr H:=by
 refine kA (kb:=.row l t (0,0)) (v:=fun b=>Pt b 0) (fun a w ha hw=>?_) hS hd hk;subst hl;simp[execOp,Instr.alloc,hz,newVar,newRow,oe.den]
theorem mh {t:TypeId} {x:Operand} {v:Value} {d:Nat} {l:List Value} (hx:ev fr x=some v) (hl:v.cells.toList=l) (hS:∀w,HF c.w0 c.D H w->S w) (hd:Nat.blt d n=true)
  (hk:∀b,GM P c n k ops S m tail nv listed ((d,Pt b 0)::fr) (Rx b l t::H)):Ar P c n k ops S m tail nv listed ⟨some d,.box t x,ty,pos,mG,none⟩ fr H:=by
 refine kA (kb:=.row l t (0,0)) (v:=fun b=>Pt b 0) (fun a w ha hw=>?_) hS hd hk;subst hl;simp[execOp,ha.eval hx,Instr.box,newVar,newRow,oe.den]
theorem kC {T e sz qg:Nat} {i:TypeInfo} {z:Value} {x y:Operand} {sv:Value} {n0:Nat} {xs vs:List Value} {Hs H':SH} {ad:Addr} {m1 mc d:Nat}
  (hT:P.underlying T=some (.slice e)) (hi:P.info? e=some i) (hz:i.zero=some z) (rM:i.size=sz) (zo:i.bytes=qg) (xR:z.cells.size=sz)
  (hx:ev fr x=some sv) (hy:ev fr y=some (.slice (some ad) m1 mc)) (nx:Own e sz sv n0 xs Hs) (sO:H.Perm (Hs++H'))
  (xS:∀w,HF c.w0 c.D H w->∀j u,vs[j]? =some u->w.cell? (ad.add j)=some u) (qW:vs.length=m1*sz) (h1:∀u∈vs,u.oneCell'=true) (hm:0<m1) (r9:(n0+m1)*qg<=140737488355328) (xo:n0+m1<=9223372036854775807)
  (hS:∀w,HF c.w0 c.D H' w->S w) (hd:Nat.blt d n=true)
  (hk:∀sC nX,Own e sz sC (n0+m1) (xs++vs) nX->GM P c n k ops S m tail nv listed ((d,sC)::fr) (H'++nX)):
  Ar P c n k ops S m tail nv listed ⟨some d,.call ⟨.builtin .append, #[x,y], #[T,T]⟩,ty,pos,mG,none⟩ fr H:=by
 refine kw (A:={p:Value×SH//Own e sz p.1 (n0+m1) (xs++vs) p.2}) (H':=fun p=>H'++p.1.2) (v:=fun p=>p.1.1) (fun a w ha hw=>?_) (fun p w hw=>hS w (hw.sub (cL _ _))) hd (fun p=>hk _ _ p.2);obtain⟨sC,nX,w',g1,g2,g3⟩:=SM (d:=d) (ty:=ty) (pos:=pos) (mG:=mG) hT hi hz rM zo xR hx hy nx sO xS qW h1 hm r9 xo a w ha hw;exact⟨⟨(sC,nX),g1⟩,w',g2,g3⟩
end Bw
namespace Gt
open Gs
inductive Tr (α:Type) where
 |node (a:α) (path idx:List UInt8) (mm:Bool) (nt pr:Nat) (h:Option Nat) (full:List UInt8) (kids:List (Tr α))
variable {α:Type}
namespace Tr
def an:Tr α->α|node a _ _ _ _ _ _ _ _=>a
def path:Tr α->List UInt8|node _ p _ _ _ _ _ _ _=>p
def idx:Tr α->List UInt8|node _ _ i _ _ _ _ _ _=>i
def mm:Tr α->Bool|node _ _ _ w _ _ _ _ _=>w
def nt:Tr α->Nat|node _ _ _ _ n _ _ _ _=>n
def pr:Tr α->Nat|node _ _ _ _ _ p _ _ _=>p
def h:Tr α->Option Nat|node _ _ _ _ _ _ h _ _=>h
def full:Tr α->List UInt8|node _ _ _ _ _ _ _ f _=>f
def kids:Tr α->List (Tr α)|node _ _ _ _ _ _ _ _ k=>k
def Nz:Tr α->Nat->Tr α|node a p i w n _ h f k,q=>node a p i w n q h f k
def KE:Tr α->List (Tr α)->Tr α|node a p i w n q h f _,k=>node a p i w n q h f k
def nL (t:Tr α):Tr α:=t.Nz (t.pr+1)
end Tr
open Tr
abbrev T0:=Tr Unit
def fw:List UInt8->Nat->Option (List UInt8×Nat)
 |[],_=>none
 |c::s,i=>if c=58\/c=42 then some (c::s.takeWhile (· ≠47),i) else fw s (i+1)
def qe (mm:Bool) (kids:List (Tr α)) (k:Tr α):List (Tr α):=
 if mm/\kids≠[] then kids.dropLast++[k]++kids.getLast?.toList else kids++[k]
def vk (nh:List Nat) (prio:Nat):Nat->Nat
 |0=>0
 |p+1=>if nh.getD p 0%4294967296<prio%4294967296 then vk nh prio p else p+1
def oW {β:Type} (l:List β) (pos np:Nat):List β:=l.take np++(l.drop pos).take 1++(l.take pos).drop np++l.drop (pos+1)
def bump (idx:List UInt8) (kids:List (Tr α)) (pos:Nat):List UInt8×List (Tr α)×Nat:=
 let NA:=kids.modify pos nL
 let prio:=((NA[pos]?).map pr).getD 0
 let np:=vk (NA.map pr) prio pos
 (if np≠pos then oW idx pos np else idx,oW NA pos np,np)
def sF:Nat->T0->List UInt8->List UInt8->Nat->Option (Option T0)
 |0,_,_,_,_=>none
 |n+1,.node a tp idx w nt pr h0 f0 kids,path,full,h=>
  match fw path 0 with
  |none=>some (some (.node a path idx w nt pr (some h) full kids))
  |some (wc,i)=>
   if wc.length<2 then some none
   else if wc.head? =some 58 then
    let Tg:=if 0<i then path.take i else tp
    let xq:=path.drop i
    let rest:=xq.drop wc.length
    if wc.length<xq.length then
     (sF n (.node () [] [] false 0 1 none full []) rest full h).map fun r=>r.map fun c2=>
      .node a Tg idx true nt pr h0 f0 (qe w kids (.node () wc [] false 2 1 none full [c2]))
    else some (some (.node a Tg idx true nt pr h0 f0 (qe w kids (.node () wc [] false 2 1 (some h) full []))))
   else if i+wc.length≠path.length then some none
   else if tp.getLast? =some 47 then some none
   else if i=0\/path[i-1]? ≠some 47 then some none
   else some (some (.node a (path.take (i-1)) [47] w nt pr h0 f0 (qe w kids (.node () [] [] true 3 1 none full [.node () (path.drop (i-1)) [] false 3 1 (some h) full []]))))
def split (t:Tr α) (a:α) (i:Nat) (full:List UInt8):Tr α:=
 .node t.an (t.path.take i) ((t.path.drop i).take 1) false t.nt t.pr none full [.node a (t.path.drop i) t.idx t.mm 0 (t.pr+4294967295) t.h t.full t.kids]
def idxOf (c:UInt8):List UInt8->Option Nat
 |[]=>none
 |d::l=>if c=d then some 0 else(idxOf c l).map (· +1)
def wv:Nat->T0->List UInt8->List UInt8->Nat->Nat->Option (Option T0)
 |0,_,_,_,_,_=>none
 |n+1,t0,path,full,nc,h=>
  let i:=mK path t0.path
  let t:=if i<t0.path.length then split t0 () i (full.take (nc+i)) else t0
  match path.drop i with
  |[]=>if t.h.isSome then some none else some (some (.node () t.path t.idx t.mm t.nt t.pr (some h) full t.kids))
  |c::rest=>
   let xq:=c::rest
   if t.nt=2/\c=47/\t.kids.length=1 then
    match t.kids with
    |[k]=>(wv n k.nL xq full (nc+t.path.length) h).map fun r=>r.map fun k'=>t.KE [k']
    |_=>none
   else match idxOf c t.idx with
   |some j=>
    let b:=bump t.idx t.kids j
    match b.2.1[b.2.2]? with
    |some k=>(wv n k xq full (nc+t.path.length) h).map fun r=>r.map fun k'=>.node () t.path b.1 t.mm t.nt t.pr t.h t.full (b.2.1.set b.2.2 k')
    |none=>none
   |none=>
    if c≠58/\c≠42/\t.nt≠3 then
     let Th:=t.idx++[c]
     let ZQ:=qe t.mm t.kids (.node () [] [] false 0 0 none full [])
     let b:=bump Th ZQ (Th.length-1)
     match b.2.1[b.2.2]? with
     |some k=>(sF (xq.length+1) k xq full h).map fun r=>r.map fun k'=>.node () t.path b.1 t.mm t.nt t.pr t.h t.full (b.2.1.set b.2.2 k')
     |none=>none
    else if t.mm then
     match t.kids.getLast? with
     |some k0=>
      let k:=k0.nL
      if k.path.length<=xq.length/\xq.take k.path.length=k.path/\k.nt≠3/\(xq.length<=k.path.length\/xq[k.path.length]? =some 47) then
       (wv n k xq full nc h).map fun r=>r.map fun k'=>t.KE (t.kids.dropLast++[k'])
      else some none
     |none=>none
    else sF (xq.length+1) t xq full h
def vL (t:T0) (path:List UInt8) (h:Nat):Option (Option T0):=
 let t:=t.nL
 if t.path=[]/\t.kids=[] then(sF (path.length+1) t path path h).map fun r=>r.map fun t'=>.node () t'.path t'.idx t'.mm 1 t'.pr t'.h t'.full t'.kids
 else wv (4*path.length+8) t path path 0 h
def new:T0:=.node () [] [] false 0 0 none [47] []
def rO:T0->List (List UInt8)->Nat->T0 ⊕ Nat
 |t,[],_=>.inl t
 |t,r::l,k=>match vL t r (k+1) with
  |some (some t')=>rO t' l (k+1)
  |_=>.inr k
structure Sk where
 path:List UInt8
 node:T0
 ny:Nat
structure n6 where
 h:Option Nat
 ps:List (List UInt8×List UInt8)
 ql:Bool
 full:List UInt8
def Bl:T0->T0|.node a p _ w n q h f k=>.node a p [] w n q h f k
def pop (path:List UInt8):List Sk->Option (Sk×List Sk)
 |[]=>none
 |s::l=>if path<:+s.path then some (s,l) else pop path l
end Gt
namespace Go.Proofs
open Go Bw Gt
def mu (path idx:List UInt8) (mm:Bool) (nt pr:Nat) (kv hv:Value) (full:List UInt8):List Value:=[S path,S idx,.bool mm,.int .u8 (nt:Int),.int .u32 ((pr%4294967296:Nat):Int),kv,hv,S full]
theorem ZR {path idx mm nt pr kv hv full} (h1:kv.oneCell'=true) (h2:hv.oneCell'=true):∀v∈mu path idx mm nt pr kv hv full,v.oneCell'=true:=by
 intro v hm;simp only[mu,af,aC,or_false] at hm;rcases hm with rfl|rfl|rfl|rfl|rfl|rfl|rfl|rfl<;>first|rfl|exact h1|exact h2
inductive HV:Option Nat->Value->SH->Prop
 |nil:HV none (.slice none 0 0) []
 |row {k hb:Nat}:HV (some k) (Sx hb 1 1) [Rx hb [I (k:Int)] 3]
theorem HV.slice {h v H} (x:HV h v H):∃ad l c,v=.slice ad l c/\ad.isNone=h.isNone:=by
 cases x with
 |nil=>exact⟨_,_,_,rfl,rfl⟩
 |row=>exact⟨_,_,_,rfl,rfl⟩
theorem HV.w {h v H} (x:HV h v H):∀e∈H,e.w=true:=by
 cases x with
 |nil=>intro e he;cases he
 |row=>intro e he;rw[aj.1 he]
mutual
inductive HT:T0->Nat->SH->Prop
 |mk {path idx:List UInt8} {mm:Bool} {nt pr:Nat} {h:Option Nat} {full:List UInt8} {kids:List T0} {nb:Nat} {bs:List Nat} {kv hv:Value} {Hs Hh Hk:SH}
   (hs:Own 84 1 kv kids.length (bs.map (Pt · 0)) Hs) (hh:HV h hv Hh) (hk:oq kids bs Hk):HT (.node () path idx mm nt pr h full kids) nb (Rx nb (mu path idx mm nt pr kv hv full) 115::(Hs++(Hh++Hk)))
inductive oq:List T0->List Nat->SH->Prop
 |nil:oq [] [] []
 |cons {t:T0} {b:Nat} {H:SH} {ts:List T0} {bs:List Nat} {Hs:SH} (h:HT t b H) (hs:oq ts bs Hs):oq (t::ts) (b::bs) (H++Hs)
end
theorem Own.Cw {e sz v n xs Hs} (h:Own e sz v n xs Hs):v.oneCell'=true:=by cases h<;>rfl
theorem oq.len {ts bs H}:oq ts bs H->bs.length=ts.length
 |.nil =>rfl
 |.cons _ hs=>by simp[hs.len]
theorem oq.wx:∀{ts:List T0} {bs:List Nat} {H:SH} {Cy:List T0} {HM:List Nat} {H':SH},oq ts bs H->oq Cy HM H'->oq (ts++Cy) (bs++HM) (H++H')
 |_,_,_,_,_,_,.nil,h=>h
 |_,_,_,_,_,_,.cons h hs,h'=>by
  rw[aw];exact .cons h (hs.wx h')
theorem oq.split:∀(n:Nat) {ts:List T0} {bs:List Nat} {H:SH},oq ts bs H->∃H1 H2,oq (ts.take n) (bs.take n) H1/\oq (ts.drop n) (bs.drop n) H2/\H=H1++H2
 |0,_,_,H,h=>⟨[],H,.nil,h,rfl⟩
 |n+1,_,_,_,.nil =>⟨[],[],by simpa using .nil,by simpa using .nil,rfl⟩
 |n+1,_,_,_,.cons (H:=H) h hs=>by
  obtain⟨H1,H2,a,b,c⟩:=hs.split n;exact⟨H++H1,H2,.cons h a,b,by rw[c,aw]⟩
theorem oq.As {ts bs H} (h:oq ts bs H) {j:Nat} {k:T0} (hj:ts[j]? =some k):∃b H1 H2,bs[j]? =some b/\HT k b H1/\H.Perm (H1++H2)/\∀k' ni,HT k' b ni->∃H',oq (ts.set j k') bs H'/\H'.Perm (ni++H2):=by
 have mS:j<ts.length:=(ae.1 hj).1;have yO:j<bs.length:=by rw[h.len];exact mS
 have pz:ts=ts.take j++k::ts.drop (j+1):=by
  conv=>lhs;rw[<-a8 j ts]
  rw[bl mS];rw[ao mS] at hj;rw[bp hj]
 have Bm:bs=bs.take j++bs[j]::bs.drop (j+1):=by
  conv=>lhs;rw[<-a8 j bs]
  rw[bl yO]
 obtain⟨A,B,h1,h2,rfl⟩:=h.split j;rw[bl mS,bl yO] at h2;rw[ao mS] at hj;rw[bp hj] at h2
 cases h2 with
 |cons hk hr=>
  rename_i K R;refine⟨bs[j],K,A++R,ao yO,hk,?_,fun k' ni s7=>⟨A++(ni++R),?_,?_⟩⟩
  ·exact dg _ _ _
  ·have:=h1.wx (.cons s7 hr);rw[<-Bm] at this
   have e:ts.set j k'=ts.take j++k'::ts.drop (j+1):=by
    rw[List.set_eq_take_append_cons_drop,if_pos mS]
   rw[e];exact this
  exact dg _ _ _
theorem oq.one {t b H} (h:HT t b H):oq [t] [b] H:=by have:=oq.cons h .nil;rwa[aS] at this
theorem oq.move {ts bs H} (h:oq ts bs H) {pos np:Nat} (og:np<=pos):∃H',oq (oW ts pos np) (oW bs pos np) H'/\H'.Perm H:=by
 obtain⟨A,B,h1,h2,e1⟩:=h.split pos;obtain⟨A1,A2,h3,h4,e2⟩:=h1.split np;obtain⟨B1,B2,h5,h6,e3⟩:=h2.split 1;rw[fh,dG og] at h3;rw[fh,dG og] at h3;rw[bZ] at h6;rw[bZ] at h6;refine⟨A1++B1++A2++B2,((h3.wx h5).wx h4).wx h6,?_⟩;rw[e1,e2,e3];simp only[aw];exact(dg B1 A2 B2).append_left A1
theorem HT.w:∀{t b H},HT t b H->∀e∈H,e.w=true:=by
 intro t b H h;refine HT.rec (motive_1:=fun t b H _=>∀e∈H,e.w=true) (motive_2:=fun ts bs H _=>∀e∈H,e.w=true) ?_ ?_ ?_ h
 ·intro path idx mm nt pr h full kids nb bs kv hv Hs Hh Hk hs hh hk ih e he;simp only[af,aB] at he;rcases he with rfl|he|he|he
  ·rfl
  ·exact hs.w e he
  ·exact hh.w e he
  exact ih e he
 ·intro e he;cases he
 intro t b H ts bs Hs h hs Cz qz e he;rcases aB.1 he with he|he
 ·exact Cz e he
 exact qz e he
theorem oq.w {ts bs H} (h:oq ts bs H):∀e∈H,e.w=true:=by
 refine oq.rec (motive_1:=fun t b H _=>∀e∈H,e.w=true) (motive_2:=fun ts bs H _=>∀e∈H,e.w=true) ?_ ?_ ?_ h
 ·intro path idx mm nt pr h full kids nb bs kv hv Hs Hh Hk hs hh hk ih e he;simp only[af,aB] at he;rcases he with rfl|he|he|he
  ·rfl
  ·exact hs.w e he
  ·exact hh.w e he
  exact ih e he
 ·intro e he;cases he
 intro t b H ts bs Hs h hs Cz qz e he;rcases aB.1 he with he|he
 ·exact Cz e he
 exact qz e he
theorem uk {w:World} {b off:Nat} {l:List Value} {t:TypeId} {fz:Nat×Nat} {v:Value} (h:w.heap[b]? =some (oe.den (.row l t fz))) (hv:nth l off=some v):w.cell? ⟨b,off,none⟩=some v:=by
 simp only[oe.den] at h;simp only[World.cell?,h];rw[n8] at hv;simp[hv]
theorem KF {P:Program} {T e:Nat} {z a b:Value} (hT:P.underlying T=some (.slice e)) (hs:∀w,(Go.sizeOf e).run P w=.ok 1 w) (hz:∀w,(zeroValue e).run P w=.ok z w) (ha:a.oneCell'=true) (hb:b.oneCell'=true) (w:World):
  (Instr.buildSlice T 2 [(0,a),(1,b)].toArray).run P w=.ok (Sx w.heap.size 2 2) {w with heap:=w.heap.push (.cells [a,b].toArray e)}:=by
 have hc:a.cells= #[a]:=by cases a<;>first|rfl|(simp[Value.oneCell'] at ha)
 have oc:b.cells= #[b]:=by cases b<;>first|rfl|(simp[Value.oneCell'] at hb)
 have h1:Array.range 2= #[0,1]:=rfl;simp[Instr.buildSlice,underlying,hT,hs,hz,Instr.fill,hc,oc,newRow,h1]
theorem ZS {P:Program} {T e:Nat} {z v:Value} (hT:P.underlying T=some (.slice e)) (hs:∀w,(Go.sizeOf e).run P w=.ok 1 w) (hz:∀w,(zeroValue e).run P w=.ok z w) (hv:v.oneCell'=true) (w:World):
 (Instr.buildSlice T 1 [(0,v)].toArray).run P w=.ok (Sx w.heap.size 1 1) {w with heap:=w.heap.push (.cells [v].toArray e)}:=jn hT hs hz hv w
def uL (mm:Bool) (bs:List Nat) (cb:Nat):List Nat:=if mm=true/\bs≠[] then bs.dropLast++[cb]++bs.getLast?.toList else bs++[cb]
theorem Ti {α:Type} (l:List α):l.getLast?.toList=l.drop (l.length-1):=by
 rcases cV l with rfl|⟨p,x,rfl⟩
 ·rfl
 simp
theorem oq.add {mm:Bool} {ts:List T0} {bs:List Nat} {H:SH} (h:oq ts bs H) {t:T0} {b:Nat} {Ht:SH} (ht:HT t b Ht):∃H',oq (qe mm ts t) (uL mm bs b) H'/\H'.Perm (Ht++H):=by
 have hl:=h.len;by_cases hc:mm=true/\ts≠[]
 ·have hb:bs≠[]:=fun e=>hc.2 (by rw[e] at hl;exact bw.1 hl.symm)
  rw[qe,if_pos hc,uL,if_pos ⟨hc.1,hb⟩];obtain⟨A,B,h1,h2,rfl⟩:=h.split (ts.length-1);have e1:=Ti ts;have e2:=Ti bs;rw[hl] at e2;rw[dn,dn,e1,e2,hl];refine⟨_,(h1.wx (oq.one ht)).wx h2,?_⟩;rw[aw];exact dg _ _ _
 have hb:¬(mm=true/\bs≠[]):=fun h1=>hc ⟨h1.1,fun e=>h1.2 (by rw[e] at hl;exact bw.1 hl)⟩
 rw[qe,if_neg hc,uL,if_neg hb];exact⟨_,h.wx (oq.one ht),aF⟩
end Go.Proofs
namespace Go.Proofs
open Go Bw
theorem _root_.Bw.Own.cut {e sz n cap i:Nat} {ad:Option Addr} {xs:List Value} {Hs:SH} (h:Own e sz (.slice ad n cap) n xs Hs) (hi:i<=n):Own e sz (.slice ad i cap) i (xs.take (i*sz)) Hs:=by
 generalize hv:Value.slice ad n cap=v at h
 cases h with
 |nil=>
  cases hv;have:i=0:=by omega
  subst this
  simpa using Own.nil
 | @row b _ _ _ spare hn hc hle=>
  cases hv;have e1:xs++spare=xs.take (i*sz)++(xs.drop (i*sz)++spare):=by rw[<-aw,a8]
  rw[e1] at hc⊢;exact .row (by rw[eH,hn];exact dG (gn _ hi)) hc (by omega)
theorem H5 (w:World) (D:Nat->Prop) (nb cb:Nat) (path idx:List UInt8) (mm:Bool) (nt pr:Nat) (hv:Value) (full:List UInt8) (kv:Value) (bs:List Nat) (Hs:SH) (hb:bs.length<=100000) (hs:Own 84 1 kv bs.length (bs.map (Pt · 0)) Hs) (hH:HF w D (Rx nb (mu path idx mm nt pr kv hv full) 115::Hs) w):
  Calls Tryd.prog 73 #[Pt nb 0,Pt cb 0] w fun e w'=>e=.returned (.tuple #[])/\∃se nX,Own 84 1 se (bs.length+1) ((uL mm bs cb).map (Pt · 0)) nX/\HF w D (Rx nb (mu path idx mm nt pr se hv full) 115::nX) w':=by
 obtain⟨ad,cap,rfl⟩:=hs.slice;have hle:=hs.le;refine enter D (Rx nb (mu path idx mm nt pr (.slice ad bs.length cap) hv full) 115::Hs) Tryd.func73 rfl Tryd.ntmps73 rfl rfl hH fun c hc=>?_
 subst hc;refine gz<|hY (fun bc H'=>∃t:Bool,(t=true<->mm=true/\bs≠[])/\Sub [(0,Pt nb 0),(1,Pt cb 0),(16,.bool t)] bc/\H'=(Rx nb (mu path idx mm nt pr (.slice ad bs.length cap) hv full) 115)::Hs) (fun Tj=>?_) ?_
 ·refine gD<|gB<|gJ rfl<|gH uI rfl<|gA (gG bQ rfl (.head _) rfl)<|gB<|gZ 9 rfl (fun h9=>?_) (fun h9=>?_)
  ·refine gU<|gI (gX rfl)<|gI (gQ p5 rfl)<|gI (gG bj rfl (.head _) rfl)<|gI (iu az rfl)<|gI (iS rfl rfl)<|gT<|gC<|Tj _ _ ⟨_,?_,.of rfl,rfl⟩;rw[decide_eq_true_eq];constructor
   ·intro h;exact⟨h9,fun e=>by rw[e] at h;simp at h⟩
   intro h;have:=aU.2 h.2;omega
  refine gE ?_;refine gE ?_;refine gE ?_;refine gE ?_;refine gE ?_;refine gE ?_;refine hG ?_;refine gC ?_;exact Tj _ _ ⟨false,⟨fun h=>(by cases h),fun h=>by rw[h9] at h;cases h.1⟩,.of rfl,rfl⟩
 rintro bc H' ⟨t,ht,Tl,rfl⟩;refine gN Tl ?_;clear Tl;refine gV rfl (fun pA=>?_) (fun pA=>?_)
 ·refine gz ?_;have fa:=ht.1 pA
  obtain⟨p,x,rfl⟩:∃p x,bs=p++[x]:=by
   rcases cV bs with e|⟨p,x,e⟩
   ·exact absurd e fa.2
   exact⟨p,x,by rw[e,cW]⟩
  obtain⟨rb,xu,spare,e1,rfl⟩:=hs.at (i:=0) (by simp);cases e1;refine iV mixed (by kernel_rfl)<|gK (gM rfl)<|gK (gX rfl)<|gK (gQ p5 rfl)<|gK (gG bj rfl (.head _) rfl)<|gK (gM rfl)<|gK (gX rfl)<|gK (gQ p5 rfl)<|gK (gG bj rfl (.head _) rfl)<|gK (iu az rfl)<|gK (iM (r:=((p.length:Nat):Int)) rfl rfl (by simp) (by omega) (by simp at hb;omega))<|gK (ij (i:=p.length) az bi rfl rfl (by simp))<|gK (gG (b:=rb) (off:=0+p.length*1) (wf:=true) (l:=(p++[x]).map (Pt · 0)++spare) (T:=84) (fz:=(0,0)) (v:=Pt x 0) bK rfl (.tail _ (.head _)) (by rw[n8];simp))<|gK (iT rfl)<|iH<|jT 18 (fun w1=>w1.heap[nb]? =some (oe.den (.row (mu path idx mm nt pr (Sx rb (p++[x]).length cap) hv full) 115 (0,0)))) mixed (by kernel_rfl)<|jN (fun w1 h1=>h1.has (Rx nb (mu path idx mm nt pr (Sx rb (p++[x]).length cap) hv full) 115) (by first|exact .head _|exact .tail _ (.head _))) fun hS=>?_
  refine iq 0 rfl hS (gM rfl)<|iq 1 rfl hS (gM rfl)<|iq 2 rfl hS (gX rfl)<|iq 3 rfl hS (gQ p5 rfl)<|jh 4 rfl hS bj rfl (fun w1 h1=>uk h1 rfl)<|iq 5 rfl hS (gM rfl)<|iq 6 rfl hS (gX rfl)<|iq 7 rfl hS (gQ p5 rfl)<|jh 8 rfl hS bj rfl (fun w1 h1=>uk h1 rfl)<|iq 9 rfl hS (iu az rfl)<|iq 10 rfl hS (iM (r:=((p.length:Nat):Int)) rfl rfl (by simp) (by omega) (by simp at hb;omega))<|iq 11 rfl hS (jF (i:=p.length) az bi rfl rfl (by simp at hle;omega))<|iq 12 rfl hS (gM rfl)<|iq 13 rfl hS (gM rfl)<|jC 14 rfl (by kernel_rfl)<|kB (vs:=[Pt cb 0,Pt x 0]) (KF az bi Tryd.zeroValue84 rfl rfl) rfl (fun w1 h1=>h1.has (Rx nb (mu path idx mm nt pr (Sx rb (p++[x]).length cap) hv full) 115) (.head _)) rfl (fun sb=>?_);refine jC 15 rfl (by kernel_rfl) ?_;have yP:=hs.cut (i:=p.length) (by simp);refine kC (i:=Tryd.t84) (sz:=1) (qg:=8) az rfl rfl rfl rfl rfl rfl rfl yP (H':=[Rx sb [Pt cb 0,Pt x 0] 84,Rx nb (mu path idx mm nt pr (Sx rb (p++[x]).length cap) hv full) 115]) (aF (l₁:=([Rx sb [Pt cb 0,Pt x 0] 84,Rx nb (mu path idx mm nt pr (Sx rb (p++[x]).length cap) hv full) 115]:SH))) (vf (vs:=[Pt cb 0,Pt x 0]) (r:=[]) (.head _)) rfl (by simp[Value.oneCell']) (by omega) (by simp at hb;omega) (by simp at hb;omega) (fun w1 h1=>h1.has (Rx nb (mu path idx mm nt pr (Sx rb (p++[x]).length cap) hv full) 115) (.tail _ (.head _))) rfl (fun ov nU oS=>?_);refine jN (fun w1 h1=>h1.has (Rx nb (mu path idx mm nt pr (Sx rb (p++[x]).length cap) hv full) 115) (by first|exact .head _|exact .tail _ (.head _))) fun hS=>?_
  refine iq 16 rfl hS (gX rfl)<|iq 17 rfl hS (gQ p5 rfl)<|jU (by kernel_rfl)<|gO de rfl rfl (Own.Cw oS) (.s .z) rfl rfl<|gC<|jq rfl fun w' ia=>⟨rfl,ov,nU,?_,ia.sub (ai _ _)⟩
  have e:((uL mm (p++[x]) cb).map (Pt · 0))=((p++[x]).map (Pt · 0)).take (p.length*1)++[Pt cb 0,Pt x 0]:=by
   rw[uL,if_pos fa];simp
  rw[e];have e3:(p++[x]).length +1=p.length+2:=by simp
  rw[e3];exact oS
 refine gD<|gB<|gB<|gJ rfl<|gH p5 rfl<|gA (gG bj rfl (.head _) rfl)<|gB<|je (jn az bi Tryd.zeroValue84 (v:=Pt cb 0) rfl) rfl rfl (fun sb vm=>?_);refine jA (i:=Tryd.t84) (sz:=1) (qg:=8) az rfl rfl rfl rfl rfl rfl rfl hs (H':=[Rx sb [Pt cb 0] 84,Rx nb (mu path idx mm nt pr (.slice ad bs.length cap) hv full) 115]) (aF (l₁:=([Rx sb [Pt cb 0] 84,Rx nb (mu path idx mm nt pr (.slice ad bs.length cap) hv full) 115]:SH))) (vf (vs:=[Pt cb 0]) (r:=[]) (.head _)) rfl (by simp[Value.oneCell']) (by omega) (by omega) (by omega) rfl (fun ov nU oS=>?_);refine gJ rfl<|gH p5 rfl<|gO de rfl rfl (Own.Cw oS) (.s .z) rfl rfl<|gC<|jq rfl fun w' ia=>⟨rfl,ov,nU,?_,ia.sub (ai _ _)⟩
 have hn:¬(mm=true/\bs≠[]):=fun h=>by rw[ht.2 h] at pA;cases pA
 rw[uL,if_neg hn,dX];exact oS
end Go.Proofs
namespace Gt
variable {β:Type}
theorem xW (l:List β) {pos np:Nat} (og:np<=pos) (pW:pos<l.length) (i:Nat):(oW l pos np)[i]? =if i<np then l[i]? else if i=np then l[pos]? else if i<=pos then l[i-1]? else l[i]? :=by
 unfold oW;have h1:(l.take np).length =np:=by simp;omega
 have h2:((l.drop pos).take 1).length =1:=by simp;omega
 have h3:((l.take pos).drop np).length =pos-np:=by simp;omega
 rw[aw,aw];by_cases a:i<np
 ·rw[if_pos a,ak (by omega),bP a]
 rw[if_neg a,bO (by omega),h1];by_cases b:i=np
 ·subst b;rw[if_pos rfl,ak (by omega),gq,bP (by omega),bL];rfl
 rw[if_neg b,bO (by omega),h2];by_cases c:i<=pos
 ·rw[if_pos c,ak (by omega),bL,bP (by omega)];congr 1;omega
 rw[if_neg c,bO (by omega),h3,bL];congr 1;omega
theorem Tm (l:List β) {pos:Nat} (pW:pos<l.length):oW l pos pos=l:=by
 apply c9;intro i;rw[xW l (bI _) pW];by_cases a:i<pos
 ·rw[if_pos a]
 rw[if_neg a];by_cases b:i=pos
 ·rw[if_pos b,b]
 rw[if_neg b,if_neg (by omega)]
theorem CC (l:List β) {pos np:Nat} (og:np<=pos) (pW:pos<l.length):(oW l pos np).length =l.length:=by
 unfold oW;simp;omega
theorem ZT (l:List β) {pos j:Nat} (hj:0<j) (uM:j<=pos) (pW:pos<l.length) {x y:β} (hx:l[pos]? =some x) (hy:l[j-1]? =some y):
  ((oW l pos j).set (j-1) x).set j y=oW l pos (j-1):=by
 apply c9;intro i;have hl:=CC l uM pW;rw[xW l (by omega) pW,dk,cR,hl];by_cases a:j=i
 ·subst a;rw[if_pos rfl,if_pos (by omega),if_neg (by omega),if_neg (by omega),if_pos uM,hy]
 rw[if_neg a,dk,hl];by_cases b:j-1=i
 ·subst b;rw[if_pos rfl,if_pos (by omega),if_neg (by omega),if_pos rfl,hx]
 rw[if_neg b,xW l uM pW];by_cases c:i<j
 ·rw[if_pos c,if_pos (by omega)]
 rw[if_neg c,if_neg (by omega:¬i=j),if_neg (by omega:¬i<j-1),if_neg (by omega:¬i=j-1)]
theorem ZU {l:List β} {i:Nat} {x:β} (f:β->β) (h:l[i]? =some x):l.modify i f=l.set i (f x):=by
 apply c9;intro j;have hi:=(ae.1 h).1;rw[dA,dk];by_cases e:i=j
 ·subst e;rw[if_pos rfl,if_pos hi,h];simp
 rw[if_neg e];simp[e]
theorem D0 (nh:List Nat) (prio:Nat):∀p,vk nh prio p<=p
 |0=>bI _
 |p+1=>by
  unfold vk;split
  ·have:=D0 nh prio p;omega
  exact bI _
end Gt
namespace Go.Proofs
open Go Bw Gt
theorem Bn (n:Nat):IntKind.u32.wrap (((n%4294967296:Nat):Int)+1)=(((n+1)%4294967296:Nat):Int):=by
 unfold IntKind.wrap;simp[IntKind.bits,IntKind.signed]
theorem ZV (n:Nat):IntKind.u32.wrap (((n%4294967296:Nat):Int)-1)=(((n+4294967295)%4294967296:Nat):Int):=by
 unfold IntKind.wrap;simp[IntKind.bits,IntKind.signed];omega
theorem oq.mem {ts bs H} (h:oq ts bs H) {j:Nat} {t:T0} (hj:ts[j]? =some t):∃b kv hv,bs[j]? =some b/\(Rx b (mu t.path t.idx t.mm t.nt t.pr kv hv t.full) 115:oJ)∈H:=by
 obtain⟨b,H1,H2,h1,h2,h3,_⟩:=h.As hj
 cases h2 with
 |mk hs hh hk=>exact⟨b,_,_,h1,h3.mem_iff.2 (ay _ (.head _))⟩
end Go.Proofs
