/- Lemmas of the walk and plain facts (JgL2 .. JgN1). -/
import Derived.Test.YtmneeannkgnbpaaDoorL1
import Derived.Test.YtmneeannkgnbpaaDoorL2
import Derived.Test.YtmneeannkgnbpaaDoorP16
import Derived.Test.YtmneeannkgnbpaaDoorP01
import Derived.Test.YtmneeannkgnbpaaDoorP12
set_option maxRecDepth 20000
namespace Go.Proofs
open Go Bw Gt
theorem _root_.Bw.kP {P:Program} {c:Cx} {n:Nat} {k:List Item} {fr:SF} {H:SH} {ops:Array Oper} {rest:List Oper} {ty:TypeId} {pos:String} {mG:Array Edge} {T e d z:Nat} {xs:List (Nat×Operand)} {vl:List (Nat×Value)} {vs:List Value} (hb:∀w,(Instr.buildSlice T z vl.toArray).run P w=.ok (Sx w.heap.size z z) {w with heap:=w.heap.push (.cells vs.toArray e)})
  (hx:DY fr xs=some vl) (hd:Nat.blt d n=true) (hk:∀b,c.w0.heap.size<=b->G P c n k ops rest ((d,Sx b z z)::fr) (Rx b vs e::H)):
  G P c n k ops (⟨some d,.buildSlice T z xs.toArray,ty,pos,mG,none⟩::rest) fr H:=by
 refine jO (kb:=.row vs e (0,0)) (v:=fun b=>Sx b z z) (fun a w ha hw=>?_) hd hk;have h1:=ha.KD hx;have h2:=hb w;simp only[execOp];have e2:(xs.toArray.map fun p=>(p.1,a.eval p.2))=vl.toArray:=by rw[<-h1];simp
 simp[oe.den] at*;simp[h1,h2]
theorem vq.row {w0 w:World} {D:Nat->Prop} {H:SH} (hw:HF w0 D H w) {b cp:Nat} {l:List (List UInt8)} {e:TypeId} {fz:Nat×Nat} {wf:Bool} {z:List Value} (hm:(⟨b,wf,.row (l.map S++z) e fz⟩:oJ)∈H):vq w (Sx b l.length cp) l:=
 ⟨_,cp,rfl,fun j p hj=>⟨b,0,rfl,oQ hw hm (by
  have hl:=(ae.1 hj).1
  rw[n8,aH,ak (by simpa using hl),aD,hj];rfl)⟩⟩
def qx:List (List Tok):=[[.b 47,.b 97],[.b 47,.b 98,.b 47,.P [120]]]
def Pb:List (List UInt8):=[[47,98,47,99],[47,99]]
def Ge:T0:=match rO new (qx.map lg) 0 with
 |.inl t=>t
 |.inr _=>new
def Jg:n6:=⟨some 2,[([120],[99])],false,[47,98,47,58,120]⟩
def Lr:n6:=⟨none,[],false,[]⟩
theorem Pc:rO new (qx.map lg) 0=.inl Ge:=by rfl
theorem VB:n7 (o6 false) (oU qx) (oY qx) 9 Ge [47,98,47,99] [] []=some Jg:=by rfl
theorem VC:n7 (o6 false) (oU qx) (oY qx) 9 Ge [47,99] [] []=some Lr:=by rfl
theorem ac5:∀r∈qx,Gt.Good r:=by
 intro r hr;simp only[qx,af,aC,or_false] at hr;rcases hr with rfl|rfl
 ·exact⟨by simp[Ok,tD],_,rfl⟩
 exact⟨by simp[Ok,tD,word],_,rfl⟩
theorem yp.two {a b:n6} {cells:List Value} {H:SH} (h:yp [a,b] cells H):∃pa pb Ha Hb,cells=qk a pa++qk b pb/\H=Ha++Hb/\Own 52 2 pa a.ps.length (nJ a.ps) Ha/\Own 52 2 pb b.ps.length (nJ b.ps) Hb:=by
 generalize hl:[a,b]=l at h
 cases h with
 |nil=>cases hl
 | @snoc rs c2 H2 Hb r pb h ho=>
  obtain⟨rfl,rfl⟩:rs=[a]/\r=b:=by
   rcases rs with _|⟨x,_|⟨y,rs⟩⟩
   ·simp at hl
   ·simp at hl;exact⟨by rw[hl.1],hl.2.symm⟩
   simp at hl
  generalize xy:[a]=l2 at h
  cases h with
  |nil=>cases xy
  | @snoc rs c3 H3 Ha r2 pa h Gf=>
   obtain⟨rfl,rfl⟩:rs=[]/\r2=a:=by
    rcases rs with _|⟨x,rs⟩
    ·simp at xy;exact⟨rfl,xy.symm⟩
    simp at xy
   generalize Pd:([]:List n6)=l3 at h
   cases h with
   |nil=>exact⟨pa,pb,Ha,Hb,rfl,rfl,Gf,ho⟩
   |snoc h ho=>simp at Pd
theorem Pe (w:World):Calls Tryd.prog 8 #[] w fun e w'=>e=.returned (.bool true)/\HF w (fun _=>False) [] w':=by
 refine enter (fun _=>False) [] Tryd.func8 rfl Tryd.ntmps8 rfl rfl (HF.start w _) fun c hc=>?_
 subst hc;refine gz<|gD<|gF<|gC<|gz<|gD<|kP (vs:=[S [47,97],S [47,98,47,58,120]]) (KF aE ah ck rfl rfl) rfl rfl (fun ab pq=>?_);refine kP (vs:=[S [47,98,47,99],S [47,99]]) (KF aE ah ck rfl rfl) rfl rfl (fun pb zy=>?_);refine iP (fun v H2=>∃fv cells Hf Hq,v=.tuple #[fv,.bool true]/\Own 50 4 fv 2 cells Hf/\yp [Jg,Lr] cells Hq/\H2=(Hf++Hq)++[Rx pb [S [47,98,47,99],S [47,99]] 9,Rx ab [S [47,97],S [47,98,47,58,120]] 9]) Tryd.call12 rfl rfl (fun w1 fa=>?_) ?_
 ·refine(Vu w1 qx _ ac5 (by decide) (by decide) (by decide) (vq.row (l:=qx.map lg) (z:=[]) (e:=9) (wf:=true) (fz:=(0,0)) fa (.tail _ (.head _))) Pb _ (vq.row (l:=Pb) (z:=[]) (e:=9) (wf:=true) (fz:=(0,0)) fa (.head _)) (by decide) (by decide) false (fun t ht p hp=>?_)).mono fun e w' h=>?_
  ·rw[Pc] at ht;cases ht;simp only[Pb,af,aC,or_false] at hp;rcases hp with rfl|rfl
   ·exact⟨_,_,VB,by decide⟩
   exact⟨_,_,VC,by decide⟩
  rcases h with⟨j,h1,_⟩|⟨t,rr,fv,cells,Hf,Hq,h1,h2,h3,h4,h5,h6,h7⟩
  ·rw[Pc] at h1;cases h1
  rw[Pc] at h1;cases h1
  obtain⟨r1,r2,rfl⟩:∃r1 r2,rr=[r1,r2]:=by
   match rr,h2 with
   |[r1,r2],_=>exact⟨r1,r2,rfl⟩
  obtain⟨g1,Ui⟩:=h3 0 _ r1 rfl rfl;obtain⟨g2,Uj⟩:=h3 1 _ r2 rfl rfl;have e1:=Pa Ui VB;have e2:=Pa Uj VC;subst e1 e2;refine⟨_,_,h4,fa.o9 h7 (fun e0 mL=>?_),fv,cells,Hf,Hq,rfl,h5,h6,rfl⟩;rcases aB.1 mL with mL|mL
  ·exact h5.w e0 mL
  exact h6.w e0 mL
 rintro v H2 ⟨fv,cells,Hf,Hq,rfl,nx,De,rfl⟩;obtain⟨pa,pb2,Ha,Hb,rfl,rfl,Pf,Gf⟩:=De.two;obtain⟨rb,cap,spare,rfl,rfl⟩:=nx.at (i:=0) (by omega);refine gB<|gA (iz rfl rfl)<|gA (iz rfl rfl)<|gF<|gF<|gC<|gz<|gD<|gB<|gB<|gZ 10 rfl (fun oF=>?_) (fun oF=>?_)
 ·refine gU<|gI (iu cJ rfl)<|gI (ie rfl rfl)<|gT<|gB<|gZ 15 rfl (fun qY=>?_) (fun qY=>?_)
  ·refine gU ?_;refine gI (ij (i:=0) cJ cQ rfl rfl (by omega)) ?_;refine gI (gQ HW rfl) ?_;refine gI (gG aY rfl (.head _) rfl) ?_;refine gI (ie rfl rfl) ?_;refine gT ?_;refine gB ?_;refine gZ 22 rfl (fun rR=>?_) (fun rR=>?_)
   ·refine gU ?_;refine gI (ij (i:=0) cJ cQ rfl rfl (by omega)) ?_;refine gI (gQ S2 rfl) ?_;refine gI (gG ag rfl (.head _) rfl) ?_;refine gI (iE rfl rfl) ?_;refine gT ?_;refine gB ?_;refine gZ 29 rfl (fun xZ=>?_) (fun xZ=>?_)
    ·refine gU ?_;refine gI (ij (i:=0) cJ cQ rfl rfl (by omega)) ?_;refine gI (gQ HX rfl) ?_;refine gI (gG Tryd.isAgg48 rfl (.head _) rfl) ?_;refine gI (iN (vs:=[(0,S [120]),(1,S [99])]) rfl (fun w1=>Vo _ _ w1)) ?_;refine jd rfl rfl ?_;refine je (kE (a:=S [120]) (b:=S [99]) cY ee Tryd.zeroValue52) rfl rfl (fun sb vm=>?_);refine jd rfl rfl ?_;refine iw (v:=.bool true) Tryd.call26 rfl rfl (fun w1 fa=>?_) ?_
     ·exact ac0 w1 Jg.ps [([120],[99])] _ _ (Own.Vw Pf fa (fun x hx=>by simp[hx])) (Own.Vw (l:=[([120],[99])]) (e:=52) (Own.row (b:=sb) (n:=1) (cap:=1) (xs:=[S [120],S [99]]) (spare:=[]) rfl rfl (bI _)) fa (fun x hx=>by rw[aj.1 hx];exact .head _)) (by decide) (by decide)
     refine gT<|gB<|gZ 38 rfl (fun yq=>?_) (fun yq=>?_)
     ·refine gU ?_;refine gI (ij (i:=1) cJ cQ rfl rfl (by omega)) ?_;refine gI (gQ HW rfl) ?_;refine gI (gG aY rfl (.tail _ (.head _)) rfl) ?_;refine gI (ie rfl rfl) ?_;refine gT ?_;refine gB ?_;refine gZ 45 rfl (fun x7=>?_) (fun x7=>?_)
      ·refine jd rfl rfl<|kP (vs:=[S [47,97],S [47,97]]) (KF aE ah ck rfl rfl) rfl rfl (fun db hdb=>?_);refine jd rfl rfl<|iw (v:=I 1) Tryd.call27 rfl rfl (fun w1 fa=>?_) ?_
       ·exact K7 w1 [[.b 47,.b 97],[.b 47,.b 97]] _ (by intro r hr;simp only[af,aC,or_false,or_self] at hr;subst hr;exact⟨by simp[Ok,tD],_,rfl⟩) (by decide) (by decide) (by decide) (vq.row (l:=[[47,97],[47,97]]) (z:=[]) (e:=9) (wf:=true) (fz:=(0,0)) fa (.head _))
       exact gI (ie rfl rfl)<|gT<|gF<|gC<|ic rfl rfl fun w' ia=>⟨rfl,ia.sub (ar _)⟩
      exact absurd x7 (by decide)
     exact absurd yq (by decide)
    exact absurd xZ (by decide)
   exact absurd rR (by decide)
  exact absurd qY (by decide)
 exact absurd oF (by decide)
end Go.Proofs
namespace Gt
open Gs Tr
def Pg (n:Nat):UInt8:=if n<10 then UInt8.ofNat (48+n) else UInt8.ofNat (55+n)
end Gt
namespace Go.Proofs
open Go Bw Gt
section
variable {P:Program} {c:Cx} {n:Nat} {fr:SF} {H:SH} {ty t u:TypeId} {x y:Operand}
end
theorem Fz {e:List UInt8} (h:(47:UInt8)∉e):e.takeWhile (· ≠47)=e:=by
 have:=List.takeWhile_append_of_pos (p:=fun x:UInt8=>decide (x≠47)) (l₁:=e) (l₂:=[]) (fun x hx=>decide_eq_true (fun h1=>h (h1▸hx)));simpa using this
theorem yp.one {a:n6} {cells:List Value} {H:SH} (h:yp [a] cells H):∃pa,cells=qk a pa/\Own 52 2 pa a.ps.length (nJ a.ps) H:=by
 generalize xy:[a]=l2 at h
 cases h with
 |nil=>cases xy
 | @snoc rs c3 H3 Ha r2 pa h Gf=>
  obtain⟨rfl,rfl⟩:rs=[]/\r2=a:=by
   rcases rs with _|⟨x,rs⟩
   ·simp at xy;exact⟨rfl,xy.symm⟩
   simp at xy
  generalize Pd:([]:List n6)=l3 at h
  cases h with
  |nil=>exact⟨pa,rfl,Gf⟩
  |snoc h ho=>simp at Pd
end Go.Proofs
namespace Gt
open Gs Tr
noncomputable def dec (p:Prop):Bool:= @decide p (Classical.propDecidable p)
theorem p8 {p:Prop}:dec p=true<->p:=by unfold dec;exact @decide_eq_true_iff p (Classical.propDecidable p)
theorem pP {p:Prop}:dec p=false<->¬p:=by
 rw[<-Bool.not_eq_true,p8]
theorem pD {p:Prop} (h:p):true=dec p:=(p8.2 h).symm
theorem oL {p:Prop} (h:¬p):false=dec p:=(pP.2 h).symm
theorem rJ {p q:Prop} [Decidable q] (h:q<->p):decide q=dec p:=by
 by_cases hq:q
 ·rw[decide_eq_true hq,p8.2 (h.1 hq)]
 rw[decide_eq_false hq,pP.2 (fun hp=>hq (h.2 hp))]
theorem tM {p q:Prop} [Decidable q] (h:¬q<->p):(!decide q)=dec p:=by
 by_cases hq:q
 ·rw[decide_eq_true hq];exact oL (fun hp=>h.2 hp hq)
 rw[decide_eq_false hq];exact pD (h.1 hq)
theorem VD {p q:Prop} (h:q<->p):dec q=dec p:=by
 by_cases hq:q
 ·rw[p8.2 hq,p8.2 (h.1 hq)]
 rw[pP.2 hq,pP.2 (fun hp=>hq (h.2 hp))]
structure nz where
 k:UInt8
 nm:List UInt8
structure Tk where
 k:UInt8
 c:UInt8
 nm:List UInt8
def BG (c:UInt8):Prop:=c.toNat≠58/\c.toNat≠42/\c.toNat≠92
def vA (c:UInt8):Prop:=c.toNat=95\/(48<=c.toNat/\c.toNat<=57)\/(97<=c.toNat/\c.toNat<=122)\/(65<=c.toNat/\c.toNat<=90)
def Ez (s:List UInt8):Prop:=(∀c∈s,vA c)/\s≠[]/\s.length<=20
def BH (s:List UInt8):Prop:=∃i:Nat,s[i]? =some 47/\s[i+1]? =some 47
def Gg (p:nz):Prop:=p.nm.length<=2147483647
def Ls (l:List nz):Prop:=l.length<=2147483647/\∀p∈l,Gg p
def Gi (l:List (List nz)):Prop:=l.length<=2147483647/\∀r∈l,Ls r
def VE (l:List nz) (i:Nat) (p:nz):Prop:=
 (p.k.toNat=0<->i%2=0)/\p.k.toNat<=2/\(p.k.toNat=2->i+1=l.length)/\
 (p.k.toNat=0->p.nm≠[]/\p.nm.length<=100/\¬BH p.nm/\(0<i->p.nm.head? =some 47)/\∀c∈p.nm,BG c)/\
 (p.k.toNat≠0->Ez p.nm/\(∀q,l[i-1]? =some q->[47]<:+q.nm)/\∀q∈l.take i,q.k.toNat≠0->q.nm≠p.nm)
def Clean (l:List nz):Prop:=l≠[]/\l.length<=12/\(∀p,l[0]? =some p->p.k.toNat=0/\[47]<+:p.nm)/\∀(i:Nat) p,l[i]? =some p->VE l i p
def BI (p:nz):List Tk:=if p.k.toNat=0 then p.nm.map fun c=>⟨0,c,[]⟩ else[⟨p.k,0,p.nm⟩]
def mY (l:List nz):List Tk:=l.flatMap BI
def v7:List Tk->List Tk->Prop
 |[],[]=>False
 |[],y::_=>y.k.toNat≠2
 |x::_,[]=>x.k.toNat≠2
 |x::s,y::r=>(x=y/\v7 s r)\/(x≠y/\x.k.toNat≠2/\y.k.toNat≠2/\¬(x.k.toNat=1/\y.k.toNat=1))
def zS (l:List (List nz)):Prop:=∀(i:Nat) a,l[i]? =some a->Clean a/\∀b∈l.take i,v7 (mY a) (mY b)
def BJ (l:List (List nz)) (p:List UInt8):Prop:=l.length<=30/\zS l/\[47]<+:p/\¬BH p/\p.length<=300
def wV (p:nz):List UInt8:=(if p.k.toNat=1 then[58] else if p.k.toNat=2 then[42] else[])++p.nm
def nV (l:List nz):List UInt8:=l.flatMap wV
end Gt
namespace Go.Proofs
open Go Bw Gt
variable {w1:World} {sv:Value}
def uA (w:World) (sv:Value) (l:List nz):Prop:=∃ad cp,sv=.slice ad l.length cp/\l.length<=cp/\∀(j:Nat) p,l[j]? =some p->∃b o,ad=some ⟨b,o,none⟩/\w.cell? ⟨b,o+j*2,none⟩=some (.int .u8 (p.k.toNat:Int))/\w.cell? ⟨b,o+j*2+1,none⟩=some (S p.nm)
def zT (w:World) (sv:Value) (l:List (List nz)):Prop:=∃ad cp,sv=.slice ad l.length cp/\l.length<=cp/\∀(j:Nat) r,l[j]? =some r->∃b o v,ad=some ⟨b,o,none⟩/\w.cell? ⟨b,o+j,none⟩=some v/\uA w v r
theorem uA.old {w:World} {l:List nz} {H:SH} (h:uA w sv l) (hw:HF w (fun _=>False) H w1):uA w1 sv l:=by
 obtain⟨ad,cp,rfl,hl,hc⟩:=h;refine⟨ad,cp,rfl,hl,fun j p hj=>?_⟩;obtain⟨b,o,e,h1,h2⟩:=hc j p hj;exact⟨b,o,e,hw.pT h1 id,hw.pT h2 id⟩
theorem zT.old {w:World} {l:List (List nz)} {H:SH} (h:zT w sv l) (hw:HF w (fun _=>False) H w1):zT w1 sv l:=by
 obtain⟨ad,cp,rfl,hl,hc⟩:=h;refine⟨ad,cp,rfl,hl,fun j p hj=>?_⟩;obtain⟨b,o,v,e,h1,h2⟩:=hc j p hj;exact⟨b,o,v,e,hw.pT h1 id,h2.old hw⟩
def oz (p:nz):List Value:=[.int .u8 (p.k.toNat:Int),S p.nm]
theorem ac6 (w:World) (c:UInt8):Calls Tryd.prog 53 #[.int .u8 (c.toNat:Int)] w fun e w'=>e=.returned (.bool (dec (BG c)))/\HF w (fun _=>False) [] w':=by
 refine enter (fun _=>False) [] Tryd.func53 rfl Tryd.ntmps53 rfl rfl (HF.start w _) fun c hc=>?_
 subst hc;refine gz<|gD<|gF<|gC<|gz<|gD<|gB<|gA (iF rfl rfl)<|gB<|gZ 5 rfl (fun h5=>?_) (fun h5=>?_)
 ·refine gU<|gI (iF rfl rfl)<|gT<|gB<|gZ 9 rfl (fun h9=>?_) (fun h9=>?_)
  ·refine gU<|gI (iF rfl rfl)<|gT<|gF<|gC<|ic rfl rfl fun w' ia=>⟨?_,ia⟩
   refine rB ?_;simp only[decide_eq_false_iff_not,cK] at*;unfold BG;first|exact tM (by omega)|exact rJ (by omega)|exact oL (by omega)|exact pD (by omega)
  refine gE ?_;refine gE ?_;refine hG ?_;refine gF ?_;refine gC ?_;refine ic rfl rfl fun w' ia=>⟨?_,ia⟩
  refine rB ?_;simp only[decide_eq_true_eq,decide_eq_false_iff_not,cK,Bool.not_eq_false'] at*;unfold BG;first|exact tM (by omega)|exact rJ (by omega)|exact oL (by omega)|exact pD (by omega)
 refine gE ?_;refine gE ?_;refine hG ?_;refine gB ?_;refine gE ?_;refine gE ?_;refine hG ?_;refine gF ?_;refine gC ?_;refine ic rfl rfl fun w' ia=>⟨?_,ia⟩
 refine rB ?_;simp only[decide_eq_true_eq,Bool.not_eq_false'] at*;unfold BG;first|exact tM (by omega)|exact rJ (by omega)|exact oL (by omega)|exact pD (by omega)
theorem VG (w:World) (s:List UInt8) (hs:s.length<=1000000000000):Calls Tryd.prog 19 #[S s] w fun e w'=>e=.returned (.bool (dec (BH s)))/\HF w (fun _=>False) [] w':=by
 refine enter (fun _=>False) [] Tryd.func19 rfl Tryd.ntmps19 rfl rfl (HF.start w _) fun c hc=>?_
 subst hc;refine gz<|gD<|gF<|gC<|gz<|gz<|gD<|gF<|gC<|gW ?_
 refine iC (fun N bc H'=>∃i,i+N=s.length+1/\1<=i/\(∀j:Nat,j+1<i->¬(s[j]? =some 47/\s[j+1]? =some 47))/\Sub [(0,S s),(3,I (i:Nat))] bc/\H'=[]) s.length
  ⟨1,by omega,bI _,fun j hj=>by omega,.of rfl,rfl⟩ ?_
 rintro N bc H' ⟨i,hi,BK,nN,mJ,rfl⟩ ih;refine gN mJ ?_;clear mJ;refine gz<|gz<|gD<|gB<|gB<|gA (ig aa rfl)<|gA (ik rfl rfl)<|gC<|gS rfl (fun h7=>?_) (fun h7=>?_)
 ·refine gL<|gz<|gW<|gz ?_;have oO:i<s.length:=by omega
  obtain⟨i,rfl⟩:∃k,i=k+1:=⟨i-1,by omega⟩;obtain⟨x,hx⟩:=gx oO;obtain⟨y,hy⟩:∃y,s[i]? =some y:=gx (by omega);refine hY (fun bc H'=>Sub [(0,S s),(3,I ((i+1:Nat):Int)),(20,.bool (dec (x=47/\y=47)))] bc/\H'=[]) (fun J4=>?_) ?_
  ·refine gD<|gB<|gB<|gA (iG (i:=i+1) (b:=x) aa rfl rfl hx)<|gA (ie rfl rfl)<|gB<|gZ 14 rfl (fun xY=>?_) (fun xY=>?_)
   ·refine gU<|gU ?_;refine gI (iM (r:=((i:Nat):Int)) rfl rfl (by omega) (by omega) (by omega))<|gI (iG (i:=i) (b:=y) aa rfl rfl hy) ?_;refine gI (ie rfl rfl)<|gT ?_;refine gC<|J4 _ _ ⟨?_,rfl⟩;have VH:x=47:=zx (k:=47) (by have:=of_decide_eq_true xY;omega) (by omega);have e:decide ((y.toNat:Int)=47)=dec (x=47/\y=47):=rJ ⟨fun h=>⟨VH,zx (k:=47) (by omega) (by omega)⟩,fun h=>by rw[h.2];rfl⟩;rw[<-e];exact .of rfl
   refine gE ?_;refine gE ?_;refine gE ?_;refine gE ?_;refine gE ?_;refine hG ?_;refine gC ?_;refine J4 _ _ ⟨?_,rfl⟩;have e:false=dec (x=47/\y=47):=oL (fun h=>of_decide_eq_false xY (by rw[h.1];rfl));rw[<-e];exact .of rfl
  rintro bc H' ⟨ou,rfl⟩;refine gN ou ?_;clear ou;refine gV rfl (fun AQ=>?_) (fun AQ=>?_)
  ·refine gz<|gD<|gF<|gC<|ic rfl rfl fun w' ia=>⟨?_,ia⟩
   refine rB ?_;have hh:=p8.1 AQ;exact pD ⟨i,by rw[hy,hh.2],by rw[hx,hh.1]⟩
  refine gL<|il ?_;refine gD<|gB ?_;refine gA (iB (r:=((i+1+1:Nat):Int)) rfl rfl (by omega) (by omega) (by omega))<|gF ?_;refine gC<|ih (N-1) _ _ (by omega) ⟨i+1+1,by omega,by omega,fun j hj=>?_,.of rfl,rfl⟩;by_cases uV:j=i
  ·subst uV;intro hh;rw[hx,hy] at hh;exact pP.1 AQ ⟨bp hh.2,bp hh.1⟩
  exact nN j (by omega)
 refine ir rfl<|gz<|gD<|gF<|gC<|ic rfl rfl fun w' ia=>⟨?_,ia⟩
 refine rB<|oL fun⟨j,h1,h2⟩=>?_
 have:=(ae.1 h2).1;exact nN j (by omega) ⟨h1,h2⟩
end Go.Proofs
