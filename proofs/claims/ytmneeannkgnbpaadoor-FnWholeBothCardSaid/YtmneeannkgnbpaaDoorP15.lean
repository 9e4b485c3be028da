/- Lemmas of the walk and plain facts (JgG6 .. JgG6). -/
import Derived.Test.YtmneeannkgnbpaaDoorL1
import Derived.Test.YtmneeannkgnbpaaDoorL2
import Derived.Test.YtmneeannkgnbpaaDoorP14
import Derived.Test.YtmneeannkgnbpaaDoorP01
set_option maxRecDepth 20000
namespace Go.Proofs
open Go Bw Gt
variable {fr:SF} {pb mZ qb nq vb:Nat} {has un:Bool} {mN mQ:List Value} {Cs Ht:SH} {c0:T0}
def acp:List Item->List Item
 |.code (.seq _ (.seq _ (.seq _ (.seq _ (.block id (.seq _ (.cond _ (.seq _ (.seq _ (.seq _ t))) _)))))))::k=>.code t::.inBlock id::k
 |k=>k
noncomputable def FY:List Item:=acp FP
theorem UZ {n:Nat} (h:n<=20000):IntKind.i16.wrap ((n:Int)+1)=((n+1:Nat):Int):=by
 unfold IntKind.wrap;simp[IntKind.bits,IntKind.signed];omega
theorem U0 {P:Program} {c:Cx} {n:Nat} {H:SH} {t u e:TypeId} {ty:TypeId} {x:Operand} (hU:P.underlying t=some (.pointer e)) (hx:ev fr x=some (pV pb has)):nB P c n (.binOp .eql t x (.const Nil) u) ty fr H (.bool (!has)):=by
 cases has with
 |true=>exact jP (p:=some ⟨pb,0,none⟩) hU hx
 |false=>exact jP (p:=none) hU hx
theorem U1 (a b:List UInt8) (w:World):(Instr.build 95 #[(0,S a),(1,S b)]).run Tryd.prog w=.ok (.agg #[S a,S b]) w:=by
 simp[Instr.build,Tryd.zeroValue95,Tryd.runUnderlying95,ah,qp,Instr.fill,tR]
theorem Da (p:List UInt8):(p.takeWhile (· ≠47)).length <=p.length:=(dJ _).length_le
theorem U2:∀{p:List UInt8} {i:Nat} {x:UInt8},i<=(p.takeWhile (· ≠47)).length ->p[i]? =some x->(x≠47->i+1<=(p.takeWhile (· ≠47)).length)/\(x=47->i=(p.takeWhile (· ≠47)).length)
 |[],i,x,_,h=>by simp at h
 |c::p,0,x,_,h=>by
  simp at h;subst h;by_cases e:c=47
  ·subst e;simp
  simp[e]
 |c::p,i+1,x,hi,h=>by
  by_cases e:c=47
  ·subst e;simp at hi
  have h1:(c::p).takeWhile (· ≠47)=c::p.takeWhile (· ≠47):=by simp[e]
  rw[h1,aI] at hi⊢;have:=U2 (p:=p) (i:=i) (x:=x) (by omega) (by simpa using h);exact⟨fun hx=>by have:=this.1 hx;omega,fun hx=>by have:=this.2 hx;omega⟩
theorem acq (p:List UInt8):p.take (p.takeWhile (· ≠47)).length =p.takeWhile (· ≠47):=by
 have h:p.takeWhile (· ≠47)<+:p:=fi _;exact(cZ.1 h).symm
theorem U3 {ps:List (List UInt8×List UInt8)} {cP:Nat} (hl:mN.length=2*cP) (h:mN.take (2*ps.length)=nJ ps) (hc:ps.length<cP) (a b:List UInt8):(vu mN (2*ps.length) [S a,S b]).take (2*(ps++[(a,b)]).length)=nJ (ps++[(a,b)]):=by
 have e:2*(ps++[(a,b)]).length =2*ps.length+[S a,S b].length :=by simp;omega
 rw[e,abN (by omega),h,Lc];rfl
theorem U4 {v:List UInt8} {e:Ending} (h:FO v e) (rX:un=true):(∃x,e=.returned (.tuple #[S x,.nilIface])/\o6 un v=x)\/(∃b,e=.returned (.tuple #[S [],.iface 174 (Pt b 0)])/\o6 un v=v):=by
 unfold FO at h;subst rX;unfold o6;rw[if_pos rfl]
 cases hx:Bz (v.length+1) v [] with
 |some x=>rw[hx] at h;exact .inl ⟨x,h,rfl⟩
 |none=>rw[hx] at h;obtain⟨b,h⟩:=h;exact .inr ⟨b,h,rfl⟩
theorem acr {P:Program} {t:TypeId} {w:World} {ms:_} (d:Nat) (hU:P.underlying t=some (.interface ms)):(Op.equalIn (d+1) t .nilIface .nilIface).run P w=.ok true w:=by
 simp[Op.equalIn,underlying,hU]
theorem acs {P:Program} {t t2:TypeId} {v:Value} {w:World} {ms:_} (d:Nat) (hU:P.underlying t=some (.interface ms)):(Op.equalIn (d+1) t (.iface t2 v) .nilIface).run P w=.ok false w:=by
 simp[Op.equalIn,underlying,hU]
theorem U5 {P:Program} {c:Cx} {n:Nat} {H:SH} {t u:TypeId} {ty:TypeId} {ms:_} {x:Operand} {er:Value} {en:Bool} {A B:Prop} (hU:P.underlying t=some (.interface ms)) (h:(en=true/\er=.nilIface /\A)\/(en=false/\(∃b,er=.iface 174 (Pt b 0))/\B)) (hx:ev fr x=some er):nB P c n (.binOp .eql t x (.const .nilIface) u) ty fr H (.bool en):=by
 intro a w ha hw dst pos mG g;have h2:a.eval (.const .nilIface)=.nilIface :=rfl;rcases h with⟨rfl,rfl,_⟩|⟨rfl,⟨b,rfl⟩,_⟩
 ·have h1:=ha.eval hx;have h3:(Op.equal t .nilIface .nilIface).run P w=.ok true w:=acr 9999 hU;simp[execOp,h1,h2,eqGuard,binOp,h3]
 have h1:=ha.eval hx;have h3:(Op.equal t (.iface 174 (Pt b 0)) .nilIface).run P w=.ok false w:=acs 9999 hU;simp[execOp,h1,h2,eqGuard,binOp,h3]
theorem acu {R:Ending->World->Prop} {w:World} {D:Nat->Prop} {cP cS:Nat} {n:T0} {p:List UInt8} {ps:List (List UInt8×List UInt8)} {sk:List Sk} {nb:Nat} {c:UInt8}
  (hn:Rd Ht Cs n nb) (nQ:mN.length=2*cP) (oK:mN.take (2*ps.length)=nJ ps) (wD:mQ.length=3*cS) (wE:qH Ht Cs mQ sk) (oI:has=false->ps=[]) (mM:p.length<=100000) (uS:ps.length<=cP) (qM:cP<=20000) (uT:sk.length<=cS) (vx:cS<=20000) (mU:Sub [(0,Pt nb 0),(1,S p),(2,Pt pb 0),(3,Pt qb 0),(4,.bool un),(10,Pt vb 0),(11,.int .i16 (ps.length:Int)),(12,S n.path),(13,.int .u8 (c.toNat:Int))] fr) {k:T0} (hw:n.mm=true) (qL:n.kids[n.kids.length-1]? =some k) (FZ:ps.length<cP) (Lj:2<=k.path.length) (FD:n.kids.length<=100000) (ow:k.nt=2)
  (go:∀kb tL np bc,Rd Ht Cs k kb->tL.length=2*cP->tL.take (2*(ps++[(k.path.drop 1,o6 un (p.takeWhile (· ≠47)))]).length)=nJ (ps++[(k.path.drop 1,o6 un (p.takeWhile (· ≠47)))])->np=(ps++[(k.path.drop 1,o6 un (p.takeWhile (· ≠47)))]).length ->Sub [(0,Pt kb 0),(1,S p),(2,Pt pb 0),(3,Pt qb 0),(4,.bool un),(10,Pt vb 0),(11,.int .i16 (np:Int)),(19,I ((p.takeWhile (· ≠47)).length :Nat))] bc->GC Tryd.prog ⟨61,Tryd.f61,R,w,D⟩ 703 FY bc (Hq vb [(.slice none 0 0),(pV pb true),.bool false,(S [])] pb mZ np cP tL qb nq sk.length cS mQ (Cs++Ht))):
  GC Tryd.prog ⟨61,Tryd.f61,R,w,D⟩ 703 FP fr (Hq vb [(.slice none 0 0),(pV pb has),.bool false,(S [])] pb mZ ps.length cP mN qb nq sk.length cS mQ (Cs++Ht)):=by
 refine gN mU ?_;clear mU;have oD:=hn
 cases hn with
 | @mk path idx mm nt pr h full kids _ bs kv hv Hs hm hs qs pB hh hk=>
 simp only[oZ,rp,sw] at*;obtain⟨ad,cap,rfl⟩:=hs.slice;obtain⟨mX,l2,c2,rfl,pX⟩:=hh.slice;have rY:=Da p;refine gz<|gz<|gD<|gB<|gJ rfl<|gH uI rfl ?_;refine gA (gG bQ rfl (m5 hm) rfl)<|gA (iU rfl)<|gC<|gV rfl (fun wT=>absurd wT (by rw[hw];decide)) (fun wT=>?_);refine gL<|gz ?_;have qh:=(ae.1 qL).1;obtain⟨kb,rH⟩:∃kb,bs[kids.length-1]? =some kb:=gx (by omega);have tW:=hk (kids.length-1) k kb qL rH;obtain⟨rb,xu,spare,e1,rfl⟩:=hs.at qh;cases e1;have yj:=qs _ (.head _);clear hs;have FX:=tW
 cases tW with
 | @mk n4 qf rE pO pd kh qR ul _ Bo rP rQ OI km ks I2 Eo C9 kk=>
 simp only[oZ,rn] at*;obtain⟨vW,vX,rfl⟩:=ks.slice;obtain⟨Ep,Er,Es,rfl,BD⟩:=C9.slice;refine iV mixed (by kernel_rfl)<|gK (gM rfl) ?_;refine gK (gX rfl)<|gK (gQ p5 rfl) ?_;refine gK (gG bj rfl (m5 hm) rfl)<|gK (gM rfl) ?_;refine gK (gX rfl)<|gK (gQ p5 rfl) ?_;refine gK (gG bj rfl (m5 hm) rfl)<|gK (iu az rfl) ?_;refine gK (iM (r:=((kids.length-1:Nat):Int)) rfl rfl (by omega) (by omega) (by omega))<|gK (ij (i:=kids.length-1) az bi rfl rfl qh)<|gK (gG bK rfl (.tail _ (.tail _ (.tail _ (.tail _ (.tail _ ((au _ yj))))))) (by rw[n8,aH,aT,ak (by rw[aQ];omega),aD,rH];rfl)) ?_;refine gK (iT rfl)<|iH ?_;refine gz<|gD ?_;refine gB<|gA (jj (i:=(ps.length:Int)) (j:=1) rfl rfl) ?_;rw[UZ (by omega)];refine gF<|gC ?_;refine gz<|gD ?_;refine gB<|gJ rfl ?_;refine gH sX rfl<|gA (gG cf rfl (m5 km) rfl) ?_;refine gC<|gW ?_;refine gz<|gD ?_;refine gA (ie rfl rfl)<|gF ?_;refine gC<|gS rfl (fun vY=>?_) (fun vY=>absurd (by rw[ow];rfl) vY);refine gz<|gD ?_;refine gF<|gC ?_;refine gz<|gW ?_
 refine iC (fun N bc H'=>∃e,e+N=(p.takeWhile (· ≠47)).length /\Sub [(0,Pt kb 0),(1,S p),(2,Pt pb 0),(3,Pt qb 0),(4,.bool un),(10,Pt vb 0),(11,.int .i16 ((ps.length+1:Nat):Int)),(19,I (e:Nat))] bc/\H'=(Hq vb [(.slice none 0 0),(pV pb has),.bool false,(S [])] pb mZ ps.length cP mN qb nq sk.length cS mQ (Cs++Ht))) (p.takeWhile (· ≠47)).length
  ⟨0,by omega,.of rfl,rfl⟩ ?_
 rintro N bc H' ⟨e,he,mJ,rfl⟩ ih;refine gN mJ ?_;clear mJ;refine gz<|gz<|hY (fun bc H'=>∃t:Bool,(t=true->e+1<=(p.takeWhile (· ≠47)).length)/\(t=false->e=(p.takeWhile (· ≠47)).length)/\Sub [(0,Pt kb 0),(1,S p),(2,Pt pb 0),(3,Pt qb 0),(4,.bool un),(10,Pt vb 0),(11,.int .i16 ((ps.length+1:Nat):Int)),(19,I (e:Nat)),(229,.bool t)] bc/\H'=(Hq vb [(.slice none 0 0),(pV pb has),.bool false,(S [])] pb mZ ps.length cP mN qb nq sk.length cS mQ (Cs++Ht))) (fun AE=>?_) ?_
 ·refine gD<|gB<|gB<|gA (ig aa rfl)<|gA (ik rfl rfl)<|gB<|gZ 224 rfl (fun OW=>?_) (fun OW=>?_)
  ·refine gU ?_;refine gU ?_;obtain⟨x,hx⟩:∃x,p[e]? =some x:=⟨_,ao (by have:=of_decide_eq_true OW;omega)⟩;have U6:=U2 (i:=e) (by omega) hx;refine gI (iG (i:=e) (b:=x) aa rfl rfl hx) ?_;refine gI (iF rfl rfl) ?_;refine gT ?_;refine gC ?_;exact AE _ _ ⟨_,fun h=>U6.1 fun e2=>by rw[e2] at h;simp at h,fun h=>U6.2 (Av (by simpa using h)),.of rfl,rfl⟩
  refine gE ?_;refine gE ?_;refine gE ?_;refine gE ?_;refine hG ?_;refine gC ?_;exact AE _ _ ⟨false,fun h=>(by cases h),fun _=>by have h1:=of_decide_eq_false OW;have h2:=Da p;omega,.of rfl,rfl⟩
 rintro bc H' ⟨t,qQ,sq,CV,rfl⟩;refine gN CV ?_;clear CV;refine gV rfl (fun Ll=>?_) (fun Ll=>?_)
 ·exact gL<|gW<|gD<|gB<|gA (iy e (by omega))<|gF<|gC<|il<|ih (N-1) _ _ (by have:=qQ Ll;omega) ⟨e+1,by have:=qQ Ll;omega,.of rfl,rfl⟩
 refine ir rfl<|gz<|gz ?_;have hee:e=(p.takeWhile (· ≠47)).length :=sq (by simpa using Ll);subst hee;generalize U7:p.takeWhile (· ≠47)=v at*;have qW:v.length<=p.length:=by rw[<-U7];exact Da p
 have hvt:p.take v.length=v:=by rw[<-U7];exact acq p
 refine gD<|gB<|gA (jW (p:=some ⟨pb,0,none⟩) du rfl)<|gC<|gV rfl (fun U8=>?_) (fun U8=>absurd U8 (by simp));refine gz<|gz<|gD<|gB<|gJ rfl<|gA (gG dw rfl (.tail _ (.head _)) rfl)<|gA (kU bN rfl)<|gB<|gA (j5 Tryd.underlying157 dN rfl) ?_;rw[wrap_i64 (by omega) (by omega)];refine gA (ik rfl rfl)<|gC<|gS rfl (fun U9=>absurd U9 (by omega)) (fun U9=>?_);refine gL<|gz<|gz<|gD<|gH sZ rfl<|gA (gG cj rfl (.head _) rfl)<|gA (U0 du rfl)<|gC<|hY (fun bc H'=>Sub [(0,Pt kb 0),(1,S p),(2,Pt pb 0),(3,Pt qb 0),(4,.bool un),(10,Pt vb 0),(11,.int .i16 ((ps.length+1:Nat):Int)),(19,I (v.length:Nat))] bc/\H'=(Hq vb [.slice none 0 0,Pt pb 0,.bool false,S []] pb mZ ps.length cP mN qb nq sk.length cS mQ (Cs++Ht))) (fun Va=>?_) ?_
 ·refine gV rfl (fun Vb=>?_) (fun Vb=>?_)
  ·exact gD<|gB<|gH sZ rfl<|gO Tryd.sizeOf120 rfl rfl rfl .z rfl rfl<|gC<|Va _ _ ⟨.of rfl,rfl⟩
  refine gL ?_;have zK:has=true:=by simpa using Vb
  subst zK;exact Va _ _ ⟨.of rfl,rfl⟩
 rintro bc H' ⟨I6,rfl⟩;refine gN I6 ?_;clear I6;refine gz<|gD<|gH sZ rfl<|gA (gG cj rfl (.head _) rfl)<|gJ rfl<|gA (gG dw rfl (.tail _ (.head _)) rfl)<|gA (iu bN rfl)<|gF<|gC<|gz<|js 10 mixed (by kernel_rfl) rfl rfl<|gR (gQ sZ rfl)<|gR (gG cj rfl (.head _) rfl)<|gR (gQ sZ rfl)<|gR (gG cj rfl (.head _) rfl)<|gR (gX rfl)<|gR (gG dw rfl (.tail _ (.head _)) rfl)<|gR (gM rfl)<|gR (iB (r:=((ps.length+1:Nat):Int)) rfl rfl rfl (by omega) (by omega))<|gR (jF (i:=ps.length+1) bN c5 rfl rfl (by omega))<|gR (gX rfl)<|jt<|gO fD rfl rfl rfl (.s .z) rfl rfl<|gC<|gz<|gD<|gB<|gB<|gA (jm (j:=v.length) aa rfl rfl qW) ?_;rw[hvt];refine gF<|gC<|gz<|gz<|gD<|gB<|gC<|hY (fun bc H'=>Sub [(0,Pt kb 0),(1,S p),(2,Pt pb 0),(3,Pt qb 0),(4,.bool un),(10,Pt vb 0),(11,.int .i16 ((ps.length+1:Nat):Int)),(19,I (v.length:Nat)),(21,I (ps.length:Nat)),(22,S (o6 un v))] bc/\H'=(Hq vb [.slice none 0 0,Pt pb 0,.bool false,S []] pb mZ (ps.length+1) cP mN qb nq sk.length cS mQ (Cs++Ht))) (fun OX=>?_) ?_
 ·refine gV rfl (fun OY=>?_) (fun OY=>?_)
  ·refine gz<|gD<|gB<|iP (fun vv H2=>((∃x,vv=.tuple #[S x,.nilIface]/\o6 un v=x)\/(∃b,vv=.tuple #[S [],.iface 174 (Pt b 0)]/\o6 un v=v))/\(Hq vb [.slice none 0 0,Pt pb 0,.bool false,S []] pb mZ (ps.length+1) cP mN qb nq sk.length cS mQ (Cs++Ht))=H2) Tryd.call78 rfl rfl (fun w1 fa=>(UE w1 v (by omega)).mono fun e w' ⟨h1,h2⟩=>?_) ?_
   ·rcases U4 h1 OY with⟨x,h3,h4⟩|⟨b,h3,h4⟩
    ·exact⟨_,_,h3,fa.o9 h2 (by simp),.inl ⟨x,rfl,h4⟩,rfl⟩
    exact⟨_,_,h3,fa.o9 h2 (by simp),.inr ⟨b,rfl,h4⟩,rfl⟩
   rintro v0 H20 ⟨DT,rfl⟩
   obtain⟨xs,er,rfl,OZ⟩:∃xs er,v0=.tuple #[S xs,er]/\((er=.nilIface /\o6 un v=xs)\/((∃b,er=.iface 174 (Pt b 0))/\o6 un v=v)):=by
    rcases DT with⟨x,rfl,h4⟩|⟨b,rfl,h4⟩
    ·exact⟨x,_,rfl,.inl ⟨rfl,h4⟩⟩
    exact⟨[],_,rfl,.inr ⟨⟨b,rfl⟩,h4⟩⟩
   refine gB<|gA (iz rfl rfl)<|gA (iz rfl rfl)<|gF<|gF<|gC<|gz<|gD<|gB ?_
   obtain⟨en,acy,Ev⟩:∃en:Bool,(∀(P0:World->Prop),True)/\((en=true/\er=.nilIface /\o6 un v=xs)\/(en=false/\(∃b,er=.iface 174 (Pt b 0))/\o6 un v=v)):=by
    rcases OZ with⟨h3,h4⟩|⟨h3,h4⟩
    ·exact⟨true,fun _=>trivial,.inl ⟨rfl,h3,h4⟩⟩
    exact⟨false,fun _=>trivial,.inr ⟨rfl,h3,h4⟩⟩
   refine iZ (v:=.bool en) (U5 Tryd.underlying161 Ev rfl) rfl<|gC<|gV rfl (fun O0=>?_) (fun O0=>?_)
   ·refine gD<|gB<|gF<|gC ?_
    have h7:o6 un v=xs:=by
     rcases Ev with⟨_,_,h⟩|⟨h,_⟩
     ·exact h
     rw[O0] at h;cases h
    refine OX _ _ ⟨?_,rfl⟩;rw[h7];exact .of rfl
   refine gL ?_
   have h7:o6 un v=v:=by
    rcases Ev with⟨h,_⟩|⟨_,_,h⟩
    ·rw[O0] at h;cases h
    exact h
   refine OX _ _ ⟨?_,rfl⟩;rw[h7];exact .of rfl
  refine gL ?_;have h7:o6 un v=v:=by rw[OY];rfl
  refine OX _ _ ⟨?_,rfl⟩;rw[h7];exact .of rfl
 rintro bc H' ⟨I7,rfl⟩;refine gN I7 ?_;clear I7;refine js 13 mixed (by kernel_rfl) rfl rfl<|gR (gQ sZ rfl)<|gR (gG cj rfl (.head _) rfl)<|gR (gX rfl)<|gR (gG dw rfl (.tail _ (.head _)) rfl)<|gR (gM rfl)<|gR (gM rfl)<|gR (gX rfl)<|gR (gQ pU rfl)<|gR (gG ag rfl (m5 km) rfl)<|gR (iX (i:=1) aa rfl rfl (by omega))<|gR (gM rfl)<|gR (iN (vs:=[(0,S (n4.drop 1)),(1,S (o6 un v))]) rfl (fun w1=>U1 _ _ w1))<|gR (ij (i:=ps.length) bN c5 rfl rfl (by omega))<|jt<|kO (b:=mZ) (off:=0+ps.length*2) (l:=mN) (T:=95) (cs:=[S (n4.drop 1),S (o6 un v)]) c5 rfl rfl (by simp[Value.oneCell']) (.s (.s .z)) (by simp;omega) ?_;have e2:0+ps.length*2=2*ps.length:=by omega
 rw[e2];exact gC<|go kb _ (ps.length+1) _ FX (by rw[Oj _ _ _ (by simp;omega)];exact nQ) (U3 nQ oK FZ _ _) (by simp) (.of rfl)
theorem acz {R:Ending->World->Prop} {w:World} {D:Nat->Prop} {cP cS:Nat} {n:T0} {p:List UInt8} {ps:List (List UInt8×List UInt8)} {sk:List Sk} {nb:Nat} {c:UInt8}
  (hn:Rd Ht Cs n nb) (nQ:mN.length=2*cP) (oK:mN.take (2*ps.length)=nJ ps) (wD:mQ.length=3*cS) (wE:qH Ht Cs mQ sk) (oI:has=false->ps=[]) (mM:p.length<=100000) (uS:ps.length<=cP) (qM:cP<=20000) (uT:sk.length<=cS) (vx:cS<=20000) (mU:Sub [(0,Pt nb 0),(1,S p),(2,Pt pb 0),(3,Pt qb 0),(4,.bool un),(10,Pt vb 0),(11,.int .i16 (ps.length:Int)),(12,S n.path),(13,.int .u8 (c.toNat:Int))] fr) {k:T0} (hw:n.mm=true) (qL:n.kids[n.kids.length-1]? =some k) (FZ:ps.length<cP) (Lj:2<=k.path.length) (FD:n.kids.length<=100000) (ow:k.nt=3)
  (fin:yi R w D pb mZ cP Ht ⟨k.h,ps++[(k.path.drop 2,o6 un p)],false,k.full⟩):
  GC Tryd.prog ⟨61,Tryd.f61,R,w,D⟩ 703 FP fr (Hq vb [(.slice none 0 0),(pV pb has),.bool false,(S [])] pb mZ ps.length cP mN qb nq sk.length cS mQ (Cs++Ht)):=by
 refine gN mU ?_;clear mU;have oD:=hn
 cases hn with
 | @mk path idx mm nt pr h full kids _ bs kv hv Hs hm hs qs pB hh hk=>
 simp only[oZ,rp,sw] at*;obtain⟨ad,cap,rfl⟩:=hs.slice;obtain⟨mX,l2,c2,rfl,pX⟩:=hh.slice;refine gz<|gz<|gD<|gB<|gJ rfl<|gH uI rfl ?_;refine gA (gG bQ rfl (m5 hm) rfl)<|gA (iU rfl)<|gC<|gV rfl (fun wT=>absurd wT (by rw[hw];decide)) (fun wT=>?_);refine gL<|gz ?_;have qh:=(ae.1 qL).1;obtain⟨kb,rH⟩:∃kb,bs[kids.length-1]? =some kb:=gx (by omega);have tW:=hk (kids.length-1) k kb qL rH;obtain⟨rb,xu,spare,e1,rfl⟩:=hs.at qh;cases e1;have yj:=qs _ (.head _);clear hs;have FX:=tW
 cases tW with
 | @mk n4 qf rE pO pd kh qR ul _ Bo rP rQ OI km ks I2 Eo C9 kk=>
 simp only[oZ,rn,ta] at*;obtain⟨vW,vX,rfl⟩:=ks.slice;obtain⟨Ep,Er,Es,rfl,BD⟩:=C9.slice;refine iV mixed (by kernel_rfl)<|gK (gM rfl) ?_;refine gK (gX rfl)<|gK (gQ p5 rfl) ?_;refine gK (gG bj rfl (m5 hm) rfl)<|gK (gM rfl) ?_;refine gK (gX rfl)<|gK (gQ p5 rfl) ?_;refine gK (gG bj rfl (m5 hm) rfl)<|gK (iu az rfl) ?_;refine gK (iM (r:=((kids.length-1:Nat):Int)) rfl rfl (by omega) (by omega) (by omega))<|gK (ij (i:=kids.length-1) az bi rfl rfl qh)<|gK (gG bK rfl (.tail _ (.tail _ (.tail _ (.tail _ (.tail _ ((au _ yj))))))) (by rw[n8,aH,aT,ak (by rw[aQ];omega),aD,rH];rfl)) ?_;refine gK (iT rfl)<|iH ?_;refine gz<|gD ?_;refine gB<|gA (jj (i:=(ps.length:Int)) (j:=1) rfl rfl) ?_;rw[UZ (by omega)];refine gF<|gC ?_;refine gz<|gD ?_;refine gB<|gJ rfl ?_;refine gH sX rfl<|gA (gG cf rfl (m5 km) rfl) ?_;refine gC<|gW ?_;refine gz<|gD ?_;refine gA (ie rfl rfl)<|gF ?_;refine gC<|gS rfl (fun vY=>absurd vY (by rw[ow];decide)) (fun vY=>?_);refine gz<|gD ?_;refine gA (ie rfl rfl)<|gF ?_;refine gC<|gS rfl (fun Vc=>?_) (fun Vc=>absurd (by rw[ow];rfl) Vc);refine gz<|gz ?_;refine gD<|gB ?_;refine gA (jW (p:=some ⟨pb,0,none⟩) du rfl)<|gC<|gV rfl (fun Vd=>?_) (fun Vd=>absurd Vd (by simp));refine gz<|gz ?_;refine gD<|gB ?_;refine gJ rfl<|gA (gG dw rfl (.tail _ (.head _)) rfl) ?_;refine gA (kU bN rfl)<|gB ?_;refine gA (j5 Tryd.underlying157 dN rfl) ?_;rw[wrap_i64 (by omega) (by omega)];refine gA (ik rfl rfl)<|gC<|gS rfl (fun Ve=>absurd Ve (by omega)) (fun Ve=>?_);refine gL<|gz ?_;refine gz<|gD ?_;refine gH sZ rfl<|gA (gG cj rfl (.head _) rfl) ?_;refine gA (U0 du rfl)<|gC<|hY (fun bc H'=>Sub [(0,Pt kb 0),(1,S p),(2,Pt pb 0),(3,Pt qb 0),(4,.bool un),(10,Pt vb 0),(11,.int .i16 ((ps.length+1:Nat):Int))] bc/\H'=(Hq vb [.slice none 0 0,Pt pb 0,.bool false,S []] pb mZ ps.length cP mN qb nq sk.length cS mQ (Cs++Ht))) (fun Vf=>?_) ?_
 ·refine gV rfl (fun Vg=>?_) (fun Vg=>?_)
  ·exact gD<|gB<|gH sZ rfl<|gO Tryd.sizeOf120 rfl rfl rfl .z rfl rfl<|gC<|Vf _ _ ⟨.of rfl,rfl⟩
  refine gL ?_;have zK:has=true:=by simpa using Vg
  subst zK;exact Vf _ _ ⟨.of rfl,rfl⟩
 rintro bc H' ⟨I6,rfl⟩;refine gN I6 ?_;clear I6;refine gz<|gD<|gH sZ rfl<|gA (gG cj rfl (.head _) rfl)<|gJ rfl<|gA (gG dw rfl (.tail _ (.head _)) rfl)<|gA (iu bN rfl)<|gF<|gC<|gz<|js 10 mixed (by kernel_rfl) rfl rfl<|gR (gQ sZ rfl)<|gR (gG cj rfl (.head _) rfl)<|gR (gQ sZ rfl)<|gR (gG cj rfl (.head _) rfl)<|gR (gX rfl)<|gR (gG dw rfl (.tail _ (.head _)) rfl)<|gR (gM rfl)<|gR (iB (r:=((ps.length+1:Nat):Int)) rfl rfl rfl (by omega) (by omega))<|gR (jF (i:=ps.length+1) bN c5 rfl rfl (by omega))<|gR (gX rfl)<|jt<|gO fD rfl rfl rfl (.s .z) rfl rfl<|gC<|gz<|gD<|gB<|gF<|gC<|gz<|gz<|gD<|gB<|gC<|hY (fun bc H'=>Sub [(0,Pt kb 0),(1,S p),(2,Pt pb 0),(3,Pt qb 0),(4,.bool un),(10,Pt vb 0),(11,.int .i16 ((ps.length+1:Nat):Int)),(26,I (ps.length:Nat)),(27,S (o6 un p))] bc/\H'=(Hq vb [.slice none 0 0,Pt pb 0,.bool false,S []] pb mZ (ps.length+1) cP mN qb nq sk.length cS mQ (Cs++Ht))) (fun O1=>?_) ?_
 ·refine gV rfl (fun O2=>?_) (fun O2=>?_)
  ·refine gz<|gD<|gB<|iP (fun vv H2=>((∃x,vv=.tuple #[S x,.nilIface]/\o6 un p=x)\/(∃b,vv=.tuple #[S [],.iface 174 (Pt b 0)]/\o6 un p=p))/\(Hq vb [.slice none 0 0,Pt pb 0,.bool false,S []] pb mZ (ps.length+1) cP mN qb nq sk.length cS mQ (Cs++Ht))=H2) Tryd.call78 rfl rfl (fun w1 fa=>(UE w1 p (by omega)).mono fun e w' ⟨h1,h2⟩=>?_) ?_
   ·rcases U4 h1 O2 with⟨x,h3,h4⟩|⟨b,h3,h4⟩
    ·exact⟨_,_,h3,fa.o9 h2 (by simp),.inl ⟨x,rfl,h4⟩,rfl⟩
    exact⟨_,_,h3,fa.o9 h2 (by simp),.inr ⟨b,rfl,h4⟩,rfl⟩
   rintro v0 H20 ⟨DT,rfl⟩
   obtain⟨xs,er,rfl,OZ⟩:∃xs er,v0=.tuple #[S xs,er]/\((er=.nilIface /\o6 un p=xs)\/((∃b,er=.iface 174 (Pt b 0))/\o6 un p=p)):=by
    rcases DT with⟨x,rfl,h4⟩|⟨b,rfl,h4⟩
    ·exact⟨x,_,rfl,.inl ⟨rfl,h4⟩⟩
    exact⟨[],_,rfl,.inr ⟨⟨b,rfl⟩,h4⟩⟩
   refine gB<|gA (iz rfl rfl)<|gA (iz rfl rfl)<|gF<|gF<|gC<|gz<|gD<|gB ?_
   obtain⟨en,acy,Ev⟩:∃en:Bool,(∀(P0:World->Prop),True)/\((en=true/\er=.nilIface /\o6 un p=xs)\/(en=false/\(∃b,er=.iface 174 (Pt b 0))/\o6 un p=p)):=by
    rcases OZ with⟨h3,h4⟩|⟨h3,h4⟩
    ·exact⟨true,fun _=>trivial,.inl ⟨rfl,h3,h4⟩⟩
    exact⟨false,fun _=>trivial,.inr ⟨rfl,h3,h4⟩⟩
   refine iZ (v:=.bool en) (U5 Tryd.underlying161 Ev rfl) rfl<|gC<|gV rfl (fun O3=>?_) (fun O3=>?_)
   ·refine gD<|gB<|gF<|gC ?_
    have h7:o6 un p=xs:=by
     rcases Ev with⟨_,_,h⟩|⟨h,_⟩
     ·exact h
     rw[O3] at h;cases h
    refine O1 _ _ ⟨?_,rfl⟩;rw[h7];exact .of rfl
   refine gL ?_
   have h7:o6 un p=p:=by
    rcases Ev with⟨h,_⟩|⟨_,_,h⟩
    ·rw[O3] at h;cases h
    exact h
   refine O1 _ _ ⟨?_,rfl⟩;rw[h7];exact .of rfl
  refine gL ?_;have h7:o6 un p=p:=by rw[O2];rfl
  refine O1 _ _ ⟨?_,rfl⟩;rw[h7];exact .of rfl
 rintro bc H' ⟨I7,rfl⟩;refine gN I7 ?_;clear I7;refine js 13 mixed (by kernel_rfl) rfl rfl<|gR (gQ sZ rfl)<|gR (gG cj rfl (.head _) rfl)<|gR (gX rfl)<|gR (gG dw rfl (.tail _ (.head _)) rfl)<|gR (gM rfl)<|gR (gM rfl)<|gR (gX rfl)<|gR (gQ pU rfl)<|gR (gG ag rfl (m5 km) rfl)<|gR (iX (i:=2) aa rfl rfl (by omega))<|gR (gM rfl)<|gR (iN (vs:=[(0,S (n4.drop 2)),(1,S (o6 un p))]) rfl (fun w1=>U1 _ _ w1))<|gR (ij (i:=ps.length) bN c5 rfl rfl (by omega))<|jt<|kO (b:=mZ) (off:=0+ps.length*2) (l:=mN) (T:=95) (cs:=[S (n4.drop 2),S (o6 un p)]) c5 rfl rfl (by simp[Value.oneCell']) (.s (.s .z)) (by simp;omega) ?_;have e2:0+ps.length*2=2*ps.length:=by omega
 rw[e2];refine gC<|gz<|gD<|gB<|gJ rfl<|gH sY rfl<|gA (gG bX rfl (m5 km) rfl)<|gH yN rfl<|gO cu rfl rfl rfl .z rfl rfl<|gC<|gz<|gD<|gB<|gJ rfl<|gH Aq rfl<|gA (gG ag rfl (m5 km) rfl)<|gH KB rfl<|gO ah rfl rfl rfl .z rfl rfl<|gC<|gz<|gD<|gA (ja (cs:=[.slice Ep Er Es,Pt pb 0,.bool false,S qR]) bW bg rfl (.head _) rfl rfl)<|iO (cs:=[.slice Ep Er Es,Pt pb 0,.bool false,S qR]) bg rfl rfl (by intro v hv;simp only[af,aC,or_false] at hv;rcases hv with rfl|rfl|rfl|rfl<;>first|rfl|exact yh pb true) .z rfl<|gC ?_;have acA:(ps++[(n4.drop 2,o6 un p)]).length =ps.length+1:=by simp
 refine jv (cs:=[.slice Ep Er Es,Pt pb 0,.bool false,S qR]) rfl bW bg rfl (.head _) rfl fun w' ia=>fin true _ (.slice Ep Er Es) w' (by rw[Oj _ _ _ (by simp;omega)];exact nQ) (U3 nQ oK FZ _ _) (fun h=>(by cases h)) C9 ?_
 have h2:=ia.sub (.cons _ (.cons_cons _ (.cons_cons _ (.cons _ (.cons _ (aG _ _))))));dsimp only;rw[acA];exact h2
theorem acB {R:Ending->World->Prop} {w:World} {D:Nat->Prop} {cP cS:Nat} {n:T0} {p:List UInt8} {ps:List (List UInt8×List UInt8)} {sk:List Sk} {nb:Nat} {_c:UInt8}
  (hn:Rd Ht Cs n nb) (nQ:mN.length=2*cP) (oK:mN.take (2*ps.length)=nJ ps) (pC:mQ.length=3*cS) (p7:qH Ht Cs mQ sk) (oI:has=false->ps=[]) (su:p.length<=100000) (uS:ps.length<=cP) (uu:cP<=20000) (uT:sk.length<=cS) (vx:cS<=20000) (mU:Sub [(0,Pt nb 0),(1,S p),(2,Pt pb 0),(3,Pt qb 0),(4,.bool un),(10,Pt vb 0),(11,.int .i16 (ps.length:Int)),(19,I ((p.takeWhile (· ≠47)).length :Nat))] fr) {cr:List T0} (mS:(p.takeWhile (· ≠47)).length <p.length) (qK:n.kids=c0::cr)
  (go:Lp R w D vb pb mZ qb nq cP cS un Ht c0 (p.drop (p.takeWhile (· ≠47)).length) ps sk):
  GC Tryd.prog ⟨61,Tryd.f61,R,w,D⟩ 703 FY fr (Hq vb [(.slice none 0 0),(pV pb has),.bool false,(S [])] pb mZ ps.length cP mN qb nq sk.length cS mQ (Cs++Ht)):=by
 refine gN mU ?_;clear mU;have oD:=hn
 cases hn with
 | @mk path idx mm nt pr h full kids _ bs kv hv Hs hm hs qs pB hh hk=>
 simp only[rp] at*;obtain⟨ad,cap,rfl⟩:=hs.slice;obtain⟨mX,l2,c2,rfl,pX⟩:=hh.slice;have rY:=Da p;subst qK;obtain⟨kb,rH⟩:∃kb,bs[0]? =some kb:=⟨_,ao (by rw[pB];simp)⟩;have tW:=hk 0 _ kb rfl rH;obtain⟨rb,xu,spare,e1,rfl⟩:=hs.at (i:=0) (by simp);cases e1;have yj:=qs _ (.head _);clear hs;refine gz<|gz<|gD<|gB<|gB<|gA (ig aa rfl) ?_;refine gA (ik rfl rfl)<|gC<|gS rfl (fun uU=>?_) (fun uU=>absurd (by omega) uU);refine gz<|gz<|gD<|gB<|gJ rfl<|gH p5 rfl ?_;refine gA (gG bj rfl (m5 hm) rfl)<|gA (iu az rfl)<|gA (iS rfl rfl)<|gC<|gS rfl (fun I8=>?_) (fun I8=>absurd (by rw[aI];omega) I8);refine gz<|gD<|gB<|gB<|gA (iX (i:=(p.takeWhile (· ≠47)).length) aa rfl rfl (by omega))<|gF ?_;refine gC<|gz<|gD<|gB<|gJ rfl<|gH p5 rfl ?_;refine gA (gG bj rfl (m5 hm) rfl)<|gA (ij (i:=0) az bi rfl rfl (by simp))<|gA (gG bK rfl (.tail _ (.tail _ (.tail _ (.tail _ (.tail _ ((au _ yj))))))) (by rw[n8,aH,aT,ak (by rw[aQ,pB];simp),aD,rH];rfl)) ?_;exact gF<|gC<|ir rfl<|jx<|go kb has mN mQ Cs _ tW nQ oK pC p7 oI (.of rfl)
theorem acC {R:Ending->World->Prop} {w:World} {D:Nat->Prop} {cP cS:Nat} {n:T0} {p:List UInt8} {ps:List (List UInt8×List UInt8)} {sk:List Sk} {nb:Nat} {_c:UInt8}
  (hn:Rd Ht Cs n nb) (nQ:mN.length=2*cP) (oK:mN.take (2*ps.length)=nJ ps) (wD:mQ.length=3*cS) (wE:qH Ht Cs mQ sk) (oI:has=false->ps=[]) (mM:p.length<=100000) (uS:ps.length<=cP) (uu:cP<=20000) (uT:sk.length<=cS) (vx:cS<=20000) (mU:Sub [(0,Pt nb 0),(1,S p),(2,Pt pb 0),(3,Pt qb 0),(4,.bool un),(10,Pt vb 0),(11,.int .i16 (ps.length:Int)),(19,I ((p.takeWhile (· ≠47)).length :Nat))] fr) (mS:(p.takeWhile (· ≠47)).length <p.length) (qK:n.kids=[])
  (fin:yi R w D pb mZ cP Ht ⟨none,ps,decide (p.length=(p.takeWhile (· ≠47)).length +1),[]⟩):
  GC Tryd.prog ⟨61,Tryd.f61,R,w,D⟩ 703 FY fr (Hq vb [(.slice none 0 0),(pV pb has),.bool false,(S [])] pb mZ ps.length cP mN qb nq sk.length cS mQ (Cs++Ht)):=by
 refine gN mU ?_;clear mU;have oD:=hn
 cases hn with
 | @mk path idx mm nt pr h full kids _ bs kv hv Hs hm hs qs pB hh hk=>
 simp only[rp] at*;obtain⟨ad,cap,rfl⟩:=hs.slice;obtain⟨mX,l2,c2,rfl,pX⟩:=hh.slice;have rY:=Da p;subst qK;refine gz<|gz<|gD<|gB<|gB<|gA (ig aa rfl) ?_;refine gA (ik rfl rfl)<|gC<|gS rfl (fun uU=>?_) (fun uU=>absurd (by omega) uU);refine gz<|gz<|gD<|gB<|gJ rfl<|gH p5 rfl ?_;refine gA (gG bj rfl (m5 hm) rfl)<|gA (iu az rfl)<|gA (iS rfl rfl)<|gC<|gS rfl (fun I8=>absurd I8 (by simp)) (fun I8=>?_);refine gL<|gz<|gD<|gB<|gA (ig aa rfl)<|gB ?_;refine gA (iB (r:=(((p.takeWhile (· ≠47)).length +1:Nat):Int)) rfl rfl (by omega) (by omega) (by omega))<|gA (ie rfl rfl) ?_;have e5:decide (((p.length:Nat):Int)=(((p.takeWhile (· ≠47)).length +1:Nat):Int))=decide (p.length=(p.takeWhile (· ≠47)).length +1):=decide_eq_decide.2 (by omega);rw[e5];refine gH s6 rfl<|gO aP rfl rfl rfl .z rfl rfl<|gC<|gz<|gD<|gA (ja (cs:=[.slice none 0 0,pV pb has,.bool (decide (p.length=(p.takeWhile (· ≠47)).length +1)),S []]) bW bg rfl (.head _) rfl rfl) ?_;refine iO (cs:=[.slice none 0 0,pV pb has,.bool (decide (p.length=(p.takeWhile (· ≠47)).length +1)),S []]) bg rfl rfl (by intro v hv;simp only[af,aC,or_false] at hv;rcases hv with rfl|rfl|rfl|rfl<;>first|rfl|exact yh _ _) .z rfl<|gC<|jv (cs:=[.slice none 0 0,pV pb has,.bool (decide (p.length=(p.takeWhile (· ≠47)).length +1)),S []]) rfl bW bg rfl (.head _) rfl fun w' ia=>fin has mN (.slice none 0 0) w' nQ oK oI (BC) (ia.sub (.cons _ (.cons_cons _ (.cons_cons _ (.cons _ (.cons _ (aG _ _)))))))
theorem acD {R:Ending->World->Prop} {w:World} {D:Nat->Prop} {cP cS:Nat} {n:T0} {p:List UInt8} {ps:List (List UInt8×List UInt8)} {sk:List Sk} {nb:Nat} {_c:UInt8}
  (hn:Rd Ht Cs n nb) (nQ:mN.length=2*cP) (oK:mN.take (2*ps.length)=nJ ps) (wD:mQ.length=3*cS) (wE:qH Ht Cs mQ sk) (oI:has=false->ps=[]) (su:p.length<=100000) (uS:ps.length<=cP) (uu:cP<=20000) (uT:sk.length<=cS) (vx:cS<=20000) (mU:Sub [(0,Pt nb 0),(1,S p),(2,Pt pb 0),(3,Pt qb 0),(4,.bool un),(10,Pt vb 0),(11,.int .i16 (ps.length:Int)),(19,I ((p.takeWhile (· ≠47)).length :Nat))] fr) (mS:¬(p.takeWhile (· ≠47)).length <p.length) (us:n.h.isSome=true)
  (fin:yi R w D pb mZ cP Ht ⟨n.h,ps,false,n.full⟩):
  GC Tryd.prog ⟨61,Tryd.f61,R,w,D⟩ 703 FY fr (Hq vb [(.slice none 0 0),(pV pb has),.bool false,(S [])] pb mZ ps.length cP mN qb nq sk.length cS mQ (Cs++Ht)):=by
 refine gN mU ?_;clear mU;have oD:=hn
 cases hn with
 | @mk path idx mm nt pr h full kids _ bs kv hv Hs hm hs qs pB hh hk=>
 simp only[ta,Bu] at*;obtain⟨ad,cap,rfl⟩:=hs.slice;obtain⟨mX,l2,c2,rfl,pX⟩:=hh.slice;have rY:=Da p;obtain⟨x8,rfl⟩:∃a,mX=some a:=by cases mX with|none=>rw[<-cI,<-pX] at us;cases us|some a=>exact⟨a,rfl⟩
 refine gz<|gz<|gD<|gB<|gB<|gA (ig aa rfl) ?_;refine gA (ik rfl rfl)<|gC<|gS rfl (fun uU=>absurd (by omega) mS) (fun uU=>?_);refine gL<|gz<|gz<|gD<|gB<|gJ rfl ?_;refine gH sY rfl<|gA (gG bX rfl (m5 hm) rfl)<|gH yN rfl<|gO cu rfl rfl rfl .z rfl rfl<|gC<|gz ?_;refine gD<|gH yN rfl<|gA (gG bX rfl (.head _) rfl)<|gA (jB bR rfl)<|gC<|gV rfl (fun Db=>?_) (fun Db=>absurd Db (by simp));refine gz<|gD<|gB<|gJ rfl<|gH Aq rfl<|gA (gG ag rfl (m5 hm) rfl) ?_;refine gH KB rfl<|gO ah rfl rfl rfl .z rfl rfl<|gC<|gz<|gD<|gA (ja (cs:=[.slice (some x8) l2 c2,pV pb has,.bool false,S full]) bW bg rfl (.head _) rfl rfl) ?_;refine iO (cs:=[.slice (some x8) l2 c2,pV pb has,.bool false,S full]) bg rfl rfl (by intro v hv;simp only[af,aC,or_false] at hv;rcases hv with rfl|rfl|rfl|rfl<;>first|rfl|exact yh _ _) .z rfl<|gC<|jv (cs:=[.slice (some x8) l2 c2,pV pb has,.bool false,S full]) rfl bW bg rfl (.head _) rfl fun w' ia=>fin has mN (.slice (some x8) l2 c2) w' nQ oK oI (hh) (ia.sub (.cons _ (.cons_cons _ (.cons_cons _ (.cons _ (.cons _ (aG _ _)))))))
theorem Vh {R:Ending->World->Prop} {w:World} {D:Nat->Prop} {cP cS:Nat} {n:T0} {p:List UInt8} {ps:List (List UInt8×List UInt8)} {sk:List Sk} {nb:Nat} {_c:UInt8}
  (hn:Rd Ht Cs n nb) (nQ:mN.length=2*cP) (oK:mN.take (2*ps.length)=nJ ps) (wD:mQ.length=3*cS) (wE:qH Ht Cs mQ sk) (oI:has=false->ps=[]) (su:p.length<=100000) (uS:ps.length<=cP) (uu:cP<=20000) (uT:sk.length<=cS) (vx:cS<=20000) (mU:Sub [(0,Pt nb 0),(1,S p),(2,Pt pb 0),(3,Pt qb 0),(4,.bool un),(10,Pt vb 0),(11,.int .i16 (ps.length:Int)),(19,I ((p.takeWhile (· ≠47)).length :Nat))] fr) (mS:¬(p.takeWhile (· ≠47)).length <p.length) (us:n.h=none) (qK:n.kids.length≠1)
  (fin:yi R w D pb mZ cP Ht ⟨none,ps,false,[]⟩):
  GC Tryd.prog ⟨61,Tryd.f61,R,w,D⟩ 703 FY fr (Hq vb [(.slice none 0 0),(pV pb has),.bool false,(S [])] pb mZ ps.length cP mN qb nq sk.length cS mQ (Cs++Ht)):=by
 refine gN mU ?_;clear mU;have oD:=hn
 cases hn with
 | @mk path idx mm nt pr h full kids _ bs kv hv Hs hm hs qs pB hh hk=>
 simp only[rp,ta] at*;obtain⟨ad,cap,rfl⟩:=hs.slice;obtain⟨mX,l2,c2,rfl,pX⟩:=hh.slice;have rY:=Da p
 have CM:(Value.slice mX l2 c2)=.slice none 0 0:=by
  rcases hh with⟨_,h2⟩|⟨k,hb,h2,_⟩
  ·exact h2
  rw[us] at h2;cases h2
 cases CM;refine gz<|gz<|gD<|gB<|gB<|gA (ig aa rfl) ?_;refine gA (ik rfl rfl)<|gC<|gS rfl (fun uU=>absurd (by omega) mS) (fun uU=>?_);refine gL<|gz<|gz<|gD<|gB<|gJ rfl ?_;refine gH sY rfl<|gA (gG bX rfl (m5 hm) rfl)<|gH yN rfl<|gO cu rfl rfl rfl .z rfl rfl<|gC<|gz ?_;refine gD<|gH yN rfl<|gA (gG bX rfl (.head _) rfl)<|gA (jB bR rfl)<|gC<|gV rfl (fun Db=>absurd Db (by simp)) (fun Db=>?_);refine gL<|gz<|gz<|gD<|gB<|gJ rfl ?_;refine gH p5 rfl<|gA (gG bj rfl (m5 hm) rfl)<|gA (iu az rfl)<|gA (ie rfl rfl)<|gC<|gS rfl (fun Lm=>absurd (by omega) qK) (fun Lm=>?_);refine gL<|gz<|gD<|gA (ja (cs:=[.slice none 0 0,pV pb has,.bool false,S []]) bW bg rfl (.head _) rfl rfl)<|iO (cs:=[.slice none 0 0,pV pb has,.bool false,S []]) bg rfl rfl (by intro v hv;simp only[af,aC,or_false] at hv;rcases hv with rfl|rfl|rfl|rfl<;>first|rfl|exact yh _ _) .z rfl<|gC<|jv (cs:=[.slice none 0 0,pV pb has,.bool false,S []]) rfl bW bg rfl (.head _) rfl fun w' ia=>fin has mN (.slice none 0 0) w' nQ oK oI (BC) (ia.sub (.cons _ (.cons_cons _ (.cons_cons _ (.cons _ (.cons _ (aG _ _)))))))
theorem acE {R:Ending->World->Prop} {w:World} {D:Nat->Prop} {cP cS:Nat} {n:T0} {p:List UInt8} {ps:List (List UInt8×List UInt8)} {sk:List Sk} {nb:Nat} {_c:UInt8}
  (hn:Rd Ht Cs n nb) (nQ:mN.length=2*cP) (oK:mN.take (2*ps.length)=nJ ps) (wD:mQ.length=3*cS) (wE:qH Ht Cs mQ sk) (oI:has=false->ps=[]) (su:p.length<=100000) (uS:ps.length<=cP) (uu:cP<=20000) (uT:sk.length<=cS) (vx:cS<=20000) (mU:Sub [(0,Pt nb 0),(1,S p),(2,Pt pb 0),(3,Pt qb 0),(4,.bool un),(10,Pt vb 0),(11,.int .i16 (ps.length:Int)),(19,I ((p.takeWhile (· ≠47)).length :Nat))] fr) (mS:¬(p.takeWhile (· ≠47)).length <p.length) (us:n.h=none) (qK:n.kids=[c0])
  (fin:yi R w D pb mZ cP Ht ⟨none,ps,(decide (c0.path=[47])&&c0.h.isSome)||(decide (c0.path=[])&&decide (c0.idx=[47])),[]⟩):
  GC Tryd.prog ⟨61,Tryd.f61,R,w,D⟩ 703 FY fr (Hq vb [(.slice none 0 0),(pV pb has),.bool false,(S [])] pb mZ ps.length cP mN qb nq sk.length cS mQ (Cs++Ht)):=by
 refine gN mU ?_;clear mU;have oD:=hn
 cases hn with
 | @mk path idx mm nt pr h full kids _ bs kv hv Hs hm hs qs pB hh hk=>
 simp only[rp,ta] at*;obtain⟨ad,cap,rfl⟩:=hs.slice;obtain⟨mX,l2,c2,rfl,pX⟩:=hh.slice;have rY:=Da p
 have CM:(Value.slice mX l2 c2)=.slice none 0 0:=by
  rcases hh with⟨_,h2⟩|⟨k,hb,h2,_⟩
  ·exact h2
  rw[us] at h2;cases h2
 cases CM;subst qK;obtain⟨kb,rH⟩:∃kb,bs[0]? =some kb:=⟨_,ao (by rw[pB];simp)⟩;have tW:=hk 0 _ kb rfl rH;obtain⟨rb,xu,spare,e1,rfl⟩:=hs.at (i:=0) (by simp);cases e1;have yj:=qs _ (.head _);clear hs
 cases tW with
 | @mk n4 qf rE pO pd kh qR ul _ Bo rP rQ OI km ks I2 Eo C9 kk=>
 simp only[oZ,ta,tH] at*;obtain⟨Ep,Er,Es,rfl,BD⟩:=C9.slice;refine gz<|gz<|gD<|gB<|gB<|gA (ig aa rfl) ?_;refine gA (ik rfl rfl)<|gC<|gS rfl (fun uU=>absurd (by omega) mS) (fun uU=>?_);refine gL<|gz<|gz<|gD<|gB<|gJ rfl ?_;refine gH sY rfl<|gA (gG bX rfl (m5 hm) rfl)<|gH yN rfl<|gO cu rfl rfl rfl .z rfl rfl<|gC<|gz ?_;refine gD<|gH yN rfl<|gA (gG bX rfl (.head _) rfl)<|gA (jB bR rfl)<|gC<|gV rfl (fun Db=>absurd Db (by simp)) (fun Db=>?_);refine gL<|gz<|gz<|gD<|gB<|gJ rfl ?_;refine gH p5 rfl<|gA (gG bj rfl (m5 hm) rfl)<|gA (iu az rfl)<|gA (ie rfl rfl)<|gC<|gS rfl (fun Lm=>?_) (fun Lm=>absurd (by simp) Lm);refine gz<|gD<|gB<|gJ rfl<|gH p5 rfl<|gA (gG bj rfl (m5 hm) rfl) ?_;refine gA (ij (i:=0) az bi rfl rfl (by simp))<|gA (gG bK rfl (.tail _ (.tail _ (.tail _ (.tail _ (.tail _ ((au _ yj))))))) (by rw[n8,aH,aT,ak (by rw[aQ,pB];simp),aD,rH];rfl)) ?_;refine gF<|gC<|hY (fun bc H'=>Sub [(10,Pt vb 0)] bc/\H'=(Hq vb [.slice none 0 0,pV pb has,.bool ((decide (n4=[47])&&kh.isSome)||(decide (n4=[])&&decide (qf=[47]))),S []] pb mZ ps.length cP mN qb nq sk.length cS mQ (Cs++Ht))) (fun I9=>?_) ?_
 ·refine gD<|gB<|gJ rfl<|gH pU rfl<|gA (gG ag rfl (m5 km) rfl)<|gA (iE rfl rfl)<|gB<|gZ 357 rfl (fun F5=>?_) (fun F5=>?_)
  ·refine gU<|gI (gX rfl)<|gI (gQ sY rfl)<|gI (gG bX rfl (m5 km) rfl)<|gI (jB bR rfl)<|gT<|gB<|gZ 364 rfl (fun AA=>?_) (fun AA=>?_)
   ·refine gE ?_;refine gE ?_;refine gE ?_;refine gE ?_;refine gE ?_;refine gE ?_;refine iv ?_;refine iv ?_;refine iv ?_;refine iv ?_;refine iv ?_;refine gE ?_;refine gT ?_;refine gH s6 rfl ?_;have px:kh.isSome=true:=by rw[<-cI,<-BD];exact AA
    have tf:=decide_eq_true (of_decide_eq_true F5);have e:((decide (n4=[47])&&kh.isSome)||(decide (n4=[])&&decide (qf=[47])))=true:=by rw[tf,px];rfl
    refine gO aP rfl rfl rfl .z rfl rfl<|gC<|I9 _ _ ⟨.cons rfl .nil,?_⟩;rw[e];rfl
   refine gU<|gI (gX rfl)<|gI (gQ pU rfl)<|gI (gG ag rfl (m5 km) rfl)<|gI (iE rfl rfl)<|gU<|gZ 370 rfl (fun Ew=>?_) (fun Ew=>?_)
   ·refine gU<|gI (gX rfl)<|gI (gQ sP rfl)<|gI (gG ag rfl (m5 km) rfl)<|gI (iE rfl rfl)<|gI (iL rfl rfl)<|hG<|gH s6 rfl ?_;have px:kh.isSome=false:=by rw[<-cI,<-BD];exact AA
    have tf:=decide_eq_true (of_decide_eq_true F5);have pI:=decide_eq_true (of_decide_eq_true Ew);have e:((decide (n4=[47])&&kh.isSome)||(decide (n4=[])&&decide (qf=[47])))=decide (qf=[47]):=by rw[px,pI,gv,dL,fE]
    refine gO aP rfl rfl rfl .z rfl rfl<|gC<|I9 _ _ ⟨.cons rfl .nil,?_⟩;rw[e];rfl
   refine gE ?_;refine gE ?_;refine gE ?_;refine gE ?_;refine gE ?_;refine gI (iD rfl rfl) ?_;refine hG ?_;refine gH s6 rfl ?_;have px:kh.isSome=false:=by rw[<-cI,<-BD];exact AA
   have tf:=decide_eq_true (of_decide_eq_true F5);have oD:=decide_eq_false (of_decide_eq_false Ew);have e:((decide (n4=[47])&&kh.isSome)||(decide (n4=[])&&decide (qf=[47])))=false:=by rw[px,oD,gv,dL,eh]
   refine gO aP rfl rfl rfl .z rfl rfl<|gC<|I9 _ _ ⟨.cons rfl .nil,?_⟩;rw[e];rfl
  refine gE ?_;refine gE ?_;refine gE ?_;refine gE ?_;refine gE ?_;refine hG ?_;refine gB ?_;refine gU ?_;refine gI (gX rfl) ?_;refine gI (gQ pU rfl) ?_;refine gI (gG ag rfl (m5 km) rfl) ?_;refine gI (iE rfl rfl) ?_;refine gU ?_;refine gZ 370 rfl (fun Ew=>?_) (fun Ew=>?_)
  ·refine gU<|gI (gX rfl)<|gI (gQ sP rfl)<|gI (gG ag rfl (m5 km) rfl)<|gI (iE rfl rfl)<|gI (iL rfl rfl)<|hG<|gH s6 rfl ?_;have oT:=decide_eq_false (of_decide_eq_false F5);have pI:=decide_eq_true (of_decide_eq_true Ew);have e:((decide (n4=[47])&&kh.isSome)||(decide (n4=[])&&decide (qf=[47])))=decide (qf=[47]):=by rw[oT,pI,eh,dL,fE]
   refine gO aP rfl rfl rfl .z rfl rfl<|gC<|I9 _ _ ⟨.cons rfl .nil,?_⟩;rw[e];rfl
  refine gE ?_;refine gE ?_;refine gE ?_;refine gE ?_;refine gE ?_;refine gI (iD rfl rfl) ?_;refine hG ?_;refine gH s6 rfl ?_;have oT:=decide_eq_false (of_decide_eq_false F5);have oD:=decide_eq_false (of_decide_eq_false Ew);have e:((decide (n4=[47])&&kh.isSome)||(decide (n4=[])&&decide (qf=[47])))=false:=by rw[oT,oD,eh,dL,eh]
  refine gO aP rfl rfl rfl .z rfl rfl<|gC<|I9 _ _ ⟨.cons rfl .nil,?_⟩;rw[e];rfl
 rintro bc H' ⟨Vi,rfl⟩;refine gN Vi ?_;clear Vi;refine gz<|gD<|gA (ja (cs:=[.slice none 0 0,pV pb has,.bool ((decide (n4=[47])&&kh.isSome)||(decide (n4=[])&&decide (qf=[47]))),S []]) bW bg rfl (.head _) rfl rfl)<|iO (cs:=[.slice none 0 0,pV pb has,.bool ((decide (n4=[47])&&kh.isSome)||(decide (n4=[])&&decide (qf=[47]))),S []]) bg rfl rfl (by intro v hv;simp only[af,aC,or_false] at hv;rcases hv with rfl|rfl|rfl|rfl<;>first|rfl|exact yh _ _) .z rfl<|gC<|jv (cs:=[.slice none 0 0,pV pb has,.bool ((decide (n4=[47])&&kh.isSome)||(decide (n4=[])&&decide (qf=[47]))),S []]) rfl bW bg rfl (.head _) rfl fun w' ia=>fin has mN (.slice none 0 0) w' nQ oK oI (BC) (ia.sub (.cons _ (.cons_cons _ (.cons_cons _ (.cons _ (.cons _ (aG _ _)))))))
end Go.Proofs
