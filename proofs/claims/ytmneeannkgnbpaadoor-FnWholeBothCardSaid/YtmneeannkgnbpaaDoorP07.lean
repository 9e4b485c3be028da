/- Lemmas of the walk and plain facts (JgE4 .. JgE6). -/
import Derived.Test.YtmneeannkgnbpaaDoorL1
import Derived.Test.YtmneeannkgnbpaaDoorL2
import Derived.Test.YtmneeannkgnbpaaDoorP06
import Derived.Test.YtmneeannkgnbpaaDoorP01
set_option maxRecDepth 20000
namespace Go.Proofs
open Go Bw Gt
theorem Tn (w:World) (D:Nat->Prop) (nb pos:Nat) (path idx:List UInt8) (mm:Bool) (nt pr:Nat) (hv:Value) (full:List UInt8) (kv:Value) (kids:List T0) (bs:List Nat) (Hs Hk:SH) (pW:pos<kids.length) (vM:pos<idx.length) (oO:idx.length<=1000000) (qh:kids.length<=1000000) (hs:Own 84 1 kv kids.length (bs.map (Pt · 0)) Hs) (hk:oq kids bs Hk)
  (hH:HF w D (Rx nb (mu path idx mm nt pr kv hv full) 115::(Hs++Hk)) w):
  Calls Tryd.prog 72 #[Pt nb 0,I (pos:Int)] w fun e w'=>e=.returned (I ((bump idx kids pos).2.2:Nat))/\∃nX yQ,Own 84 1 kv kids.length ((oW bs pos (bump idx kids pos).2.2).map (Pt · 0)) nX/\oq (bump idx kids pos).2.1 (oW bs pos (bump idx kids pos).2.2) yQ/\HF w D (Rx nb (mu path (bump idx kids pos).1 mm nt pr kv hv full) 115::(nX++yQ)) w':=by
 obtain⟨rb,cap,spare,rfl,rfl⟩:=hs.at pW;have pB:=hk.len;have hle:=hs.le;obtain⟨k,tB⟩:=gx pW;obtain⟨b,H1,H2,KG,NC,sO,Au⟩:=hk.As tB
 cases NC with
 | @mk n4 qf rE pO pd ko qR ul _ Bo rP rQ Ks Kh Kk ks kh kk=>
 refine enter D (Rx b (mu n4 qf rE pO pd rP rQ qR) 115::Rx rb (bs.map (Pt · 0)++spare) 84::Rx nb (mu path idx mm nt pr (Sx rb kids.length cap) hv full) 115::((Ks++(Kh++Kk))++H2)) Tryd.func72 rfl Tryd.ntmps72 rfl rfl (hH.perm ?_) fun c hc=>?_
 ·refine List.Perm.trans (.cons _ (.cons _ sO)) ?_;exact(aF (l₁:=([Rx nb (mu path idx mm nt pr (Sx rb kids.length cap) hv full) 115,Rx rb (bs.map (Pt · 0)++spare) 84]:SH)) (l₂:=([Rx b (mu n4 qf rE pO pd rP rQ qR) 115]:SH))).append_right ((Ks++(Kh++Kk))++H2)|>.trans ((List.Perm.swap _ _ _).cons _)
 subst hc
 have n5:∀i,((bs.map (Pt · 0):List Value)++spare)[i]? =if i<kids.length then(bs[i]?).map (Pt · 0) else spare[i-kids.length]? :=by
  intro i;by_cases hi:i<kids.length
  ·rw[if_pos hi,ak (by simp[pB];exact hi),aD]
  rw[if_neg hi,bO (by simp[pB];omega)];simp[pB]
 refine gz<|gD<|gF<|gC<|gz<|gD<|gB<|gJ rfl<|gH p5 rfl<|gA (gG bj rfl (m2 (.head _)) rfl)<|gF<|gC<|gz<|gD<|gB<|gB<|gA (ij (i:=pos) az bi rfl rfl pW)<|gA (gG bK rfl (.tail _ (.head _)) (by rw[n8,aH,aT,n5,if_pos pW,KG];rfl))<|gJ rfl<|gH tz rfl<|gA (gG da rfl (.head _) rfl)<|gA (jj rfl rfl) ?_;rw[Bn];refine gJ rfl<|gH tz rfl<|gO cy rfl rfl rfl (.z) rfl rfl<|gC<|gz<|gD<|gB<|gB<|gA (ij (i:=pos) az bi rfl rfl pW)<|gA (gG bK rfl (.tail _ (.head _)) (by rw[n8,aH,aT,n5,if_pos pW,KG];rfl))<|gJ rfl<|gH tz rfl<|gA (gG da rfl (.head _) rfl)<|gF<|gC<|gz ?_;obtain⟨qE,p6,ZW⟩:=Au _ _ (HT.mk (pr:=pd+1) ks kh kk);refine hO (H':=Rx rb (bs.map (Pt · 0)++spare) 84::Rx nb (mu path idx mm nt pr (Sx rb kids.length cap) hv full) 115::qE) (fun w1 h1=>h1.perm ?_) ?_
 ·refine List.Perm.trans ?_ (.cons _ (.cons _ ZW.symm));exact(aF (l₁:=([Rx b (mu n4 qf rE pO (pd+1) rP rQ qR) 115]:SH)) (l₂:=([Rx rb (bs.map (Pt · 0)++spare) 84,Rx nb (mu path idx mm nt pr (Sx rb kids.length cap) hv full) 115]:SH))).append_right ((Ks++(Kh++Kk))++H2)
 have qK:kids.modify pos Tr.nL=kids.set pos (.node () n4 qf rE pO (pd+1) ko qR ul):=by
  rw[ZU _ tB];rfl
 rw[<-qK] at p6;have ZX:=p6.len;have py:(kids.modify pos Tr.nL).length =kids.length:=dt _ _ _;rw[py] at ZX;obtain⟨nh,Bp⟩:∃nh,nh=(kids.modify pos Tr.nL).map Tr.pr:=⟨_,rfl⟩;have ZY:(((kids.modify pos Tr.nL)[pos]?).map Tr.pr).getD 0=pd+1:=by rw[qK,eV (by exact pW)];rfl
 have KH:=D0 nh (pd+1) pos
 have CD:bump idx kids pos=(if vk nh (pd+1) pos≠pos then oW idx pos (vk nh (pd+1) pos) else idx,oW (kids.modify pos Tr.nL) pos (vk nh (pd+1) pos),vk nh (pd+1) pos):=by
  unfold bump;rw[Bp];dsimp only;rw[ZY]
 have nM:∀j,j<kids.length->∃(b:Nat) (kv hv:Value) (t:T0),bs[j]? =some b/\nh[j]? =some t.pr/\(Rx b (mu t.path t.idx t.mm t.nt t.pr kv hv t.full) 115:oJ)∈qE:=by
  intro j hj;obtain⟨t,ht⟩:∃t,(kids.modify pos Tr.nL)[j]? =some t:=⟨_,ao (by rw[py];exact hj)⟩;obtain⟨b,kv,hv,h1,h2⟩:=p6.mem ht;exact⟨b,kv,hv,t,h1,by rw[Bp,aD,ht];rfl,h2⟩
 have vN:∀j i,j<=pos->i<kids.length->(((oW bs pos j).map (Pt · 0):List Value)++spare)[i]? =((oW bs pos j)[i]?).map (Pt · 0):=by
  intro j i hj hi;rw[ak (by rw[aQ,CC bs hj (by omega)];omega),aD]
 refine gD<|gB<|gF<|gC<|gz<|gW ?_
 refine iC (fun N bc H'=>∃j,j=N/\j<=pos/\vk nh (pd+1) pos=vk nh (pd+1) j/\Sub [(0,Pt nb 0),(1,I (pos:Int)),(5,(Sx rb kids.length cap)),(6,.int .u32 (((pd+1)%4294967296:Nat):Int)),(7,I ((j:Nat):Int))] bc/\H'=(Rx rb ((oW bs pos j).map (Pt · 0)++spare) 84)::Rx nb (mu path idx mm nt pr (Sx rb kids.length cap) hv full) 115::qE) pos
  ⟨pos,rfl,bI _,rfl,.of rfl,by rw[Tm bs (by omega)]⟩ ?_
 rintro N bc H' ⟨j,hjN,uM,og,To,rfl⟩ ih;refine gN To ?_;clear To;refine gz<|gz<|hY (fun bc H'=>∃t:Bool,(t=true->0<j/\vk nh (pd+1) j=vk nh (pd+1) (j-1))/\(t=false->vk nh (pd+1) j=j)/\Sub [(0,Pt nb 0),(1,I (pos:Int)),(5,(Sx rb kids.length cap)),(6,.int .u32 (((pd+1)%4294967296:Nat):Int)),(7,I ((j:Nat):Int)),(43,.bool t)] bc/\H'=(Rx rb ((oW bs pos j).map (Pt · 0)++spare) 84)::Rx nb (mu path idx mm nt pr (Sx rb kids.length cap) hv full) 115::qE) (fun J5=>?_) ?_
 ·refine gD<|gB<|gA (iS rfl rfl)<|gB<|gZ 32 rfl (fun tC=>?_) (fun tC=>?_)
  ·have D2:0<j:=by have:=of_decide_eq_true tC;omega
   obtain⟨b2,ov,CE,t2,sf,qZ,vg⟩:=nM (j-1) (by omega)
   have Tp:vk nh (pd+1) j=if t2.pr%4294967296<(pd+1)%4294967296 then vk nh (pd+1) (j-1) else j:=by
    obtain⟨q,rfl⟩:∃q,j=q+1:=⟨j-1,by omega⟩;rw[dh] at qZ;conv=>lhs;unfold vk
    rw[di,qZ];rfl
   refine gU<|gU ?_;refine gI (iM (r:=((j-1:Nat):Int)) rfl rfl (by omega) (by omega) (by omega))<|gI (ij (i:=j-1) az bi rfl rfl (by omega)) ?_;refine gI (gG bK rfl (.head _) (by rw[n8,aH,aT,vN j _ uM (by omega),xW bs uM (by omega),if_pos (by omega),sf];rfl))<|gI (gX rfl) ?_;refine gI (gQ tz rfl)<|gI (gG da rfl (.tail _ (.tail _ vg)) rfl) ?_;refine gU<|gI (ik rfl rfl) ?_;refine gT<|gC<|J5 _ _ ⟨_,fun h=>⟨D2,?_⟩,fun h=>?_,.of rfl,rfl⟩
   ·rw[Tp,if_pos (by have:=of_decide_eq_true h;omega)]
   rw[Tp,if_neg (by have:=of_decide_eq_false h;omega)]
  refine gE ?_;refine gE ?_;refine gE ?_;refine gE ?_;refine gE ?_;refine gE ?_;refine gE ?_;refine gE ?_;refine gE ?_;refine gE ?_;refine hG ?_;refine gC ?_;refine J5 _ _ ⟨false,fun h=>(by cases h),fun _=>?_,.of rfl,rfl⟩;have:j=0:=by have:=of_decide_eq_false tC;omega
  subst this;rfl
 rintro bc H' ⟨t,qQ,sq,Tq,rfl⟩;refine gN Tq ?_;clear Tq;refine gV rfl (fun Bq=>?_) (fun Bq=>?_)
 ·refine gL<|gz<|gW ?_;obtain⟨D2,ND⟩:=qQ Bq;obtain⟨y,hy⟩:∃y,bs[j-1]? =some y:=gx (by omega);have D3:(((oW bs pos j).map (Pt · 0):List Value)++spare).length =kids.length+spare.length:=by rw[ax,aQ,CC bs uM (by omega),pB]
  have Ts:(oW bs pos j)[j]? =some b:=by rw[xW bs uM (by omega),if_neg (by omega),if_pos rfl,KG]
  have xX:(oW bs pos j)[j-1]? =some y:=by rw[xW bs uM (by omega),if_pos (by omega),hy]
  refine hY (fun bc H'=>Sub [(0,Pt nb 0),(1,I (pos:Int)),(5,(Sx rb kids.length cap)),(6,.int .u32 (((pd+1)%4294967296:Nat):Int)),(7,I ((j:Nat):Int))] bc/\H'=(Rx rb (rC (rC ((oW bs pos j).map (Pt · 0)++spare) (0+(j-1)*1) (Pt b 0)) (0+j*1) (Pt y 0)) 84)::Rx nb (mu path idx mm nt pr (Sx rb kids.length cap) hv full) 115::qE) (fun J7=>?_) ?_
  ·refine jM (fun _=>True) mixed<|im 0 rfl (fun _ _=>trivial) (gM rfl)<|im 1 rfl (fun _ _=>trivial) (gM rfl)<|im 2 rfl (fun _ _=>trivial) (iM (r:=((j-1:Nat):Int)) rfl rfl (by omega) (by omega) (by omega))<|im 3 rfl (fun _ _=>trivial) (gM rfl)<|im 4 rfl (fun _ _=>trivial) (gM rfl)<|im 5 rfl (fun _ _=>trivial) (gM rfl)<|im 6 rfl (fun _ _=>trivial) (gM rfl)<|im 7 rfl (fun _ _=>trivial) (ij (i:=j) az bi rfl rfl (by omega))<|im 9 rfl (fun _ _=>trivial) (gM rfl)<|im 10 rfl (fun _ _=>trivial) (gM rfl)<|im 11 rfl (fun _ _=>trivial) (iM (r:=((j-1:Nat):Int)) rfl rfl (by omega) (by omega) (by omega))<|im 12 rfl (fun _ _=>trivial) (ij (i:=j-1) az bi rfl rfl (by omega))<|jQ 8 13 rfl rfl (by kernel_rfl) ?_ ?_
   ·refine jk (gG bK rfl (.head _) (by rw[n8,aH,aT,vN j _ uM (by omega),Ts];rfl)) (fun _ _=>trivial) rfl<|iQ 13 rfl (by kernel_rfl)<|jk (gG bK rfl (.head _) (by rw[n8,aH,aT,vN j _ uM (by omega),xX];rfl)) (fun _ _=>trivial) rfl<|im 14 rfl (fun _ _=>trivial) (ij (i:=j-1) az bi rfl rfl (by omega))<|iQ 15 rfl (by kernel_rfl)<|jK (b:=rb) (off:=0+(j-1)*1) (l:=(oW bs pos j).map (Pt · 0)++spare) (T:=84) (fz:=(0,0)) (v:=Pt b 0) bi rfl rfl rfl .z (by rw[n8,ao (by rw[D3];omega)];rfl) rfl (fun _ _=>trivial) ?_;refine im 16 rfl (fun _ _=>trivial) (ij (i:=j) az bi rfl rfl (by omega))<|iQ 17 rfl (by kernel_rfl)<|jK (b:=rb) (off:=0+j*1) (T:=84) (fz:=(0,0)) (v:=Pt y 0) bi rfl rfl rfl .z (by rw[n8,Fo,ao (by rw[cR,D3];omega)];rfl) rfl (fun _ _=>trivial) ?_;exact jz (by kernel_rfl)<|J7 _ _ ⟨.of rfl,rfl⟩
   refine jk (gG bK rfl (.head _) (by rw[n8,aH,aT,vN j _ uM (by omega),xX];rfl)) (fun _ _=>trivial) rfl<|iQ 8 rfl (by kernel_rfl)<|jk (gG bK rfl (.head _) (by rw[n8,aH,aT,vN j _ uM (by omega),Ts];rfl)) (fun _ _=>trivial) rfl<|im 14 rfl (fun _ _=>trivial) (ij (i:=j-1) az bi rfl rfl (by omega))<|iQ 15 rfl (by kernel_rfl)<|jK (b:=rb) (off:=0+(j-1)*1) (l:=(oW bs pos j).map (Pt · 0)++spare) (T:=84) (fz:=(0,0)) (v:=Pt b 0) bi rfl rfl rfl .z (by rw[n8,ao (by rw[D3];omega)];rfl) rfl (fun _ _=>trivial) ?_;refine im 16 rfl (fun _ _=>trivial) (ij (i:=j) az bi rfl rfl (by omega))<|iQ 17 rfl (by kernel_rfl)<|jK (b:=rb) (off:=0+j*1) (T:=84) (fz:=(0,0)) (v:=Pt y 0) bi rfl rfl rfl .z (by rw[n8,Fo,ao (by rw[cR,D3];omega)];rfl) rfl (fun _ _=>trivial) ?_;exact jz (by kernel_rfl)<|J7 _ _ ⟨.of rfl,rfl⟩
  rintro bc H' ⟨CF,rfl⟩;refine gN CF ?_;clear CF
  have ZZ:rC (rC ((oW bs pos j).map (Pt · 0)++spare) (0+(j-1)*1) (Pt b 0)) (0+j*1) (Pt y 0)=(oW bs pos (j-1)).map (Pt · 0)++spare:=by
   rw[Fo,Fo,aH,aH,aT,aT,<-ZT bs D2 uM (by omega) KG hy];have Tt:((oW bs pos j).map (Pt · 0):List Value).length =bs.length:=by rw[aQ,CC bs uM (by omega)]
   rw[List.set_append_left _ _ (by rw[Tt];omega),List.set_append_left _ _ (by rw[cR,Tt];omega),gr,gr]
  rw[ZZ];refine il ?_;refine gD ?_;refine gB ?_;refine gA (iM (r:=((j-1:Nat):Int)) rfl rfl (by omega) (by omega) (by omega)) ?_;refine gF ?_;refine gC ?_;exact ih (j-1) _ _ (by omega) ⟨j-1,rfl,by omega,by rw[og,ND],.of rfl,rfl⟩
 refine ir rfl<|gz<|gz ?_;have CG:vk nh (pd+1) pos=j:=by rw[og];exact sq (by simpa using Bq)
 refine gD<|gB<|gB<|gA (iF rfl rfl)<|gC<|gV rfl (fun wy=>?_) (fun wy=>?_)
 ·have mW:j≠pos:=fun e=>by rw[e] at wy;simp at wy
  refine js 32 mixed (by kernel_rfl) rfl rfl<|gR (gM rfl)<|gR (gM rfl)<|gR (gX rfl)<|gR (gQ sP rfl)<|gR (gG ag rfl (.tail _ (.head _)) rfl)<|gR (gM rfl)<|gR (jm (j:=j) aa rfl rfl (by omega))<|gR (gM rfl)<|gR (gX rfl)<|gR (gQ sP rfl)<|gR (gG ag rfl (.tail _ (.head _)) rfl)<|gR (gM rfl)<|gR (gM rfl)<|gR (iy pos (by omega))<|gR (j7 (i:=pos) (j:=pos+1) (l':=(idx.drop pos).take 1) aa rfl rfl rfl (by omega) (by omega) (by rw[List.take_drop,eF]))<|gR (iR rfl rfl (by simp;omega))<|gR (gM rfl)<|gR (gX rfl)<|gR (gQ sP rfl)<|gR (gG ag rfl (.tail _ (.head _)) rfl)<|gR (gM rfl)<|gR (gM rfl)<|gR (kG (i:=j) (j:=pos) aa rfl rfl rfl (by omega) (by omega))<|gR (iR rfl rfl (by simp;omega))<|gR (gM rfl)<|gR (gX rfl)<|gR (gQ sP rfl)<|gR (gG ag rfl (.tail _ (.head _)) rfl)<|gR (gM rfl)<|gR (iy pos (by omega))<|gR (iX (i:=pos+1) aa rfl rfl (by omega))<|gR (iR rfl rfl (by simp;omega))<|jt<|gJ rfl<|gH sP rfl<|gO ah rfl rfl rfl (.s .z) rfl rfl<|gC<|gz<|gD<|gB<|gF<|gC ?_;obtain⟨uN,ow,NE⟩:=p6.move (pos:=pos) (np:=j) uM;refine ic rfl rfl fun w' ia=>⟨by rw[CD,CG],_,uN,by rw[CD,CG];exact Own.SO (ys:=(oW bs pos j).map (Pt · 0)) hs (by rw[aQ,aQ,CC bs uM (by omega)]),by rw[CD,CG];exact ow,?_⟩
  rw[CD,CG,if_pos mW];refine HF.perm ia ?_;exact(List.Perm.swap _ _ _).trans (.cons _ (.cons _ NE.symm))
 refine gL<|gz<|gD<|gB<|gF<|gC ?_;obtain⟨uN,ow,NE⟩:=p6.move (pos:=pos) (np:=j) uM;refine ic rfl rfl fun w' ia=>⟨by rw[CD,CG],_,uN,by rw[CD,CG];exact Own.SO (ys:=(oW bs pos j).map (Pt · 0)) hs (by rw[aQ,aQ,CC bs uM (by omega)]),by rw[CD,CG];exact ow,?_⟩
 rw[CD,CG,if_neg (by simp at wy;omega)];refine HF.perm ia ?_;exact(List.Perm.swap _ _ _).trans (.cons _ (.cons _ NE.symm))
end Go.Proofs
namespace Gt
open Gs
inductive Tok where
 |b (c:UInt8)|P (n:List UInt8)|A (n:List UInt8)
deriving DecidableEq
def lg:List Tok->List UInt8
 |[]=>[]
 |.b c::s=>c::lg s
 |.P n::s=>58::(n++lg s)
 |.A n::s=>42::(n++lg s)
def bs (l:List UInt8):List Tok:=l.map .b
def tD (c:UInt8):Prop:=c≠58/\c≠42
def word (n:List UInt8):Prop:=n≠[]/\∀c∈n,c≠47/\c≠58/\c≠42
def Ok:Bool->List Tok->Prop
 |_,[]=>True
 |_,.b c::s=>tD c/\Ok (c==47) s
 |sl,.P n::s=>sl=true/\word n/\(s=[]\/∃r,s=.b 47::r)/\Ok false s
 |sl,.A n::s=>sl=true/\word n/\s=[]
def CH:List Tok->Bool
 |.A _::_=>false
 |_=>true
def parts:Tok->Tok->Bool
 |.A _,_=>false
 |.b _,.A _=>false
 |.P _,.A _=>false
 |.P _,.P _=>false
 |.b _,.b _=>true
 |.b _,.P _=>true
 |.P _,.b _=>true
def apart:List Tok->List Tok->Bool
 |[],[]=>false
 |[],y::r=>CH (y::r)
 |x::s,[]=>CH (x::s)
 |x::s,y::r=>if x=y then apart s r else parts x y
theorem CI:∀(s r:List Tok),lg (s++r)=lg s++lg r
 |[],r=>rfl
 |.b c::s,r=>by simp[lg,CI s r]
 |.P n::s,r=>by simp[lg,CI s r]
 |.A n::s,r=>by simp[lg,CI s r]
theorem Fx:∀l:List UInt8,lg (bs l)=l
 |[]=>rfl
 |c::l=>by simp only[bs,aX,lg,aM,true_and];exact Fx l
theorem CJ (a c:List UInt8):bs (a++c)=bs a++bs c:=dX
theorem Z0 (a:List UInt8):(bs a).length =a.length:=aQ _
theorem Z1 (x y:Tok):parts x y=parts y x:=by cases x<;>cases y<;>rfl
theorem zw (x:Tok) (s r:List Tok):apart (x::s) (x::r)=apart s r:=by simp[apart]
theorem yR {x y:Tok} (h:x≠y) (s r:List Tok):apart (x::s) (y::r)=parts x y:=by simp[apart,h]
theorem Fy:∀(s r:List Tok),apart s r=apart r s
 |[],[]=>rfl
 |[],y::r=>rfl
 |x::s,[]=>rfl
 |x::s,y::r=>by
  by_cases h:x=y
  ·subst h;rw[zw,zw,Fy s r]
  rw[yR h,yR fun e=>h e.symm,Z1]
theorem KI:∀s:List Tok,apart s s=false
 |[]=>rfl
 |x::s=>by rw[zw];exact KI s
theorem xw (l:List Tok) (s r:List Tok):apart (l++s) (l++r)=apart s r:=by
 induction l with
 |nil=>rfl
 |cons x l ih=>rw[aW,aW,zw];exact ih
theorem Z2 {c d:UInt8} (h:c≠d) (s r:List Tok):apart (.b c::s) (.b d::r)=true:=yR (by simpa using h) s r
theorem Tu (c:UInt8) (n:List UInt8) (s r:List Tok):apart (.b c::s) (.P n::r)=true:=yR (by simp) s r
theorem Z3 {m n:List UInt8} (h:m≠n) (s r:List Tok):apart (.P m::s) (.P n::r)=false:=yR (by simpa using h) s r
theorem NF:∀(p:List UInt8) (s:List Tok),(∀c∈p,tD c)->∃i s',i<=p.length/\s=bs (p.take i)++s'/\mK (lg s) p=i/\(lg s).drop i=lg s'/\(∀c,p[i]? =some c->s'.head? ≠some (.b c))
 |[],s,_=>⟨0,s,bI _,by simp[bs],HY _,rfl,fun c h=>by simp at h⟩
 |a::p,[],_=>⟨0,[],bM _,by simp[bs],by simp[lg,mK],rfl,fun c _=>by simp⟩
 |a::p,.b c::s,h=>by
  by_cases e:c=a
  ·subst e;obtain⟨i,s',h1,h2,h3,h4,h5⟩:=NF p s fun x hx=>h x (.tail _ hx)
   refine⟨i+1,s',by simpa using h1,?_,?_,?_,fun d hd=>h5 d (by simpa using hd)⟩
   ·simp only[List.take_succ_cons,bs,aX,aW,aM,true_and];exact h2
   ·simp only[lg,mK,if_true,h3]
   simpa[lg] using h4
  refine⟨0,.b c::s,bM _,by simp[bs],?_,rfl,fun d hd=>?_⟩
  ·simp only[lg,mK,if_neg e]
  simp at hd;subst hd;simpa using e
 |a::p,.P n::s,h=>by
  have ha:=(h a (.head _)).1;refine⟨0,.P n::s,bM _,by simp[bs],?_,rfl,fun d _=>by simp⟩
  simp only[lg,mK,if_neg fun e:(58:UInt8)=a=>ha e.symm]
 |a::p,.A n::s,h=>by
  have ha:=(h a (.head _)).2;refine⟨0,.A n::s,bM _,by simp[bs],?_,rfl,fun d _=>by simp⟩;simp only[lg,mK,if_neg fun e:(42:UInt8)=a=>ha e.symm]
theorem NG:∀(p:List UInt8) (i:Nat),(∀c∈p,tD c)->fw p i=none
 |[],_,_=>rfl
 |c::p,i,h=>by
  have hc:=h c (.head _);unfold fw;rw[if_neg (by rintro(e|e);exact hc.1 e;exact hc.2 e)];exact NG p _ fun x hx=>h x (.tail _ hx)
theorem NH:∀(p q:List UInt8) (i:Nat),(∀c∈p,tD c)->fw (p++q) i=fw q (i+p.length)
 |[],q,i,_=>by simp
 |c::p,q,i,h=>by
  have hc:=h c (.head _);rw[aW];conv=>lhs;unfold fw
  rw[if_neg (by rintro(e|e);exact hc.1 e;exact hc.2 e),NH p q _ fun x hx=>h x (.tail _ hx)];simp;congr 1;omega
theorem Fz {n t:List UInt8} (hn:∀c∈n,c≠47) (ht:t=[]\/∃r,t=47::r):(n++t).takeWhile (· ≠47)=n:=by
 induction n with
 |nil=>rcases ht with rfl|⟨r,rfl⟩<;>simp
 |cons c n ih=>
  rw[aW,dj (by simpa using hn c (.head _)),ih fun x hx=>hn x (.tail _ hx)]
theorem NI {pre n t:List UInt8} (hp:∀c∈pre,tD c) (hn:word n) (ht:t=[]\/∃r,t=47::r):fw (pre++58::(n++t)) 0=some (58::n,pre.length):=by
 rw[NH _ _ _ hp];unfold fw;rw[if_pos (.inl rfl),Fz (fun c hc=>(hn.2 c hc).1) ht];simp
theorem NJ {pre n:List UInt8} (hp:∀c∈pre,tD c) (hn:word n):fw (pre++42::n) 0=some (42::n,pre.length):=by
 rw[NH _ _ _ hp];unfold fw;rw[if_pos (.inr rfl)];have:=Fz (t:=[]) (fun c hc=>(hn.2 c hc).1) (.inl rfl);rw[aS] at this;rw[this];simp
theorem NK:∀(sl:Bool) (s:List Tok),Ok sl s->∃(pre:List UInt8) (r:List Tok),s=bs pre++r/\(∀c∈pre,tD c)/\Ok (if pre=[] then sl else pre.getLast? ==some 47) r/\(r=[]\/(∃n q,r=.P n::q)\/∃n,r=[.A n])
 |sl,[],_=>⟨[],[],rfl,by simp,trivial,.inl rfl⟩
 |sl,.b c::s,h=>by
  obtain⟨pre,r,h1,h2,h3,h4⟩:=NK (c==47) s h.2;refine⟨c::pre,r,by rw[h1];rfl,fun x hx=>?_,?_,h4⟩
  ·rcases af.1 hx with rfl|hx
   ·exact h.1
   exact h2 x hx
  rw[if_neg (by simp)];by_cases hp:pre=[]
  ·subst hp;rw[if_pos rfl] at h3;have:(([c]:List UInt8).getLast? ==some 47)=(c==47):=by simp
   rw[this];exact h3
  rw[if_neg hp] at h3;obtain⟨x,l,rfl⟩:=List.exists_cons_of_ne_nil hp
  rw[List.getLast?_cons_cons];exact h3
 |sl,.P n::q,h=>⟨[],.P n::q,rfl,by simp,h,.inr (.inl ⟨n,q,rfl⟩)⟩
 |sl,.A n::q,h=>by
  have:=h.2.2;subst this;exact⟨[],[.A n],rfl,by simp,h,.inr (.inr ⟨n,rfl⟩)⟩
theorem KJ {s:List Tok} (h:s=[]\/∃r,s=.b 47::r):lg s=[]\/∃r,lg s=47::r:=by
 rcases h with rfl|⟨r,rfl⟩
 ·exact .inl rfl
 exact .inr ⟨_,rfl⟩
end Gt
namespace Go.Proofs
open Go Bw Gt
variable {wl:Bool} {hv:Value} {Hh Hr:SH} {fr:SF}
theorem zx {x:UInt8} {k:Nat} (h:(x.toNat:Int)=(k:Int)) (hk:k<256):x=UInt8.ofNat k:=by
 apply bU.1;rw[UInt8.toNat_ofNat'];omega
theorem NL {x:UInt8} (h:(x.toNat:Int)=58):x=58:=zx (k:=58) h (by omega)
theorem NM {x:UInt8} (h:(x.toNat:Int)=42):x=42:=zx (k:=42) h (by omega)
theorem Av {x:UInt8} (h:(x.toNat:Int)=47):x=47:=zx (k:=47) h (by omega)
theorem Z4 {x:UInt8} (h:(x.toNat:Int)=92):x=92:=zx (k:=92) h (by omega)
theorem Z5 {p:List UInt8} {i:Nat} {x:UInt8} (hx:p[i]? =some x) (h1:x≠58) (h2:x≠42):fw (p.drop i) i=fw (p.drop (i+1)) (i+1):=by
 rw[drop_cons hx];conv=>lhs;unfold fw
 rw[if_neg (by rintro(e|e);exact h1 e;exact h2 e)]
theorem Z6 {p:List UInt8} {i:Nat} {x:UInt8} (hx:p[i]? =some x) (h:x=58\/x=42):fw (p.drop i) i=some (x::(p.drop (i+1)).takeWhile (· ≠47),i):=by
 rw[drop_cons hx];conv=>lhs;unfold fw
 rw[if_pos h]
theorem NN:∀{q:List UInt8} {e:Nat},(∀k,k<e->∀c,q[k]? =some c->c≠47)->(q[e]? =some 47\/q.length<=e)->q.takeWhile (· ≠47)=q.take e
 |[],e,_,_=>by simp
 |c::q,0,_,h=>by
  rcases h with h|h
  ·have:c=47:=by simpa using h
   subst this;simp
  simp at h
 |c::q,e+1,h1,h2=>by
  have hc:=h1 0 (by omega) c rfl;rw[dj (by simpa using hc),List.take_succ_cons,NN (e:=e) (fun k hk d hd=>h1 (k+1) (by omega) d (by simpa using hd)) (by simpa using h2)]
def Z7 (o:Option (List UInt8×Nat)):Value:=match o with
 |none=>.tuple #[S [],I (-1),.bool false]
 |some (wc,i)=>.tuple #[S wc,I (i:Int),.bool true]
theorem Tv:∀{q:List UInt8} {k:Nat},k<q.length->(∀j,j<k+1->∀c,q[j]? =some c->c≠47)->q.takeWhile (· ≠47)=q.take (k+1)++(q.drop (k+1)).takeWhile (· ≠47)
 |[],k,h,_=>by simp at h
 |c::q,0,_,h=>by
  have hc:=h 0 (by omega) c rfl
  rw[dj (by simpa using hc)];simp
 |c::q,k+1,hk,h=>by
  have hc:=h 0 (by omega) c rfl;rw[dj (by simpa using hc),Tv (by simpa using hk) (fun j hj d hd=>h (j+1) (by omega) d (by simpa using hd))];rfl
theorem H6 (w:World) (p:List UInt8) (oE:∀c∈p,c≠92) (uO:∀wc i,fw p 0=some (wc,i)->∀c∈wc.tail,c≠58/\c≠42) (hl:p.length<=100000):Calls Tryd.prog 81 #[S p] w fun e w'=>e=.returned (Z7 (fw p 0))/\HF w (fun _=>False) [] w':=by
 refine enter (fun _=>False) [] Tryd.func81 rfl Tryd.ntmps81 rfl rfl (HF.start w _) fun c hc=>?_
 subst hc;refine gz<|gD<|gF<|gF<|gF<|gC<|gz<|gD<|gF<|gC<|gz<|gz<|gD<|gB<|jS aa aL bT rfl rfl (fun rb cp z fz vO s8=>?_);refine gA (iu aL rfl)<|gB<|gC<|gW ?_
 refine iC (fun N bc H'=>∃i,i+N=p.length/\fw p 0=fw (p.drop i) i/\Sub [(0,S p),(5,.bool false),(11,Sx rb p.length cp),(12,I (p.length:Nat)),(13,I ((i:Nat):Int))] bc/\H'=[⟨rb,true,.row (bC (p++z)) 5 fz⟩]) p.length
  ⟨0,by omega,rfl,.of rfl,rfl⟩ ?_
 rintro N bc H' ⟨i,hi,CK,hs,rfl⟩ ih;refine gN hs ?_;clear hs;refine gz<|gD<|gA (ik rfl rfl)<|gC<|gz<|gS rfl (fun xY=>?_) (fun xY=>?_)
 ·refine gL<|gz<|gW<|gz ?_;have mS:i<p.length:=by omega
  obtain⟨x,hx⟩:=gx mS;have Z8:=oE x (ap hx);refine gD<|gB<|gA (ij (i:=i) aL bV rfl rfl mS)<|gA (gG (b:=rb) (off:=0+i*1) (wf:=true) (l:=bC (p++z)) (T:=5) (fz:=fz) (v:=.int .u8 (x.toNat:Int)) bt rfl (.head _) (by rw[n8,aH,aT,zp,ak (by rw[xT];exact mS)];simp[bC,Lib.byteCells,hx])) ?_;refine gF<|gF<|gC<|gz<|gz<|gD<|gB<|gC<|iJ rfl<|gL<|gz<|gz<|gD<|gB<|gA (ie rfl rfl)<|gC<|gS rfl (fun xx=>absurd (Z4 xx) Z8) (fun xx=>?_);refine gL<|gz<|gz<|hY (fun bc H'=>∃t:Bool,(t=true->x≠58/\x≠42)/\(t=false->x=58\/x=42)/\Sub [(0,S p),(5,.bool false),(11,Sx rb p.length cp),(12,I (p.length:Nat)),(13,I ((i:Nat):Int)),(6,I ((i:Nat):Int)),(32,.bool t)] bc/\H'=[⟨rb,true,.row (bC (p++z)) 5 fz⟩]) (fun D4=>?_) ?_
  ·refine gD<|gB<|gA (iF rfl rfl)<|gB<|gZ 29 rfl (fun xZ=>?_) (fun xZ=>?_)
   ·refine gU<|gI (iF rfl rfl)<|gT<|gC ?_;have h1:x≠58:=fun e=>by rw[e] at xZ;exact absurd xZ (by decide)
    refine D4 _ _ ⟨_,fun h=>⟨h1,fun e=>by rw[e] at h;exact absurd h (by decide)⟩,fun h=>.inr (NM (by simpa using h)),.of rfl,rfl⟩
   refine gE ?_;refine gE ?_;refine hG ?_;refine gC ?_;exact D4 _ _ ⟨false,fun h=>(by cases h),fun _=>.inl (NL (by simpa using xZ)),.of rfl,rfl⟩
  rintro bc H' ⟨t,qQ,sq,Tw,rfl⟩;refine gN Tw ?_;clear Tw;refine gV rfl (fun tC=>?_) (fun tC=>?_)
  ·exact ir rfl<|gD<|gA (iy i (by omega))<|gB<|gC<|ih (N-1) _ _ (by omega) ⟨i+1,by omega,by rw[CK,Z5 hx (qQ tC).1 (qQ tC).2],.of rfl,rfl⟩
  refine gL<|gz ?_;have hw:=sq tC;obtain⟨q,hq⟩:∃q,q=p.drop (i+1):=⟨_,rfl⟩;have sG:q.length=p.length-(i+1):=by rw[hq,aA]
  have ol:fw p 0=some (x::q.takeWhile (· ≠47),i):=by rw[CK,Z6 hx hw,hq]
  refine gD<|gF ?_;refine gC<|gz ?_;refine gz<|gD ?_;refine gB<|gB ?_;refine gA (iy i (by omega))<|gA (iX (i:=i+1) aa rfl rfl (by omega)) ?_;rw[<-hq];refine jS aa aL bT rfl rfl (fun rq cq zq fq hrq hcq=>?_);refine gA (iu aL rfl)<|gB ?_;refine gC<|gW ?_
  refine iC (fun N bc H'=>∃k,k+N=q.length/\(∀j,j<k->∀c,q[j]? =some c->c≠47)/\Sub [(0,S p),(4,.bool true),(6,I ((i:Nat):Int)),(37,Sx rq q.length cq),(38,I (q.length:Nat)),(39,I ((k:Nat):Int))] bc/\H'=[⟨rq,true,.row (bC (q++zq)) 5 fq⟩,⟨rb,true,.row (bC (p++z)) 5 fz⟩]) q.length
   ⟨0,by omega,fun j h=>by omega,.of rfl,rfl⟩ ?_
  rintro N2 bc H' ⟨k,hk,pN,mJ,rfl⟩ qz;refine gN mJ ?_;clear mJ;refine gz<|gD<|gA (ik rfl rfl)<|gC<|gz<|gS rfl (fun H7=>?_) (fun H7=>?_)
  ·refine gL<|gz<|gW<|gz ?_;have KK:k<q.length:=by omega
   obtain⟨y,hy⟩:=gx KK;refine gD<|gB<|gA (ij (i:=k) aL bV rfl rfl KK)<|gA (gG (b:=rq) (off:=0+k*1) (wf:=true) (l:=bC (q++zq)) (T:=5) (fz:=fq) (v:=.int .u8 (y.toNat:Int)) bt rfl (.head _) (by rw[n8,aH,aT,zp,ak (by rw[xT];exact KK)];simp[bC,Lib.byteCells,hy])) ?_;refine gF<|gF<|gC<|gz<|gD<|gB<|gC<|gW<|gz<|gD<|gA (ie rfl rfl)<|gF<|gC<|gS rfl (fun x7=>?_) (fun x7=>?_)
   ·refine gz ?_;refine gD ?_;refine gB ?_;refine gB ?_;refine gB ?_;refine gA (iy i (by omega)) ?_;refine gB ?_;refine gA (iB (r:=((i+1+k:Nat):Int)) rfl rfl (by omega) (by omega) (by omega)) ?_;have Z9:=Av x7;subst Z9;have H8:=NN pN (.inl hy)
    have xU:(p.take (i+1+k)).drop i=x::q.takeWhile (· ≠47):=by
     rw[H8,hq,fg,drop_cons hx,show i+1+k-i=k+1 by omega,List.take_succ_cons]
    refine gA (j7 (i:=i) (j:=i+1+k) aa rfl rfl rfl (by omega) (by omega) xU)<|gB<|gB<|gF<|gF<|gF<|gC<|j9 rfl rfl rfl rfl fun w' ia=>⟨by rw[ol];rfl,ia.sub (ar _)⟩
   refine gz<|gz ?_;have hyw:=x7;have aaa:y∈q.takeWhile (· ≠47)->y≠58/\y≠42:=fun hm=>uO _ _ ol y hm
   have Tx:y≠47:=fun e=>x7 (by rw[e];rfl)
   have aab:y∈q.takeWhile (· ≠47):=by
    have h1:q.takeWhile (· ≠47)=q.take (k+1)++(q.drop (k+1)).takeWhile (· ≠47):=Tv KK (fun j hj c hc=>by
     by_cases e:j=k
     ·subst e;rw[hy] at hc;cases hc;exact Tx
     exact pN j (by omega) c hc)
    rw[h1];exact ay _ (ap (i:=k) (by rw[bP (by omega)];exact hy))
   have Ty:=aaa aab;refine gD ?_;refine gA (ie rfl rfl) ?_;refine gF ?_;refine gC ?_;refine gV rfl (fun Aw=>absurd (NL (by simpa using Aw)) Ty.1) (fun Aw=>?_);refine gD ?_;refine gA (ie rfl rfl) ?_;refine gF ?_;refine gC ?_;refine gV rfl (fun Aw=>absurd (NM (by simpa using Aw)) Ty.2) (fun Aw=>?_);refine gL ?_;refine il ?_;refine il ?_;refine gD ?_;refine gA (iy k (by omega)) ?_;refine gB ?_;refine gC ?_;refine qz (N2-1) _ _ (by omega) ⟨k+1,by omega,fun j hj c hc=>?_,.of rfl,rfl⟩;by_cases e:j=k
   ·subst e;rw[hy] at hc;cases hc;exact Tx
   exact pN j (by omega) c hc
  refine ir rfl<|gz ?_;refine gD<|gB ?_;refine gB<|gA (iX (i:=i) aa rfl rfl (by omega)) ?_;refine gB<|gB ?_;refine gF<|gF ?_;refine gF<|gC ?_;have H8:=NN pN (.inr (by omega));have oB:q.take k=q:=bJ (by omega);refine j9 rfl rfl rfl rfl fun w' ia=>⟨?_,ia.sub (ar _)⟩
  rw[ol,H8,oB,drop_cons hx,<-hq];rfl
 refine ir rfl<|gz<|gD<|gF<|gF<|gF<|gC ?_;have vh:i=p.length:=by omega
 refine j9 rfl rfl rfl rfl fun w' ia=>⟨?_,ia.sub (ar _)⟩
 rw[CK,vh,cH];rfl
theorem Tz (wc full:List UInt8) (w:World):(Instr.build 115 #[(3,.int .u8 2),(0,S wc),(7,S full)]).run Tryd.prog w=.ok (.agg (mu wc [] false 2 0 (.slice none 0 0) (.slice none 0 0) full).toArray) w:=by
 simp[Instr.build,dD,dp,ah,aP,dS,cy,de,cu,qp,Instr.fill,tR,Bk,mu]
theorem aac (full:List UInt8) (w:World):(Instr.build 115 #[(4,.int .u32 1),(7,S full)]).run Tryd.prog w=.ok (.agg (mu [] [] false 0 1 (.slice none 0 0) (.slice none 0 0) full).toArray) w:=by
 simp[Instr.build,dD,dp,ah,aP,dS,cy,de,cu,qp,Instr.fill,tR,Bk,mu]
theorem aad (full:List UInt8) (w:World):(Instr.build 115 #[(2,.bool true),(3,.int .u8 3),(7,S full)]).run Tryd.prog w=.ok (.agg (mu [] [] true 3 0 (.slice none 0 0) (.slice none 0 0) full).toArray) w:=by
 simp[Instr.build,dD,dp,ah,aP,dS,cy,de,cu,qp,Instr.fill,tR,HZ,Bk,mu]
theorem aae (p full:List UInt8) (hb:Nat) (w:World):(Instr.build 115 #[(0,S p),(3,.int .u8 3),(6,Sx hb 1 1),(4,.int .u32 1),(7,S full)]).run Tryd.prog w=.ok (.agg (mu p [] false 3 1 (.slice none 0 0) (Sx hb 1 1) full).toArray) w:=by
 simp[Instr.build,dD,dp,ah,aP,dS,cy,de,cu,qp,Instr.fill,tR,Bk,DX,mu]
theorem TA (full:List UInt8) (w:World):(Instr.build 115 #[(7,S full)]).run Tryd.prog w=.ok (.agg (mu [] [] false 0 0 (.slice none 0 0) (.slice none 0 0) full).toArray) w:=by
 simp[Instr.build,dD,dp,ah,aP,dS,cy,de,cu,qp,Instr.fill,tR,mu]
def Ax:Code->List Item->Option (List Item)
 |.seq a b,k=>match Ax a (.code b::k) with
  |some r=>some r
  |none=>Ax b k
 |.block id (.loop x),k=>some (.code x::.inLoop x::.inBlock id::k)
 |.scope a,k=>Ax a (.inScope a::k)
 |_,_=>none
noncomputable def D5:List Item:=(Ax ((Tryd.f70.body).getD .skip) []).getD []
theorem KL {α:Type} (mm:Bool) (ks:List (Tr α)) (k:Tr α):(qe mm ks k).length =ks.length+1:=by
 unfold qe;split
 ·rename_i h;have:=aU.2 h.2;rw[List.getLast?_eq_some_getLast h.2];simp;omega
 simp
theorem aaf (mm:Bool) (ks:List Nat) (k:Nat):(uL mm ks k).length =ks.length+1:=by
 unfold uL;split
 ·rename_i h;have:=aU.2 h.2;rw[List.getLast?_eq_some_getLast h.2];simp;omega
 simp
theorem aag {R:Ending->World->Prop} {w:World} {D:Nat->Prop} {nb hb num:Nat} {p full tp idx:List UInt8} {nt pr:Nat} {h0:Option Nat} {f0:List UInt8} {kids:List T0} {bs:List Nat} {kv:Value} {Hs Hk:SH}
  (hs:Own 84 1 kv kids.length (bs.map (Pt · 0)) Hs) (TB:HV h0 hv Hh) (hk:oq kids bs Hk) (oE:∀c∈p,c≠92) (mM:p.length<=100000) (aah:kids.length<=90000) (mU:Sub [(0,Pt nb 0),(1,S p),(2,S full),(3,Sx hb 1 1)] fr) (hf:fw p 0=none)
  (fin:∀nC w',HT (.node () p idx wl nt pr (some num) full kids) nb nC->HF w D (nC++Hr) w'->R (.returned (.tuple #[])) w'):GC Tryd.prog ⟨70,Tryd.f70,R,w,D⟩ 221 D5 fr (Rx nb (mu tp idx wl nt pr kv hv f0) 115::((Hs++(Hh++Hk))++(Rx hb [I (num:Int)] 3::Hr))):=by
 refine gN mU ?_;clear mU;obtain⟨X,hX⟩:∃X,X=(Hh++Hk)++(Rx hb [I (num:Int)] 3::Hr):=⟨_,rfl⟩;refine hO (H':=Rx nb (mu tp idx wl nt pr kv hv f0) 115::(Hs++X)) (fun w1 h1=>by rw[hX,<-aw];exact h1) ?_;have rh:=hk.len
 have tF:∀w1,Calls Tryd.prog 81 #[S p] w1 fun e w'=>e=.returned (.tuple #[S [],I (-1),.bool false])/\HF w1 (fun _=>False) [] w':=by
  intro w1;have:=H6 w1 p oE (fun wc i h=>by rw[hf] at h;cases h) mM;rw[hf] at this;exact this
 refine gW<|gz<|gD<|gB<|iw Tryd.call81 rfl rfl (fun w1 fa=>tF w1)<|gB ?_;refine gA (iz rfl rfl)<|gA (iz rfl rfl)<|gA (iz rfl rfl)<|gF<|gF<|gF ?_;refine gC<|gz<|gz<|gD<|gB<|gA (ik rfl rfl) ?_;refine gC<|gS rfl (fun rR=>?_) (fun rR=>absurd rR (by decide));refine ir rfl<|gz<|gD<|gB<|gB<|gJ rfl ?_;refine gH pU rfl<|gO ah rfl rfl rfl (.z) rfl rfl<|gC<|gz<|gD<|gB ?_;refine gB<|gJ rfl<|gH sY rfl<|gO cu rfl rfl rfl (.z) rfl rfl<|gC<|gD ?_;refine gB<|gB<|gJ rfl<|gH Aq rfl<|gO ah rfl rfl rfl (.z) rfl rfl<|gC ?_;refine hO (H':=Rx nb (mu p idx wl nt pr kv (Sx hb 1 1) full) 115::(Hs++X)) (fun w1 h1=>h1)<|jq rfl fun w' ia=>fin _ w' (HT.mk hs (HV.row (k:=num) (hb:=hb)) hk) ?_
 rw[hX] at ia;have p1:=oN [[Rx nb (mu p idx wl nt pr kv (Sx hb 1 1) full) 115],Hs,Hh,Hk,[Rx hb [I (num:Int)] 3],Hr] [0,1,2,3,4,5] [2,0,1,4,3,5] (by decide);have h2:=ia.perm (H':=Hh++((Rx nb (mu p idx wl nt pr kv (Sx hb 1 1) full) 115::(Hs++([Rx hb [I (num:Int)] 3]++Hk)))++Hr)) (by simpa using p1);exact h2.sub (aG _ _)
def rS (tp p:List UInt8) (i:Nat):List UInt8:=if 0<i then p.take i else tp
theorem aai {R:Ending->World->Prop} {w:World} {D:Nat->Prop} {nb hb num:Nat} {p full tp idx:List UInt8} {nt pr:Nat} {h0:Option Nat} {f0:List UInt8} {kids:List T0} {bs:List Nat} {kv:Value} {Hs Hk:SH}
  (hs:Own 84 1 kv kids.length (bs.map (Pt · 0)) Hs) (hh:HV h0 hv Hh) (hk:oq kids bs Hk) (oE:∀c∈p,c≠92) (mM:p.length<=100000) (qh:kids.length<=90000) (mU:Sub [(0,Pt nb 0),(1,S p),(2,S full),(3,Sx hb 1 1)] fr) (wc:List UInt8) (i:Nat) (hf:fw p 0=some (58::wc,i)) (uO:∀c∈wc,c≠58/\c≠42) (qn:wc≠[]) (hi:i<=p.length) (rj:p.length=i+(wc.length+1))
  (fin:∀nC w',HT (.node () (rS tp p i) idx true nt pr h0 f0 (qe wl kids (.node () (58::wc) [] false 2 1 (some num) full []))) nb nC->HF w D (nC++Hr) w'->R (.returned (.tuple #[])) w'):GC Tryd.prog ⟨70,Tryd.f70,R,w,D⟩ 221 D5 fr (Rx nb (mu tp idx wl nt pr kv hv f0) 115::((Hs++(Hh++Hk))++(Rx hb [I (num:Int)] 3::Hr))):=by
 refine gN mU ?_;clear mU;obtain⟨X,hX⟩:∃X,X=(Hh++Hk)++(Rx hb [I (num:Int)] 3::Hr):=⟨_,rfl⟩;refine hO (H':=Rx nb (mu tp idx wl nt pr kv hv f0) 115::(Hs++X)) (fun w1 h1=>by rw[hX,<-aw];exact h1) ?_;have rh:=hk.len
 have tF:∀w1,Calls Tryd.prog 81 #[S p] w1 fun e w'=>e=.returned (.tuple #[S (58::wc),I (i:Int),.bool true])/\HF w1 (fun _=>False) [] w':=by
  intro w1;have:=H6 w1 p oE (fun NO i2 h=>by rw[hf] at h;cases h;exact uO) mM;rw[hf] at this;exact this
 have rl:=aU.2 qn;have nD:(58::wc).length =wc.length+1:=rfl;refine gW<|gz<|gD<|gB<|iw Tryd.call81 rfl rfl (fun w1 fa=>tF w1)<|gB ?_;refine gA (iz rfl rfl)<|gA (iz rfl rfl)<|gA (iz rfl rfl)<|gF<|gF<|gF ?_;refine gC<|gz<|gz<|gD<|gB<|gA (ik rfl rfl) ?_;refine gC<|gS rfl (fun rR=>absurd rR (by omega)) (fun rR=>?_);refine gL<|gz<|gz<|gD<|gB<|gA (iU rfl) ?_;refine gC<|gV rfl (fun qu=>absurd qu (by decide)) (fun qu=>?_);refine gL<|gz<|gz<|gD<|gB<|gA (ig aa rfl) ?_;refine gA (ik rfl rfl)<|gC<|gS rfl (fun qF=>absurd qF (by rw[nD];omega)) (fun qF=>?_);refine gL<|gz<|gz<|gD<|gB<|gA (iG (i:=0) (b:=58) aa rfl rfl rfl) ?_;refine gA (ie rfl rfl)<|gC<|gS rfl (fun sH=>?_) (fun sH=>absurd sH (by decide));refine gz<|gz<|gD<|gB<|gA (iS rfl rfl)<|gC<|hY (fun bc H'=>Sub [(0,Pt nb 0),(1,S (p.drop i)),(2,S full),(3,Sx hb 1 1),(8,S (58::wc)),(9,I (i:Int))] bc/\H'=(Rx nb (mu (rS tp p i) idx wl nt pr kv hv f0) 115)::(Hs++X)) (fun H9=>?_) ?_
 ·refine gS rfl (fun Bq=>?_) (fun Bq=>?_)
  ·refine gz<|gD<|gB<|gB<|gB<|gA (jm (j:=i) aa rfl rfl hi)<|gJ rfl<|gH pU rfl<|gO ah rfl rfl rfl (.z) rfl rfl<|gC<|gD<|gB<|gB<|gA (iX (i:=i) aa rfl rfl hi)<|gF<|gC ?_;have yS:0<i:=by omega
   refine H9 _ _ ⟨.of rfl,?_⟩;unfold rS;rw[if_pos yS];rfl
  refine gL ?_;have yS:i=0:=by omega
  subst yS;refine H9 _ _ ⟨.of rfl,?_⟩;unfold rS;rw[if_neg (by omega)]
 rintro bc H' ⟨Ia,rfl⟩;refine gN Ia ?_;clear Ia;refine gz<|gD<|gB<|gB<|gA (iN (vs:=[(3,.int .u8 2),(0,S (58::wc)),(7,S full)]) rfl (fun w1=>Tz _ _ w1))<|jc (l:=mu (58::wc) [] false 2 0 (.slice none 0 0) (.slice none 0 0) full) rfl (by simp[qp,mu]) rfl (fun pb zy=>?_);refine gF<|gC<|gz<|gD<|gB<|gB ?_;rw[<-rh] at hs;refine jo (H1:=Rx nb (mu (rS tp p i) idx wl nt pr kv hv f0) 115::Hs) (Hk:=Rx pb (mu (58::wc) [] false 2 0 (.slice none 0 0) (.slice none 0 0) full) 115::X) (fun v ni=>v=.tuple #[]/\∃se nX,Own 84 1 se (bs.length+1) ((uL wl bs pb).map (Pt · 0)) nX/\ni=(Rx nb (mu (rS tp p i) idx wl nt pr se hv f0) 115)::nX) (bG (l₁:=Rx nb (mu (rS tp p i) idx wl nt pr kv hv f0) 115::Hs)).symm (fun e0 mL=>?_) Tryd.call73 rfl rfl (fun w1 fa _=>?_) ?_
 ·rcases af.1 mL with rfl|mL
  ·rfl
  exact hs.w e0 mL
 ·refine(H5 w1 _ nb pb (rS tp p i) idx wl nt pr hv f0 kv bs Hs (by omega) hs fa).mono fun e w' ⟨h1,se,nX,h2,h3⟩=>⟨_,_,h1,fun e0 mL=>?_,h3,rfl,se,nX,h2,rfl⟩
  rcases af.1 mL with rfl|mL
  ·rfl
  exact h2.w e0 mL
 rintro v ni ⟨rfl,ov,nU,mJ,rfl⟩;refine jb (H':=Rx pb (mu (58::wc) [] false 2 0 (.slice none 0 0) (.slice none 0 0) full) 115::Rx nb (mu (rS tp p i) idx wl nt pr ov hv f0) 115::(nU++X)) (fun w1 h1=>h1.perm (bG (l₁:=Rx nb (mu (rS tp p i) idx wl nt pr ov hv f0) 115::nU)))<|gC<|gz<|gD<|gB<|gJ rfl ?_;refine gH uI rfl<|gO aP rfl rfl rfl (.s .z) rfl rfl<|gC<|gz<|gD<|gB ?_;refine gF<|gC<|gz<|gD<|gB<|gJ rfl ?_;refine gH tz rfl<|gA (gG da rfl (.head _) rfl)<|gA (jj rfl rfl) ?_;rw[Bn];refine gJ rfl<|gH tz rfl<|gO cy rfl rfl rfl (.z) rfl rfl<|gC<|gz<|gz ?_;refine gD<|gB<|gA (ig aa rfl)<|gB<|gA (ig aa rfl)<|gA (ik rfl rfl) ?_;refine gC<|gS rfl (fun Ib=>absurd Ib (by rw[aA];omega)) (fun Ib=>?_);refine gL<|gz<|gD<|gB<|gB<|gJ rfl ?_;refine gH sY rfl<|gO cu rfl rfl rfl (.z) rfl rfl<|gC<|hO (H':=Rx pb (mu (58::wc) [] false 2 1 (.slice none 0 0) (Sx hb 1 1) full) 115::Rx nb (mu (rS tp p i) idx true nt pr ov hv f0) 115::(nU++X)) (fun w1 h1=>h1)<|jD rfl fun w' ia=>?_
 obtain⟨uN,ow,qZ⟩:=hk.add (mm:=wl) (HT.mk (path:=58::wc) (idx:=[]) (mm:=false) (nt:=2) (pr:=1) (full:=full) (nb:=pb) Own.nil (HV.row (k:=num) (hb:=hb)) oq.nil);rw[rh] at mJ;rw[<-KL wl kids (.node () (58::wc) [] false 2 1 (some num) full [])] at mJ;refine fin _ w' (HT.mk mJ hh ow) (ia.perm ?_);rw[hX];have e1:uN.Perm (Rx pb (mu (58::wc) [] false 2 1 (.slice none 0 0) (Sx hb 1 1) full) 115::Rx hb [I (num:Int)] 3::Hk):=by simpa using qZ
 have p1:=oN [[Rx pb (mu (58::wc) [] false 2 1 (.slice none 0 0) (Sx hb 1 1) full) 115],[Rx nb (mu (rS tp p i) idx true nt pr ov hv f0) 115],nU,Hh,Hk,[Rx hb [I (num:Int)] 3],Hr] [0,1,2,3,4,5,6] [1,2,3,0,5,4,6] (by decide);refine List.Perm.trans (l₂:=Rx nb (mu (rS tp p i) idx true nt pr ov hv f0) 115::(nU++(Hh++((Rx pb (mu (58::wc) [] false 2 1 (.slice none 0 0) (Sx hb 1 1) full) 115::Rx hb [I (num:Int)] 3::Hk)++Hr)))) (by simpa using p1) ?_;have p2:=(((e1.symm.append_right Hr).append_left Hh).append_left nU).cons (Rx nb (mu (rS tp p i) idx true nt pr ov hv f0) 115);simpa using p2
theorem aaj {R:Ending->World->Prop} {w:World} {D:Nat->Prop} {nb hb num:Nat} {p full tp idx:List UInt8} {nt pr:Nat} {h0:Option Nat} {f0:List UInt8} {kids:List T0} {bs:List Nat} {kv:Value} {Hs Hk:SH}
  (hs:Own 84 1 kv kids.length (bs.map (Pt · 0)) Hs) (TB:HV h0 hv Hh) (hk:oq kids bs Hk) (oE:∀c∈p,c≠92) (mM:p.length<=100000) (qh:kids.length<=90000) (mU:Sub [(0,Pt nb 0),(1,S p),(2,S full),(3,Sx hb 1 1)] fr) (wc:List UInt8) (i:Nat) (hf:fw p 0=some (58::wc,i)) (uO:∀c∈wc,c≠58/\c≠42) (qn:wc≠[]) (hi:i<=p.length) (ajf:i+(wc.length+1)<p.length)
  (go:∀pb cb ov CL nU vP bc,Own 84 1 ov (bs.length+1) ((uL wl bs pb).map (Pt · 0)) nU->Own 84 1 CL 1 [Pt cb 0] vP->Sub [(0,Pt cb 0),(1,S (p.drop (i+(58::wc).length))),(2,S full),(3,Sx hb 1 1)] bc->
   GC Tryd.prog ⟨70,Tryd.f70,R,w,D⟩ 221 D5 bc (Rx cb (mu [] [] false 0 1 (.slice none 0 0) (.slice none 0 0) full) 115::(Rx hb [I (num:Int)] 3::(Rx nb (mu (rS tp p i) idx true nt pr ov hv f0) 115::(nU++((Hh++Hk)++(Rx pb (mu (58::wc) [] false 2 1 CL (.slice none 0 0) full) 115::(vP++Hr)))))))):GC Tryd.prog ⟨70,Tryd.f70,R,w,D⟩ 221 D5 fr (Rx nb (mu tp idx wl nt pr kv hv f0) 115::((Hs++(Hh++Hk))++(Rx hb [I (num:Int)] 3::Hr))):=by
 refine gN mU ?_;clear mU;obtain⟨X,hX⟩:∃X,X=(Hh++Hk)++(Rx hb [I (num:Int)] 3::Hr):=⟨_,rfl⟩;refine hO (H':=Rx nb (mu tp idx wl nt pr kv hv f0) 115::(Hs++X)) (fun w1 h1=>by rw[hX,<-aw];exact h1) ?_;have rh:=hk.len
 have tF:∀w1,Calls Tryd.prog 81 #[S p] w1 fun e w'=>e=.returned (.tuple #[S (58::wc),I (i:Int),.bool true])/\HF w1 (fun _=>False) [] w':=by
  intro w1;have:=H6 w1 p oE (fun NO i2 h=>by rw[hf] at h;cases h;exact uO) mM;rw[hf] at this;exact this
 have rl:=aU.2 qn;have nD:(58::wc).length =wc.length+1:=rfl;refine gW<|gz<|gD<|gB<|iw Tryd.call81 rfl rfl (fun w1 fa=>tF w1)<|gB ?_;refine gA (iz rfl rfl)<|gA (iz rfl rfl)<|gA (iz rfl rfl)<|gF<|gF<|gF ?_;refine gC<|gz<|gz<|gD<|gB<|gA (ik rfl rfl) ?_;refine gC<|gS rfl (fun rR=>absurd rR (by omega)) (fun rR=>?_);refine gL<|gz<|gz<|gD<|gB<|gA (iU rfl) ?_;refine gC<|gV rfl (fun qu=>absurd qu (by decide)) (fun qu=>?_);refine gL<|gz<|gz<|gD<|gB<|gA (ig aa rfl) ?_;refine gA (ik rfl rfl)<|gC<|gS rfl (fun qF=>absurd qF (by rw[nD];omega)) (fun qF=>?_);refine gL<|gz<|gz<|gD<|gB<|gA (iG (i:=0) (b:=58) aa rfl rfl rfl) ?_;refine gA (ie rfl rfl)<|gC<|gS rfl (fun sH=>?_) (fun sH=>absurd sH (by decide));refine gz<|gz<|gD<|gB<|gA (iS rfl rfl)<|gC<|hY (fun bc H'=>Sub [(0,Pt nb 0),(1,S (p.drop i)),(2,S full),(3,Sx hb 1 1),(8,S (58::wc)),(9,I (i:Int))] bc/\H'=(Rx nb (mu (rS tp p i) idx wl nt pr kv hv f0) 115)::(Hs++X)) (fun H9=>?_) ?_
 ·refine gS rfl (fun Bq=>?_) (fun Bq=>?_)
  ·refine gz<|gD<|gB<|gB<|gB<|gA (jm (j:=i) aa rfl rfl hi)<|gJ rfl<|gH pU rfl<|gO ah rfl rfl rfl (.z) rfl rfl<|gC<|gD<|gB<|gB<|gA (iX (i:=i) aa rfl rfl hi)<|gF<|gC ?_;have yS:0<i:=by omega
   refine H9 _ _ ⟨.of rfl,?_⟩;unfold rS;rw[if_pos yS];rfl
  refine gL ?_;have yS:i=0:=by omega
  subst yS;refine H9 _ _ ⟨.of rfl,?_⟩;unfold rS;rw[if_neg (by omega)]
 rintro bc H' ⟨Ia,rfl⟩;refine gN Ia ?_;clear Ia;refine gz<|gD<|gB<|gB<|gA (iN (vs:=[(3,.int .u8 2),(0,S (58::wc)),(7,S full)]) rfl (fun w1=>Tz _ _ w1))<|jc (l:=mu (58::wc) [] false 2 0 (.slice none 0 0) (.slice none 0 0) full) rfl (by simp[qp,mu]) rfl (fun pb zy=>?_);refine gF<|gC<|gz<|gD<|gB<|gB ?_;rw[<-rh] at hs;refine jo (H1:=Rx nb (mu (rS tp p i) idx wl nt pr kv hv f0) 115::Hs) (Hk:=Rx pb (mu (58::wc) [] false 2 0 (.slice none 0 0) (.slice none 0 0) full) 115::X) (fun v ni=>v=.tuple #[]/\∃se nX,Own 84 1 se (bs.length+1) ((uL wl bs pb).map (Pt · 0)) nX/\ni=(Rx nb (mu (rS tp p i) idx wl nt pr se hv f0) 115)::nX) (bG (l₁:=Rx nb (mu (rS tp p i) idx wl nt pr kv hv f0) 115::Hs)).symm (fun e0 mL=>?_) Tryd.call73 rfl rfl (fun w1 fa _=>?_) ?_
 ·rcases af.1 mL with rfl|mL
  ·rfl
  exact hs.w e0 mL
 ·refine(H5 w1 _ nb pb (rS tp p i) idx wl nt pr hv f0 kv bs Hs (by omega) hs fa).mono fun e w' ⟨h1,se,nX,h2,h3⟩=>⟨_,_,h1,fun e0 mL=>?_,h3,rfl,se,nX,h2,rfl⟩
  rcases af.1 mL with rfl|mL
  ·rfl
  exact h2.w e0 mL
 rintro v ni ⟨rfl,ov,nU,mJ,rfl⟩;refine jb (H':=Rx pb (mu (58::wc) [] false 2 0 (.slice none 0 0) (.slice none 0 0) full) 115::Rx nb (mu (rS tp p i) idx wl nt pr ov hv f0) 115::(nU++X)) (fun w1 h1=>h1.perm (bG (l₁:=Rx nb (mu (rS tp p i) idx wl nt pr ov hv f0) 115::nU)))<|gC ?_;refine gz<|gD ?_;refine gB<|gJ rfl ?_;refine gH uI rfl<|gO aP rfl rfl rfl (.s .z) rfl rfl ?_;refine gC<|gz ?_;refine gD<|gB ?_;refine gF<|gC ?_;refine gz<|gD ?_;refine gB<|gJ rfl ?_;refine gH tz rfl<|gA (gG da rfl (.head _) rfl) ?_;refine gA (jj rfl rfl) ?_;rw[Bn];refine gJ rfl<|gH tz rfl ?_;refine gO cy rfl rfl rfl (.z) rfl rfl<|gC ?_;refine gz<|gz ?_;refine gD<|gB ?_;refine gA (ig aa rfl)<|gB ?_;refine gA (ig aa rfl)<|gA (ik rfl rfl) ?_;refine gC<|gS rfl (fun Ib=>?_) (fun Ib=>absurd (by rw[aA,nD];omega) Ib);refine gz<|gD ?_;refine gB<|gB ?_;refine gA (ig aa rfl)<|gA (iX (i:=(58::wc).length) aa rfl rfl (by rw[aA,nD];omega)) ?_;rw[bZ];refine gF<|gC ?_;refine gz<|gD ?_;refine gB<|gA (iN (vs:=[(4,.int .u32 1),(7,S full)]) rfl (fun w1=>aac _ w1))<|jc (l:=mu [] [] false 0 1 (.slice none 0 0) (.slice none 0 0) full) rfl (by simp[qp,mu]) rfl (fun cb rF=>?_);refine gF<|gC ?_;refine gz<|gD ?_;refine gB<|gB<|jo (H1:=[Rx pb (mu (58::wc) [] false 2 1 (.slice none 0 0) (.slice none 0 0) full) 115]) (Hk:=Rx cb (mu [] [] false 0 1 (.slice none 0 0) (.slice none 0 0) full) 115::Rx nb (mu (rS tp p i) idx true nt pr ov hv f0) 115::(nU++X)) (fun v ni=>v=.tuple #[]/\∃se nX,Own 84 1 se 1 [Pt cb 0] nX/\ni=(Rx pb (mu (58::wc) [] false 2 1 se (.slice none 0 0) full) 115)::nX) (List.Perm.swap _ _ _) (fun e0 mL=>?_) Tryd.call73 rfl rfl (fun w1 fa _=>?_) ?_
 ·rw[aj.1 mL]
 ·refine(H5 w1 _ pb cb (58::wc) [] false 2 1 (.slice none 0 0) full (.slice none 0 0) [] [] (by simp) Own.nil fa).mono fun e w' ⟨h1,se,nX,h2,h3⟩=>⟨_,_,h1,fun e0 mL=>?_,h3,rfl,se,nX,h2,rfl⟩
  rcases af.1 mL with rfl|mL
  ·rfl
  exact h2.w e0 mL
 rintro v ni ⟨rfl,CL,vP,vi,rfl⟩;refine gC<|gz<|gD<|gB<|gF<|gC<|ir rfl<|jx<|hO (H':=Rx cb (mu [] [] false 0 1 (.slice none 0 0) (.slice none 0 0) full) 115::(Rx hb [I (num:Int)] 3::(Rx nb (mu (rS tp p i) idx true nt pr ov hv f0) 115::(nU++((Hh++Hk)++(Rx pb (mu (58::wc) [] false 2 1 CL (.slice none 0 0) full) 115::(vP++Hr))))))) (fun w1 h1=>?_) (go pb cb ov CL nU vP _ mJ vi (.of rfl));rw[hX] at h1;have p1:=oN [[Rx pb (mu (58::wc) [] false 2 1 CL (.slice none 0 0) full) 115],vP,[Rx cb (mu [] [] false 0 1 (.slice none 0 0) (.slice none 0 0) full) 115],[Rx nb (mu (rS tp p i) idx true nt pr ov hv f0) 115],nU,Hh,Hk,[Rx hb [I (num:Int)] 3],Hr] [0,1,2,3,4,5,6,7,8] [2,7,3,4,5,6,0,1,8] (by decide);exact h1.perm (by simpa using p1)
end Go.Proofs
