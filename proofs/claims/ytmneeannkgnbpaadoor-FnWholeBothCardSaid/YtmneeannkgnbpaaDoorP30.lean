/- Lemmas of the walk and plain facts (JgN5 .. JgO5). -/
import Derived.Test.YtmneeannkgnbpaaDoorL1
import Derived.Test.YtmneeannkgnbpaaDoorL2
import Derived.Test.YtmneeannkgnbpaaDoorP29
import Derived.Test.YtmneeannkgnbpaaDoorP01
import Derived.Laws.StandIn
import Derived.Lib.IndexLaws
import Derived.Test.YtmneeannkgnbpaaDoorP27
set_option maxRecDepth 20000
namespace Go.Proofs
open Go Bw Gt
variable {fr:SF}
theorem _root_.Bw.lq {P:Program} {c:Cx} {n:Nat} {H:SH} {x y:Operand} {t u ty:TypeId} {i j:Nat} (hx:ev fr x=some (I (i:Int))) (hy:ev fr y=some (I (j:Int))) (hj:0<j):nB P c n (.binOp .rem t x y u) ty fr H (I ((i%j:Nat):Int)):=by
 intro a w ha hw dst pos mG g;have h1:(Int.tmod (i:Int) (j:Int))=((i%j:Nat):Int):=by rw[Int.tmod_eq_emod_of_nonneg (by omega)];rfl
 simp[execOp,ha.eval hx,ha.eval hy,eqGuard,binOp,Op.intDiv,show¬(j=0) by omega,h1]
theorem _root_.Bw.mC {P:Program} {c:Cx} {n:Nat} {H:SH} {ty t u:TypeId} {x y:Operand} {b d:Bool} (hU:P.underlying t=some .bool) (hx:ev fr x=some (.bool b)) (hy:ev fr y=some (.bool d)):nB P c n (.binOp .neq t x y u) ty fr H (.bool (b !=d)):=by
 intro a w ha hw dst pos mG g;have h1:∀q,(Op.equalIn (q+1) t (.bool b) (.bool d)).run P w=.ok (b==d) w:=fun q=>by simp[Op.equalIn,underlying,hU]
 have h2:(Op.equal t (.bool b) (.bool d)).run P w=.ok (b==d) w:=h1 9999;simp[execOp,ha.eval hx,ha.eval hy,eqGuard,binOp,h2];cases b<;>cases d<;>rfl
def ag8 (i:Nat) (p:nz):Prop:=p.nm≠[]/\p.nm.length<=100/\¬BH p.nm/\(0<i->p.nm.head? =some 47)
theorem ag9 (w:World) (l:List nz) (sv:Value) (pe:uA w sv l) (h6:∀p∈l,p.nm.length<=2147483647) (AP:l.length<=2147483647):Calls Tryd.prog 38 #[sv] w fun e w'=>e=.returned (.bool (dec (Gt.Clean l)))/\HF w (fun _=>False) [] w':=by
 refine enter (fun _=>False) [] Tryd.func38 rfl Tryd.ntmps38 rfl rfl (HF.start w _) fun c hc=>?_
 subst hc;obtain⟨ad,cp,rfl,s8,hc⟩:=pe;refine gz<|gD<|gF<|gC<|gz<|gz<|hY (fun bc H'=>Sub [(0,.slice ad l.length cp),(30,.bool (dec (¬(l≠[]/\l.length<=12/\∀p,l[0]? =some p->p.k.toNat=0/\[47]<+:p.nm))))] bc/\H'=[]) (fun J1=>?_) ?_
 ·refine gD<|gB<|gA (iu bn rfl)<|gA (ie rfl rfl)<|gB<|gZ 11 rfl (fun yg=>?_) (fun yg=>?_)
  ·refine gE ?_;refine gE ?_;refine gE ?_;refine gT ?_;refine gB ?_;refine gE ?_;refine gE ?_;refine gE ?_;refine gE ?_;refine gE ?_;refine gT ?_;refine gB ?_;refine gE ?_;refine gE ?_;refine gE ?_;refine gE ?_;refine gE ?_;refine gE ?_;refine gT ?_;refine gC ?_;refine J1 _ _ ⟨.cons rfl (.cons (oM rfl ?_) .nil),rfl⟩;have aha:=of_decide_eq_true yg;exact pD fun h=>h.1 (bw.1 (by omega))
  refine gU<|gI (iu bn rfl)<|gI (iS rfl rfl)<|hG<|gB<|gZ 16 rfl (fun pA=>?_) (fun pA=>?_)
  ·refine gE ?_;refine gE ?_;refine gE ?_;refine gE ?_;refine gE ?_;refine gT ?_;refine gB ?_;refine gE ?_;refine gE ?_;refine gE ?_;refine gE ?_;refine gE ?_;refine gE ?_;refine gT ?_;refine gC ?_;refine J1 _ _ ⟨.cons rfl (.cons (oM rfl ?_) .nil),rfl⟩;have G9:=of_decide_eq_true pA;exact pD fun h=>by have:=h.2.1;omega
  refine gU ?_;have aha:=of_decide_eq_false yg;have G9:=of_decide_eq_false pA;have Ki:0<l.length:=by omega
  obtain⟨p0,oT⟩:=gx Ki;obtain⟨b0,o0,e0,oV,oc⟩:=hc 0 p0 oT;subst e0;refine gI (ij (i:=0) bn bH rfl rfl Ki)<|gI (gQ yM rfl)<|gI (hZ (v:=.int .u8 (p0.k.toNat:Int)) bt rfl oV id)<|gI (iF rfl rfl)<|hG<|gB<|gZ 23 rfl (fun uj=>?_) (fun uj=>?_)
  ·refine gE ?_;refine gE ?_;refine gE ?_;refine gE ?_;refine gE ?_;refine gE ?_;refine gT ?_;refine gC ?_;refine J1 _ _ ⟨.cons rfl (.cons (oM rfl ?_) .nil),rfl⟩;have Ri:¬p0.k.toNat=0:=by simpa using uj
   exact pD fun h=>Ri (h.2.2 p0 oT).1
  refine gU<|gI (ij (i:=0) bn bH rfl rfl Ki)<|gI (gQ tw rfl)<|gI (hZ (v:=S p0.nm) ag rfl oc id)<|jd rfl rfl<|iw (v:=.bool (decide ([47]<+:p0.nm))) Tryd.call18 rfl rfl (fun w1 fa=>K8 w1 p0.nm [47] (by have:=h6 p0 (ap oT);omega) (by simp))<|gI (iU rfl)<|hG<|gC<|J1 _ _ ⟨.cons rfl (.cons (oM rfl ?_) .nil),rfl⟩;have Ri:p0.k.toNat=0:=by simpa using uj
  exact tM (not_congr ⟨fun h=>⟨fun e=>by rw[e] at Ki;simp at Ki,by omega,fun p hp=>by rw[oT] at hp;cases hp;exact⟨Ri,h⟩⟩,fun h=>(h.2.2 p0 oT).2⟩)
 rintro bc H' ⟨ou,rfl⟩;refine gN ou ?_;clear ou;refine gV rfl (fun th=>?_) (fun th=>?_)
 ·refine gz<|gD<|gF<|gC<|ic rfl rfl fun w' ia=>⟨?_,ia.sub (ar _)⟩
  exact rB<|oL fun h=>p8.1 th ⟨h.1,h.2.1,h.2.2.1⟩
 refine gL<|gz<|gz ?_;have hh:=dE.1 (pP.1 th);obtain⟨mW,vj,Uv⟩:=hh;refine gD<|gB<|gA (iu bn rfl)<|gB<|gC<|gW ?_
 refine iC (fun N bc H'=>∃i,i+N=l.length/\(∀j p,j<i->l[j]? =some p->VE l j p)/\Sub [(0,.slice ad l.length cp),(31,.slice ad l.length cp),(32,I (l.length:Nat)),(33,I (i:Nat))] bc/\H'=[]) l.length
  ⟨0,by omega,fun j p hj=>by omega,.of rfl,rfl⟩ ?_
 rintro N bc H' ⟨i,hi,nk,mJ,rfl⟩ ih;refine gN mJ ?_;clear mJ;refine gz<|gD<|gA (ik rfl rfl)<|gC<|gz<|gS rfl (fun qF=>?_) (fun qF=>?_)
 ·refine gL<|gz<|gW<|gz ?_;have oO:i<l.length:=by omega
  obtain⟨p,hp⟩:=gx oO;obtain⟨b,o,e0,oV,oc⟩:=hc i p hp;have FL:=h6 p (ap hp);refine gD<|gB ?_;subst e0;refine gA (ij (i:=i) bn bH rfl rfl oO)<|gA (ju (cs:=oz p) ew bH rfl (AO oV oc) rfl id)<|iK ei rfl rfl (fun pb zy=>?_);refine gF<|iO (cs:=oz p) bH rfl rfl (by simp[oz,Value.oneCell']) .z rfl<|gC<|gz<|gz<|hY (fun bc H'=>Sub [(3,I (i:Nat)),(4,Pt pb 0),(0,.slice (some ⟨b,o,none⟩) l.length cp),(31,.slice (some ⟨b,o,none⟩) l.length cp),(32,I (l.length:Nat)),(33,I (i:Nat)),(61,.bool (dec (¬((p.k.toNat=0<->i%2=0)/\p.k.toNat<=2/\(p.k.toNat=2->i+1=l.length)))))] bc/\H'=[Rx pb (oz p) 34]) (fun J6=>?_) ?_
  ·refine gD<|gH yM rfl<|gA (gG bt rfl (.head _) rfl)<|gA (ie rfl rfl)<|gB<|gA (lq (i:=i) (j:=2) rfl rfl (by omega))<|gA (ie rfl rfl)<|gA (mC eo rfl rfl)<|gB<|gZ 45 rfl (fun x7=>?_) (fun x7=>?_)
   ·refine gE ?_;refine gE ?_;refine gE ?_;refine gT ?_;refine gB ?_;refine gE ?_;refine gE ?_;refine gE ?_;refine gE ?_;refine iv ?_;refine iv ?_;refine iv ?_;refine iv ?_;refine iv ?_;refine gE ?_;refine gT ?_;refine gC ?_;refine J6 _ _ ⟨.cons rfl (.cons rfl (.cons rfl (.cons rfl (.cons rfl (.cons rfl (.cons (oM rfl ?_) .nil)))))),rfl⟩
    have xN:¬(p.k.toNat=0<->i%2=0):=by
     have xN:=x7;rw[bne_iff_ne,ne_eq,df,decide_eq_true_iff,decide_eq_true_iff] at xN;omega
    exact pD fun h=>xN h.1
   refine gI (gQ yM rfl)<|gI (gG bt rfl (.head _) rfl)<|gI (iS rfl rfl)<|hG<|gB<|gZ 50 rfl (fun xC=>?_) (fun xC=>?_)
   ·refine gE ?_;refine gE ?_;refine gE ?_;refine gE ?_;refine iv ?_;refine iv ?_;refine iv ?_;refine iv ?_;refine iv ?_;refine gE ?_;refine gT ?_;refine gC ?_;refine J6 _ _ ⟨.cons rfl (.cons rfl (.cons rfl (.cons rfl (.cons rfl (.cons rfl (.cons (oM rfl ?_) .nil)))))),rfl⟩
    have xN:(p.k.toNat=0<->i%2=0):=by
     have xN:=x7;rw[bne_eq_false_iff_eq,df,decide_eq_true_iff,decide_eq_true_iff] at xN;omega
    have X4:=of_decide_eq_true xC;exact pD fun h=>by have:=h.2.1;omega
   refine gI (gQ yM rfl)<|gI (gG bt rfl (.head _) rfl)<|gI (ie rfl rfl)<|gU<|gZ 54 rfl (fun Rj=>?_) (fun Rj=>?_)
   ·refine gU<|gU ?_;refine gI (iu bn rfl)<|gI (iM (r:=((l.length-1:Nat):Int)) rfl rfl (by omega) (by omega) (by omega)) ?_;refine gI (iF rfl rfl)<|gI (iL rfl rfl) ?_;refine hG<|gC<|J6 _ _ ⟨.cons rfl (.cons rfl (.cons rfl (.cons rfl (.cons rfl (.cons rfl (.cons (oM rfl ?_) .nil)))))),rfl⟩
    have xN:(p.k.toNat=0<->i%2=0):=by
     have xN:=x7;rw[bne_eq_false_iff_eq,df,decide_eq_true_iff,decide_eq_true_iff] at xN;omega
    have X4:=of_decide_eq_false xC;have ahb:=of_decide_eq_true Rj;exact tM (not_congr ⟨fun h=>⟨xN,by omega,fun _=>by omega⟩,fun h=>by have:=h.2.2 (by omega);omega⟩)
   refine gE ?_;refine gE ?_;refine gE ?_;refine gE ?_;refine gE ?_;refine gI (iD rfl rfl) ?_;refine hG ?_;refine gC ?_;refine J6 _ _ ⟨.cons rfl (.cons rfl (.cons rfl (.cons rfl (.cons rfl (.cons rfl (.cons (oM rfl ?_) .nil)))))),rfl⟩
   have xN:(p.k.toNat=0<->i%2=0):=by
    have xN:=x7;rw[bne_eq_false_iff_eq,df,decide_eq_true_iff,decide_eq_true_iff] at xN;omega
   have X4:=of_decide_eq_false xC;have ahb:=of_decide_eq_false Rj;exact oL (dE.2 ⟨xN,by omega,fun h=>by omega⟩)
  rintro bc H' ⟨ou,rfl⟩;refine gN ou ?_;clear ou;refine gV rfl (fun w8=>?_) (fun w8=>?_)
  ·refine gz<|gD<|gF<|gC<|ic rfl rfl fun w' ia=>⟨?_,ia.sub (ar _)⟩
   refine rB<|oL fun nD=>?_
   have pt:=nD.2.2.2 i p hp;exact p8.1 w8 ⟨pt.1,pt.2.1,pt.2.2.1⟩
  refine gL<|gz<|gz ?_;have Li:=dE.1 (pP.1 w8);obtain⟨p6,ow,uo⟩:=Li;refine gD<|gH yM rfl<|gA (gG bt rfl (.head _) rfl)<|gA (ie rfl rfl)<|gC<|gS rfl (fun wy=>?_) (fun wy=>?_)
  ·refine gz<|gz ?_;have od:p.k.toNat=0:=by omega
   refine hY (fun bc H'=>Sub [(3,I (i:Nat)),(4,Pt pb 0),(0,.slice (some ⟨b,o,none⟩) l.length cp),(31,.slice (some ⟨b,o,none⟩) l.length cp),(32,I (l.length:Nat)),(33,I (i:Nat)),(88,.bool (dec (¬ag8 i p)))] bc/\H'=[Rx pb (oz p) 34]) (fun J9=>?_) ?_
   ·refine gD<|gH tw rfl<|gA (gG ag rfl (.head _) rfl)<|gA (iE rfl rfl)<|gB<|gZ 68 rfl (fun yw=>?_) (fun yw=>?_)
    ·refine gE ?_;refine gE ?_;refine gE ?_;refine gE ?_;refine gT ?_;refine gB ?_;refine gE ?_;refine gE ?_;refine gE ?_;refine gT ?_;refine gB ?_;refine gE ?_;refine gE ?_;refine gE ?_;refine iv ?_;refine iv ?_;refine iv ?_;refine iv ?_;refine gE ?_;refine gT ?_;refine gC ?_;refine J9 _ _ ⟨.cons rfl (.cons rfl (.cons rfl (.cons rfl (.cons rfl (.cons rfl (.cons (oM rfl ?_) .nil)))))),rfl⟩;have Cn:=of_decide_eq_true yw;exact pD fun h=>h.1 Cn
    refine gI (gQ tw rfl)<|gI (gG ag rfl (.head _) rfl)<|gI (ig aa rfl)<|gI (iS rfl rfl)<|hG<|gB<|gZ 74 rfl (fun xD=>?_) (fun xD=>?_)
    ·refine gE ?_;refine gE ?_;refine gE ?_;refine gT ?_;refine gB ?_;refine gE ?_;refine gE ?_;refine gE ?_;refine iv ?_;refine iv ?_;refine iv ?_;refine iv ?_;refine gE ?_;refine gT ?_;refine gC ?_;refine J9 _ _ ⟨.cons rfl (.cons rfl (.cons rfl (.cons rfl (.cons rfl (.cons rfl (.cons (oM rfl ?_) .nil)))))),rfl⟩;have MR:=of_decide_eq_true xD;exact pD fun h=>by have:=h.2.1;omega
    refine gI (gQ tw rfl)<|gI (gG ag rfl (.head _) rfl)<|jd rfl rfl<|iw (v:=.bool (dec (BH p.nm))) Tryd.call19 rfl rfl (fun w1 fa=>VG w1 p.nm (by omega))<|hG<|gB<|gZ 79 rfl (fun wY=>?_) (fun wY=>?_)
    ·refine gE ?_;refine gE ?_;refine gE ?_;refine iv ?_;refine iv ?_;refine iv ?_;refine iv ?_;refine gE ?_;refine gT ?_;refine gC ?_;refine J9 _ _ ⟨.cons rfl (.cons rfl (.cons rfl (.cons rfl (.cons rfl (.cons rfl (.cons (oM rfl ?_) .nil)))))),rfl⟩;have Co:=p8.1 wY;exact pD fun h=>h.2.2.1 Co
    refine gU<|gI (iS rfl rfl)<|gU<|gZ 82 rfl (fun Rk=>?_) (fun Rk=>?_)
    ·refine gI (gQ tw rfl)<|gI (gG ag rfl (.head _) rfl) ?_
     obtain⟨c0,nr,yv⟩:∃c0 nr,p.nm=c0::nr:=by
      have Cn:=of_decide_eq_false yw
      cases hd:p.nm with
      |nil=>exact absurd hd Cn
      |cons c0 nr=>exact⟨c0,nr,rfl⟩
     refine gI (iG (i:=0) (b:=c0) aa rfl rfl (by rw[yv];rfl))<|gI (iF rfl rfl)<|gI (iL rfl rfl)<|hG<|gC<|J9 _ _ ⟨.cons rfl (.cons rfl (.cons rfl (.cons rfl (.cons rfl (.cons rfl (.cons (oM rfl ?_) .nil)))))),rfl⟩;have Cn:=of_decide_eq_false yw;have MR:=of_decide_eq_false xD;have Co:=pP.1 wY;have ahc:=of_decide_eq_true Rk;refine tM (not_congr ⟨fun h=>⟨Cn,by omega,Co,fun _=>?_⟩,fun h=>?_⟩)
     ·rw[yv,zx (x:=c0) (k:=47) (by omega) (by omega)];rfl
     have:=h.2.2.2 (by omega);rw[yv] at this;cases this;rfl
    refine gE ?_;refine gE ?_;refine gE ?_;refine gE ?_;refine gI (iD rfl rfl) ?_;refine hG ?_;refine gC ?_;refine J9 _ _ ⟨.cons rfl (.cons rfl (.cons rfl (.cons rfl (.cons rfl (.cons rfl (.cons (oM rfl ?_) .nil)))))),rfl⟩;have Cn:=of_decide_eq_false yw;have MR:=of_decide_eq_false xD;have Co:=pP.1 wY;have ahc:=of_decide_eq_false Rk;exact oL (dE.2 ⟨Cn,by omega,Co,fun h=>by omega⟩)
   rintro bc H' ⟨ou,rfl⟩;refine gN ou ?_;clear ou;refine gV rfl (fun tF=>?_) (fun tF=>?_)
   ·refine gz<|gD<|gF<|gC<|ic rfl rfl fun w' ia=>⟨?_,ia.sub (ar _)⟩
    refine rB<|oL fun nD=>?_
    have pt:=nD.2.2.2 i p hp;have h1:=pt.2.2.2.1 od;exact p8.1 tF ⟨h1.1,h1.2.1,h1.2.2.1,h1.2.2.2.1⟩
   refine gL<|gz<|gz ?_;have u6:=dE.1 (pP.1 tF);refine gD<|gH tw rfl<|gA (gG ag rfl (.head _) rfl)<|gA (ig aa rfl)<|gB<|gC<|gW ?_
   refine iC (fun N2 bc H'=>∃m,m+N2=p.nm.length/\(∀j c,j<m->p.nm[j]? =some c->BG c)/\Sub [(3,I (i:Nat)),(4,Pt pb 0),(0,.slice (some ⟨b,o,none⟩) l.length cp),(31,.slice (some ⟨b,o,none⟩) l.length cp),(32,I (l.length:Nat)),(33,I (i:Nat)),(91,I (p.nm.length:Nat)),(92,I (m:Nat))] bc/\H'=[Rx pb (oz p) 34]) p.nm.length
    ⟨0,by omega,fun j p hj=>by omega,.of rfl,rfl⟩ ?_
   rintro N2 bc H' ⟨m,hm,mM,mJ,rfl⟩ qz;refine gN mJ ?_;clear mJ;refine gz<|gD<|gA (ik rfl rfl)<|gC<|gz<|gS rfl (fun h93=>?_) (fun h93=>?_)
   ·refine gL<|gz<|gW<|gz ?_;have py:m<p.nm.length:=by omega
    obtain⟨c,r8⟩:=gx py;refine gD<|gB<|gF<|gC<|gz<|gD<|gH tw rfl<|gA (gG ag rfl (.head _) rfl)<|gB<|gA (iG (i:=m) (b:=c) aa rfl rfl r8)<|iw (v:=.bool (dec (BG c))) Tryd.call53 rfl rfl (fun w1 fa=>ac6 w1 c)<|gA (iU rfl)<|gC<|gV rfl (fun Rm=>?_) (fun Rm=>?_)
    ·refine gz<|gD<|gF<|gC<|ic rfl rfl fun w' ia=>⟨?_,ia.sub (ar _)⟩
     refine rB<|oL fun nD=>?_
     have pt:=nD.2.2.2 i p hp;have h1:=pt.2.2.2.1 od;exact pP.1 (by simpa using Rm) (h1.2.2.2.2 c (ap r8))
    refine gL<|il<|gD<|gA (iy m (by omega))<|gB<|gC<|qz (N2-1) _ _ (by omega) ⟨m+1,by omega,fun j y hj hy=>?_,.of rfl,rfl⟩;by_cases uV:j=m
    ·subst uV;rw[r8] at hy;cases hy;exact p8.1 (by simpa using Rm)
    exact mM j y (by omega) hy
   refine ir rfl<|ir rfl<|gD<|gA (iy i (by omega))<|gB<|gC<|hO (H':=[]) (fun w1 h1=>h1.sub (ar _))<|ih (N-1) _ _ (by omega) ⟨i+1,by omega,fun j y hj hy=>?_,.of rfl,rfl⟩;by_cases uV:j=i
   ·subst uV;rw[hp] at hy;cases hy
    have pN:∀c∈p.nm,BG c:=fun c hc=>by
     obtain⟨j2,sn⟩:=bY hc;exact mM j2 c (by have:=(ae.1 sn).1;omega) sn
    exact⟨p6,ow,uo,fun _=>⟨u6.1,u6.2.1,u6.2.2.1,u6.2.2.2,pN⟩,fun h=>absurd od h⟩
   exact nk j y (by omega) hy
  refine gL<|gz<|gz ?_;have od:p.k.toNat≠0:=by omega
  have BK:1<=i:=by
   rcases fO i with h0|h0
   ·exact absurd (p6.2 (by omega)) od
   exact h0
  obtain⟨q,hq⟩:∃q,l[i-1]? =some q:=gx (by omega);obtain⟨b',o',e0,Gz,uD⟩:=hc (i-1) q hq;cases e0;refine hY (fun bc H'=>Sub [(3,I (i:Nat)),(4,Pt pb 0),(0,.slice (some ⟨b,o,none⟩) l.length cp),(31,.slice (some ⟨b,o,none⟩) l.length cp),(32,I (l.length:Nat)),(33,I (i:Nat)),(115,.bool (dec (¬(Ez p.nm/\[47]<:+q.nm))))] bc/\H'=[Rx pb (oz p) 34]) (fun X5=>?_) ?_
  ·refine gD<|gH tw rfl<|gA (gG ag rfl (.head _) rfl)<|iw (v:=.bool (dec (Ez p.nm))) Tryd.call54 rfl rfl (fun w1 fa=>agL w1 p.nm (by omega))<|gA (iU rfl)<|gB<|gZ 106 rfl (fun Ro=>?_) (fun Ro=>?_)
   ·refine gE ?_;refine gE ?_;refine gE ?_;refine gE ?_;refine gE ?_;refine gE ?_;refine gE ?_;refine gE ?_;refine gT ?_;refine gC ?_;refine X5 _ _ ⟨.cons rfl (.cons rfl (.cons rfl (.cons rfl (.cons rfl (.cons rfl (.cons (oM rfl ?_) .nil)))))),rfl⟩;have Rp:¬Ez p.nm:=pP.1 (by simpa using Ro);exact pD fun h=>Rp h.1
   refine gU<|gU ?_;refine gI (iM (r:=((i-1:Nat):Int)) rfl rfl (by omega) (by omega) (by omega))<|gI (ij (i:=i-1) bn bH rfl rfl (by omega)) ?_;refine gI (gQ tw rfl)<|gI (hZ (v:=S q.nm) ag rfl uD id) ?_;refine jd rfl rfl<|iw (v:=.bool (decide ([47]<:+q.nm))) Tryd.call55 rfl rfl (fun w1 fa=>K9 w1 q.nm [47] (by have:=h6 q (ap hq);omega) (by simp)) ?_;refine gI (iU rfl)<|hG ?_;refine gC<|X5 _ _ ⟨.cons rfl (.cons rfl (.cons rfl (.cons rfl (.cons rfl (.cons rfl (.cons (oM rfl ?_) .nil)))))),rfl⟩;have Rp:Ez p.nm:=p8.1 (by simpa using Ro);exact tM (not_congr ⟨fun h=>⟨Rp,h⟩,fun h=>h.2⟩)
  rintro bc H' ⟨ou,rfl⟩;refine gN ou ?_;clear ou;refine gV rfl (fun Rq=>?_) (fun Rq=>?_)
  ·refine gz<|gD<|gF<|gC<|ic rfl rfl fun w' ia=>⟨?_,ia.sub (ar _)⟩
   refine rB<|oL fun nD=>?_
   have pt:=nD.2.2.2 i p hp;have h1:=pt.2.2.2.2 od;exact p8.1 Rq ⟨h1.1,h1.2.1 q hq⟩
  refine gL<|gz ?_;have X6:=dE.1 (pP.1 Rq);refine gD<|gB ?_;refine gB<|gA (jF (i:=i) bn bH rfl rfl (by omega)) ?_;refine gA (iu bn rfl)<|gB ?_;refine gC<|gW ?_
  refine iC (fun N2 bc H'=>∃m,m+N2=i/\(∀j q,j<m->l[j]? =some q->q.k.toNat≠0->q.nm≠p.nm)/\Sub [(3,I (i:Nat)),(4,Pt pb 0),(0,.slice (some ⟨b,o,none⟩) l.length cp),(31,.slice (some ⟨b,o,none⟩) l.length cp),(32,I (l.length:Nat)),(33,I (i:Nat)),(118,.slice (some ⟨b,o,none⟩) i cp),(119,I (i:Nat)),(120,I (m:Nat))] bc/\H'=[Rx pb (oz p) 34]) i
   ⟨0,by omega,fun j p hj=>by omega,.of rfl,rfl⟩ ?_
  rintro N2 bc H' ⟨m,hm,mM,mJ,rfl⟩ qz;refine gN mJ ?_;clear mJ;refine gz<|gD<|gA (ik rfl rfl)<|gC<|gz<|gS rfl (fun D6=>?_) (fun D6=>?_)
  ·refine gL<|gz<|gW<|gz ?_;have py:m<i:=by omega
   obtain⟨r,hr⟩:∃r,l[m]? =some r:=gx (by omega);obtain⟨b2,o2,e0,JB,rT⟩:=hc m r hr;cases e0;refine gD<|gA (ij (i:=m) bn bH rfl rfl py)<|gA (ju (cs:=oz r) ew bH rfl (AO JB rT) rfl id)<|iK ei rfl rfl (fun rb vO=>?_);refine iO (cs:=oz r) bH rfl rfl (by simp[oz,Value.oneCell']) .z rfl<|gC<|gz<|hY (fun bc H'=>Sub [(3,I (i:Nat)),(4,Pt pb 0),(0,.slice (some ⟨b,o,none⟩) l.length cp),(31,.slice (some ⟨b,o,none⟩) l.length cp),(32,I (l.length:Nat)),(33,I (i:Nat)),(118,.slice (some ⟨b,o,none⟩) i cp),(119,I (i:Nat)),(120,I (m:Nat)),(133,.bool (dec (r.k.toNat≠0/\r.nm=p.nm)))] bc/\H'=[Rx rb (oz r) 34,Rx pb (oz p) 34]) (fun X7=>?_) ?_
   ·refine gD<|gH yM rfl<|gA (gG bt rfl (.head _) rfl)<|gA (iF rfl rfl)<|gB<|gZ 127 rfl (fun zA=>?_) (fun zA=>?_)
    ·refine gI (gQ tw rfl)<|gI (gG ag rfl (.head _) rfl)<|gI (gQ tw rfl)<|gI (gG ag rfl (.tail _ (.head _)) rfl)<|gI (iE rfl rfl)<|gT<|gC<|X7 _ _ ⟨.cons rfl (.cons rfl (.cons rfl (.cons rfl (.cons rfl (.cons rfl (.cons rfl (.cons rfl (.cons rfl (.cons (oM rfl ?_) .nil))))))))),rfl⟩;have Rr:r.k.toNat≠0:=by simpa using zA
     exact rJ ⟨fun h=>⟨Rr,h⟩,fun h=>h.2⟩
    refine gE ?_;refine gE ?_;refine gE ?_;refine gE ?_;refine gE ?_;refine hG ?_;refine gC ?_;refine X7 _ _ ⟨.cons rfl (.cons rfl (.cons rfl (.cons rfl (.cons rfl (.cons rfl (.cons rfl (.cons rfl (.cons rfl (.cons (oM rfl ?_) .nil))))))))),rfl⟩;have Rr:r.k.toNat=0:=by simpa using zA
    exact oL fun h=>h.1 Rr
   rintro bc H' ⟨ou,rfl⟩;refine gN ou ?_;clear ou;refine gV rfl (fun Ru=>?_) (fun Ru=>?_)
   ·refine gz<|gD<|gF<|gC<|ic rfl rfl fun w' ia=>⟨?_,ia.sub (ar _)⟩
    refine rB<|oL fun nD=>?_
    have pt:=nD.2.2.2 i p hp;have h1:=pt.2.2.2.2 od;have h2:=p8.1 Ru;exact h1.2.2 r (ap (i:=m) (by rw[bP py];exact hr)) h2.1 h2.2
   refine gL<|il<|gD<|gA (iy m (by omega))<|gB<|gC<|hO (H':=[Rx pb (oz p) 34]) (fun w1 h1=>h1.sub (ai _ _))<|qz (N2-1) _ _ (by omega) ⟨m+1,by omega,fun j y hj hy=>?_,.of rfl,rfl⟩;by_cases uV:j=m
   ·subst uV;rw[hr] at hy;cases hy;exact fun h1 h2=>pP.1 Ru ⟨h1,h2⟩
   exact mM j y (by omega) hy
  refine ir rfl<|il<|gD<|gA (iy i (by omega))<|gB<|gC<|hO (H':=[]) (fun w1 h1=>h1.sub (ar _))<|ih (N-1) _ _ (by omega) ⟨i+1,by omega,fun j y hj hy=>?_,.of rfl,rfl⟩;by_cases uV:j=i
  ·subst uV;rw[hp] at hy;cases hy;refine⟨p6,ow,uo,fun h=>absurd h od,fun _=>⟨X6.1,fun q2 tS=>by rw[hq] at tS;cases tS;exact X6.2,fun q2 tS=>?_⟩⟩;obtain⟨j2,sn⟩:=bY tS;rw[fS] at sn;split at sn
   ·exact mM j2 q2 (by omega) sn
   cases sn
  exact nk j y (by omega) hy
 refine ir rfl<|gz<|gD<|gF<|gC<|ic rfl rfl fun w' ia=>⟨?_,ia.sub (ar _)⟩
 refine rB<|pD ⟨mW,vj,Uv,fun j p hp=>nk j p ?_ hp⟩;have:=(ae.1 hp).1;omega
theorem wo {l:List nz} (h:Gt.Clean l):(mY l).length <=1000000/\l.length<=1000000:=by
 have vj:=h.2.1
 have key:∀(j:Nat),j<=l.length->(mY (l.take j)).length <=j*100:=by
  intro j
  induction j with
  |zero=>intro _;simp[mY]
  |succ j ih=>
   intro hj;obtain⟨p,hp⟩:∃p,l[j]? =some p:=gx (by omega);rw[XV hp,ax];have h1:=ih (by omega);have pt:=h.2.2.2 j p hp
   have h2:(BI p).length <=100:=by
    unfold BI;split
    ·rename_i hk;rw[aQ];exact(pt.2.2.2.1 hk).2.1
    simp
   omega
 have:=key l.length (bI _);rw[b8] at this;omega
theorem ahe (w:World) (l:List (List nz)) (sv:Value) (pe:zT w sv l) (h4:Gi l):Calls Tryd.prog 17 #[sv] w fun e w'=>e=.returned (.bool (dec (zS l)))/\HF w (fun _=>False) [] w':=by
 refine enter (fun _=>False) [] Tryd.func17 rfl Tryd.ntmps17 rfl rfl (HF.start w _) fun c hc=>?_
 subst hc;obtain⟨ad,cp,rfl,s8,hc⟩:=pe;have AP:=h4.1;refine gz<|gD<|gF<|gC<|gz<|gz<|gD<|gB<|gA (iu bz rfl)<|gB<|gC<|gW ?_
 refine iC (fun N bc H'=>∃i,i+N=l.length/\(∀j a,j<i->l[j]? =some a->Gt.Clean a/\∀b∈l.take j,v7 (mY a) (mY b))/\Sub [(0,.slice ad l.length cp),(7,.slice ad l.length cp),(8,I (l.length:Nat)),(9,I (i:Nat))] bc/\H'=[]) l.length
  ⟨0,by omega,fun j p hj=>by omega,.of rfl,rfl⟩ ?_
 rintro N bc H' ⟨i,hi,nk,mJ,rfl⟩ ih;refine gN mJ ?_;clear mJ;refine gz<|gD<|gA (ik rfl rfl)<|gC<|gz<|gS rfl (fun oF=>?_) (fun oF=>?_)
 ·refine gL<|gz<|gW<|gz ?_;have oO:i<l.length:=by omega
  obtain⟨a,ha⟩:=gx oO;obtain⟨b,o,av,e0,oV,oc⟩:=hc i a ha;have X8:=h4.2 a (ap ha);refine gD<|gB ?_;subst e0;refine gA (ij (i:=i) bz dz rfl rfl oO)<|gA (hZ (v:=av) ec rfl (by rw[aT];exact oV) id)<|gF<|gF<|gC<|gz<|gz<|gD<|gB<|iw (v:=.bool (dec (Gt.Clean a))) Tryd.call38 rfl rfl (fun w1 fa=>ag9 w1 a av (oc.old fa) X8.2 X8.1)<|gA (iU rfl)<|gC<|gV rfl (fun pA=>?_) (fun pA=>?_)
  ·refine gz<|gD<|gF<|gC<|ic rfl rfl fun w' ia=>⟨?_,ia⟩
   exact rB<|oL fun h=>pP.1 (by simpa using pA) (h i a ha).1
  refine gL<|gz ?_;have qS:Gt.Clean a:=p8.1 (by simpa using pA);refine gD<|gB ?_;refine gB<|gA (jF (i:=i) bz dz rfl rfl (by omega)) ?_;refine gA (iu bz rfl)<|gB ?_;refine gC<|gW ?_
  refine iC (fun N2 bc H'=>∃m,m+N2=i/\(∀j b,j<m->l[j]? =some b->v7 (mY a) (mY b))/\Sub [(0,.slice (some ⟨b,o,none⟩) l.length cp),(4,av),(7,.slice (some ⟨b,o,none⟩) l.length cp),(8,I (l.length:Nat)),(9,I (i:Nat)),(19,.slice (some ⟨b,o,none⟩) i cp),(20,I (i:Nat)),(21,I (m:Nat))] bc/\H'=[]) i
   ⟨0,by omega,fun j p hj=>by omega,.of rfl,rfl⟩ ?_
  rintro N2 bc H' ⟨m,hm,mM,mJ,rfl⟩ qz;refine gN mJ ?_;clear mJ;refine gz<|gD<|gA (ik rfl rfl)<|gC<|gz<|gS rfl (fun rR=>?_) (fun rR=>?_)
  ·refine gL<|gz<|gW<|gz ?_;have py:m<i:=by omega
   obtain⟨d,hd⟩:∃r,l[m]? =some r:=gx (by omega);obtain⟨b2,o2,dv,e0,Gz,uD⟩:=hc m d hd;cases e0;have rI:=(nk m d py hd).1;refine gD<|gA (ij (i:=m) bz dz rfl rfl py)<|gA (hZ (v:=dv) ec rfl (by rw[aT];exact Gz) id)<|gF<|gC<|gz<|gD<|gB<|gB<|iw (v:=.bool (dec (v7 (mY a) (mY d)))) Tryd.call39 rfl rfl (fun w1 fa=>agW w1 a d av dv (oc.old fa) (uD.old fa) (wo qS) (wo rI))<|gA (iU rfl)<|gC<|gV rfl (fun tX=>?_) (fun tX=>?_)
   ·refine gz<|gD<|gF<|gC<|ic rfl rfl fun w' ia=>⟨?_,ia⟩
    exact rB<|oL fun h=>pP.1 (by simpa using tX) ((h i a ha).2 d (ap (i:=m) (by rw[bP py];exact hd)))
   refine gL<|il<|gD<|gA (iy m (by omega))<|gB<|gC<|qz (N2-1) _ _ (by omega) ⟨m+1,by omega,fun j y hj hy=>?_,.of rfl,rfl⟩;by_cases uV:j=m
   ·subst uV;rw[hd] at hy;cases hy;exact p8.1 (by simpa using tX)
   exact mM j y (by omega) hy
  refine ir rfl<|il<|gD<|gA (iy i (by omega))<|gB<|gC<|ih (N-1) _ _ (by omega) ⟨i+1,by omega,fun j y hj hy=>?_,.of rfl,rfl⟩;by_cases uV:j=i
  ·subst uV;rw[ha] at hy;cases hy;refine⟨qS,fun d hd=>?_⟩;obtain⟨j2,sn⟩:=bY hd;rw[fS] at sn;split at sn
   ·exact mM j2 d (by omega) sn
   cases sn
  exact nk j y (by omega) hy
 refine ir rfl<|gz<|gD<|gF<|gC<|ic rfl rfl fun w' ia=>⟨?_,ia⟩
 refine rB<|pD fun j a ha=>nk j a ?_ ha
 have:=(ae.1 ha).1;omega
theorem ahf (w:World) (l:List (List nz)) (sv:Value) (pe:zT w sv l) (h4:Gi l) (p:List UInt8) (hp:p.length<=2147483647):Calls Tryd.prog 5 #[sv,S p] w fun e w'=>e=.returned (.bool (dec (BJ l p)))/\HF w (fun _=>False) [] w':=by
 refine enter (fun _=>False) [] Tryd.func5 rfl Tryd.ntmps5 rfl rfl (HF.start w _) fun c hc=>?_
 subst hc
 have xU:∃ad cp,sv=.slice ad l.length cp:=by
  obtain⟨ad,cp,h,_⟩:=pe;exact⟨ad,cp,h⟩
 obtain⟨ad,cp,rfl⟩:=xU;refine gz<|gD<|gF<|gC<|gz<|gD<|gB<|gA (iu bz rfl)<|gA (jG rfl rfl)<|gB<|gZ 8 rfl (fun h8=>?_) (fun h8=>?_)
 ·refine gU<|jd rfl rfl<|iw (v:=.bool (dec (zS l))) Tryd.call17 rfl rfl (fun w1 fa=>ahe w1 l _ (pe.old fa) h4)<|gT<|gB<|gZ 12 rfl (fun vj=>?_) (fun vj=>?_)
  ·refine gU<|jd rfl rfl<|iw (v:=.bool (decide ([47]<+:p))) Tryd.call18 rfl rfl (fun w1 fa=>K8 w1 p [47] (by omega) (by simp))<|gT<|gB<|gZ 16 rfl (fun pA=>?_) (fun pA=>?_)
   ·refine gU<|jd rfl rfl<|iw (v:=.bool (dec (BH p))) Tryd.call19 rfl rfl (fun w1 fa=>VG w1 p (by omega))<|gI (iU rfl)<|gT<|gB<|gZ 21 rfl (fun yA=>?_) (fun yA=>?_)
    ·refine gU<|gI (ig aa rfl)<|gI (jG rfl rfl)<|gT<|gF<|gC<|ic rfl rfl fun w' ia=>⟨?_,ia⟩
     refine rB ?_;have h8':=of_decide_eq_true h8;have ahh:=p8.1 vj;have G9:=of_decide_eq_true pA;have Rv:¬BH p:=pP.1 (by simpa using yA);exact rJ ⟨fun h=>⟨by omega,ahh,G9,Rv,by omega⟩,fun h=>by have:=h.2.2.2.2;omega⟩
    refine gE ?_;refine gE ?_;refine gE ?_;refine hG ?_;refine gF ?_;refine gC ?_;refine ic rfl rfl fun w' ia=>⟨?_,ia⟩
    refine rB ?_;have Rv:BH p:=p8.1 (by simpa using yA);exact oL fun h=>h.2.2.2.1 Rv
   refine gE ?_;refine gE ?_;refine gE ?_;refine hG ?_;refine gB ?_;refine gE ?_;refine gE ?_;refine gE ?_;refine hG ?_;refine gF ?_;refine gC ?_;refine ic rfl rfl fun w' ia=>⟨?_,ia⟩
   exact rB<|oL fun h=>of_decide_eq_false pA h.2.2.1
  refine gE ?_;refine gE ?_;refine hG ?_;refine gB ?_;refine gE ?_;refine gE ?_;refine gE ?_;refine hG ?_;refine gB ?_;refine gE ?_;refine gE ?_;refine gE ?_;refine hG ?_;refine gF ?_;refine gC ?_;refine ic rfl rfl fun w' ia=>⟨?_,ia⟩
  exact rB<|oL fun h=>pP.1 vj h.2.1
 refine gE ?_;refine gE ?_;refine hG ?_;refine gB ?_;refine gE ?_;refine gE ?_;refine hG ?_;refine gB ?_;refine gE ?_;refine gE ?_;refine gE ?_;refine hG ?_;refine gB ?_;refine gE ?_;refine gE ?_;refine gE ?_;refine hG ?_;refine gF ?_;refine gC ?_;refine ic rfl rfl fun w' ia=>⟨?_,ia⟩
 refine rB ?_;have h8':=of_decide_eq_false h8;exact oL fun h=>by have:=h.1;omega
theorem _root_.Bw.mD {P:Program} {c:Cx} {n:Nat} {H:SH} {ty:TypeId} {g:FuncId} {xs:List Operand} {vs:List Value} {pj:Array TypeId} {v:Value} (hg:∀w,(callFunc g vs.toArray).run P w=.ok (.value v) w) (he:rN fr xs=some vs):nB P c n (.call ⟨.value (.func g),xs.toArray,pj⟩) ty fr H v:=by
 intro a w ha hw dst pos mG gd;have h1:=ha.Kt he;have h2:a.eval (.func g)=.func (.func g) #[] #[]:=rfl;simp[execOp,resolve,h1,h2,Deferred.ofValue,invoke,hg]
theorem Rw (l:List UInt8) (c:UInt8):Lib.indexByte l c=if c∈l then((l.takeWhile (· ≠c)).length :Int) else-1:=by
 induction l with
 |nil=>rfl
 |cons b l ih=>
  unfold Lib.indexByte;by_cases hb:b=c
  ·subst hb;simp
  have hbc:(b==c)=false:=by simpa using hb
  have Ac:c∈b::l<->c∈l:=by
   rw[af];exact⟨fun h=>h.elim (fun h=>absurd h.symm hb) id,.inr⟩
  have H8:(b::l).takeWhile (· ≠c)=b::l.takeWhile (· ≠c):=by rw[eK];simp[hb]
  rw[hbc,ih,H8];simp only[c6,if_false];by_cases hm:c∈l
  ·have mW:((((l.takeWhile (· ≠c)).length :Int))== -1)=false:=by rw[beq_eq_false_iff_ne];omega
   rw[if_pos (Ac.2 hm),if_pos hm,mW];simp
  rw[if_neg (fun h=>hm (Ac.1 h)),if_neg hm];rfl
theorem call78 (l:List UInt8) (c:UInt8) (w:World):(callFunc 69 #[S l,.int .u8 (c.toNat:Int)]).run Tryd.prog w=.ok (.value (I (Lib.indexByte l c))) w:=by
 rw[run_callFunc_indexByte Tryd.func69 (by kernel_rfl) rfl rfl rfl];have h:=run_indexByte_string (P:=Tryd.prog) ⟨l.toArray⟩ (c.toNat:Int) w;have e:((c.toNat:Int)).toNat.toUInt8 =c:=by simp
 rw[e,Lib.firstIdx_eq] at h;show((Extern.BytealgIndexByte.indexByte #[.string ⟨l.toArray⟩,.int .u8 (c.toNat:Int)]).run Tryd.prog w).andThen _=_;rw[h];rfl
theorem ahj (w:World) (l:List UInt8) (x:UInt8):Calls Tryd.prog 56 #[S l,.int .u8 (x.toNat:Int)] w fun e w'=>e=.returned (I (Lib.indexByte l x))/\HF w (fun _=>False) [] w':=by
 refine enter (fun _=>False) [] Tryd.func56 rfl Tryd.ntmps56 rfl rfl (HF.start w _) fun c hc=>?_
 subst hc;exact gz<|gD<|gF<|gC<|gz<|gD<|gB<|gB<|gA (mD (fun w1=>call78 l x w1) rfl)<|gF<|gC<|ic rfl rfl fun w' ia=>⟨rfl,ia⟩
theorem Ry (w:World) (l:List UInt8) (x:UInt8):Calls Tryd.prog 41 #[S l,.int .u8 (x.toNat:Int)] w fun e w'=>e=.returned (I (Lib.indexByte l x))/\HF w (fun _=>False) [] w':=by
 refine enter (fun _=>False) [] Tryd.func41 rfl Tryd.ntmps41 rfl rfl (HF.start w _) fun c hc=>?_
 subst hc;exact gz<|gD<|gF<|gC<|gz<|gD<|gB<|gB<|iw Tryd.call56 rfl rfl (fun w1 fa=>ahj w1 l x)<|gF<|gC<|ic rfl rfl fun w' ia=>⟨rfl,ia⟩
theorem mE {c:Cx} {n:Nat} {H:SH} {ty u:TypeId} {x y:Operand} {p q:Tk} (hx:ev fr x=some (.agg (pu p).toArray)) (hy:ev fr y=some (.agg (pu q).toArray)):nB Tryd.prog c n (.binOp .neq 78 x y u) ty fr H (.bool (!dec (p=q))):=by
 intro a1 w ha hw dst pos mG g;simp[execOp,ha.eval hx,ha.eval hy,run_eqGuard_agg (P:=Tryd.prog) w .neq 78 x y _ _ (by kernel_rfl),run_neq_struct,XT]
theorem ahk {a b:Tk} {s r:List Tk}:sN (a::s) (b::r)<->(a=b/\sN s r)\/(a≠b/\a.k.toNat<b.k.toNat):=gy
theorem ahl {x y:List Tk} (h:x=[]\/y=[]):¬sN x y:=by
 rcases h with rfl|rfl
 ·intro h;exact h
 cases x<;>exact fun h=>h
theorem X9 (w:World) (la lb:List nz) (sa sb:Value) (Re:uA w sa la) (vm:uA w sb lb) (Df:(mY la).length <=1000000/\la.length<=1000000) (yO:(mY lb).length <=1000000/\lb.length<=1000000):Calls Tryd.prog 21 #[sa,sb] w fun e w'=>e=.returned (.bool (dec (sN (mY la) (mY lb))))/\HF w (fun _=>False) [] w':=by
 refine enter (fun _=>False) [] Tryd.func21 rfl Tryd.ntmps21 rfl rfl (HF.start w _) fun c hc=>?_
 subst hc;obtain⟨x,yx⟩:∃x,mY la=x:=⟨_,rfl⟩;obtain⟨y,Fl⟩:∃y,mY lb=y:=⟨_,rfl⟩;rw[yx,Fl];have yy:x.length<=1000000:=by rw[<-yx];exact Df.1
 have hyl:y.length<=1000000:=by rw[<-Fl];exact yO.1
 refine gz<|gD<|gF<|gC<|gz<|gD<|gB<|iP (fun v H2=>∃Hk,Own 78 3 v x.length (qd x) Hk/\H2=Hk++[]) fH rfl rfl (fun w1 fa=>?_) ?_
 ·refine(B4 w1 la sa (Re.old fa) Df.1 Df.2).mono fun e w' ⟨kv,Hs,h1,h2,h3⟩=>?_
  rw[yx] at h2;exact⟨_,_,h1,fa.o9 h3 h2.w,Hs,h2,rfl⟩
 rintro kx H2 ⟨Hx,Fh,rfl⟩;refine gB<|iP (fun v H2=>∃Hk,Own 78 3 v y.length (qd y) Hk/\H2=Hk++(Hx++[])) fH rfl rfl (fun w1 fa=>?_) ?_
 ·refine(B4 w1 lb sb (vm.old fa) yO.1 yO.2).mono fun e w' ⟨kv,Hs,h1,h2,h3⟩=>?_
  rw[Fl] at h2;exact⟨_,_,h1,fa.o9 h3 h2.w,Hs,h2,rfl⟩
 rintro ky H2 ⟨Hy,Kd,rfl⟩;refine gF<|gF<|gC ?_;rw[aS];obtain⟨Cm,yH,rfl,r8,MQ⟩:=Fh.tail (by rw[G6,eu]);obtain⟨Ke,Fm,rfl,XY,XZ⟩:=Kd.tail (by rw[G6,eu]);refine gz<|gz<|gD<|gB<|gA (iu aV rfl)<|gB<|gA (iu aV rfl)<|gA (k9 (i:=x.length) (j:=y.length) rfl rfl)<|gB<|gC<|gW ?_
 refine iC (fun N bc H'=>∃i,i+N=min x.length y.length/\(sN x y<->sN (x.drop i) (y.drop i))/\Sub [(5,.slice Cm x.length yH),(6,.slice Ke y.length Fm),(16,I ((min x.length y.length:Nat):Int)),(17,I (i:Nat))] bc/\H'=Hy++Hx) (min x.length y.length)
  ⟨0,by omega,gy,.of rfl,rfl⟩ ?_
 rintro N bc H' ⟨i,hi,q4,mJ,rfl⟩ ih;refine gN mJ ?_;clear mJ;refine gz<|gD<|gA (ik rfl rfl)<|gC<|gz<|gS rfl (fun yG=>?_) (fun yG=>?_)
 ·refine gL<|gz<|gW<|gz<|gD<|gB<|gF<|gC<|gz ?_;have Bc:i<x.length:=by omega
  have xX:i<y.length:=by omega
  obtain⟨a,tJ⟩:=gx Bc;obtain⟨b,DL⟩:=gx xX;obtain⟨xb,xc,xs,ex,rfl⟩:=Fh.at (i:=i) Bc;obtain⟨yb,yc,ys,ey,rfl⟩:=Kd.at (i:=i) xX;cases ex;cases ey;have Rf:=drop_cons tJ;have Rg:=drop_cons DL;rw[Rf,Rg,ahk] at q4;refine iV mixed (by kernel_rfl)<|gK (gM rfl)<|gK (gM rfl)<|gK (ij (i:=i) aV bA rfl rfl Bc)<|gK (ja (cs:=pu a) eI bA rfl (.tail _ (.head _)) (G7 tJ _) rfl)<|gK (gM rfl)<|gK (gM rfl)<|gK (ij (i:=i) aV bA rfl rfl xX)<|gK (ja (cs:=pu b) eI bA rfl (.head _) (G7 DL _) rfl)<|gK (mE rfl rfl)<|iH<|gV rfl (fun tX=>?_) (fun tX=>?_)
  ·refine gz<|iV mixed (by kernel_rfl)<|gK (gM rfl)<|gK (gM rfl)<|gK (ij (i:=i) aV bA rfl rfl Bc)<|gK (gQ zt rfl)<|gK (gG bt rfl (.tail _ (.head _)) (Fk tJ _))<|gK (gM rfl)<|gK (gM rfl)<|gK (ij (i:=i) aV bA rfl rfl xX)<|gK (gQ zt rfl)<|gK (gG bt rfl (.head _) (Fk DL _))<|gK (ik rfl rfl)<|gK (iT rfl)<|iH<|ic rfl rfl fun w' ia=>⟨?_,ia.sub (ar _)⟩
   refine rB ?_;have pq:¬a=b:=pP.1 (by simpa using tX);refine rJ ?_;rw[q4];exact⟨fun h=>.inr ⟨pq,by omega⟩,fun h=>h.elim (fun h=>absurd h.1 pq) (fun h=>by have:=h.2;omega)⟩
  refine gL<|il<|gD<|gA (iy i (by omega))<|gB<|gC ?_;have pq:a=b:=p8.1 (by simpa using tX);refine ih (N-1) _ _ (by omega) ⟨i+1,by omega,?_,.of rfl,rfl⟩;rw[q4];exact⟨fun h=>h.elim (fun h=>h.2) (fun h=>absurd pq h.1),fun h=>.inl ⟨pq,h⟩⟩
 refine ir rfl<|gz<|gD<|gF<|gC<|ic rfl rfl fun w' ia=>⟨?_,ia.sub (ar _)⟩
 refine rB<|oL ?_;rw[q4];refine ahl ?_;rcases Nat.le_total x.length y.length with h|h
 ·exact .inl (bE (by omega))
 exact .inr (bE (by omega))
theorem Ya (a b:List UInt8) (w:World):(Instr.build 80 #[(0,S a),(1,S b)]).run Tryd.prog w=.ok (.agg #[S a,S b]) w:=by
 simp[Instr.build,Tryd.zeroValue80,Tryd.runUnderlying80,ah,qp,Instr.fill,tR]
theorem Yb (l:List (List UInt8×List UInt8)) (a b:List UInt8):nJ (l++[(a,b)])=nJ l++[S a,S b]:=by rw[Lc];rfl
theorem Clean.first {l:List nz} (h:Gt.Clean l) {p:nz} (hp:l[0]? =some p):p.k.toNat=0/\0<p.nm.length:=by
 have pt:=h.2.2.2 0 p hp;have hk:=pt.1.2 rfl;exact⟨hk,aU.2 (pt.2.2.2.1 hk).1⟩
theorem Yc (w:World) (l:List nz) (sv:Value) (pe:uA w sv l) (nD:Gt.Clean l) (path:List UInt8) (mM:path.length<=1000000):Calls Tryd.prog 22 #[sv,S path] w fun e w'=>∃pv ok Hs,e=.returned (.tuple #[pv,.bool ok])/\((ok=true/\∃ps,qV l path=some ps/\ps.length<=12/\Own 80 2 pv ps.length (nJ ps) Hs)\/(ok=false/\qV l path=none))/\(∀x∈Hs,x.w=true)/\HF w (fun _=>False) Hs w':=by
 refine enter (fun _=>False) [] Tryd.func22 rfl Tryd.ntmps22 rfl rfl (HF.start w _) fun c hc=>?_
 subst hc;obtain⟨ad,cp,rfl,s8,hc⟩:=pe;have vj:=nD.2.1;refine gz<|gD<|gF<|gF<|gC<|gz<|gD<|gF<|gC<|gz<|gD<|gF<|gC<|gz<|gz<|gD<|gB<|gA (iu bn rfl)<|gB<|gC<|gW ?_
 refine iC (fun N bc H'=>∃(j i:Nat) (kv:Value) (Hs:SH) (acc:List (List UInt8×List UInt8)),j+N=l.length/\i<=path.length/\(1<=j->1<=i)/\acc.length<=j/\qV l path=yE path (l.drop j) i acc/\Own 80 2 kv acc.length (nJ acc) Hs/\Sub [(1,S path),(6,kv),(7,I (i:Nat)),(11,.slice ad l.length cp),(12,I (l.length:Nat)),(13,I (j:Nat))] bc/\Hs=H') l.length
  ⟨0,0,.slice none 0 0,[],[],by omega,by omega,by omega,by simp,rfl,Own.nil,.of rfl,rfl⟩ ?_
 rintro N bc H' ⟨j,i,kv,Hs,acc,hj,oO,BK,uq,n9,nx,mJ,rfl⟩ ih;refine gN mJ ?_;clear mJ;refine gz<|gD<|gA (ik rfl rfl)<|gC<|gz<|gS rfl (fun xY=>?_) (fun xY=>?_)
 ·refine gL<|gz<|gW<|gz ?_;have oC:j<l.length:=by omega
  obtain⟨p,hp⟩:=gx oC;obtain⟨b,o,rfl,oV,oc⟩:=hc j p hp;have pt:=nD.2.2.2 j p hp;have ow:=pt.2.1;have nH:=E5 hp;rw[nH] at n9;unfold yE at n9;refine gD<|gA (ij (i:=j) bn bH rfl rfl oC)<|gA (ju (cs:=oz p) ew bH rfl (AO oV oc) rfl id)<|iK ei rfl rfl (fun pb zy=>?_);refine iO (cs:=oz p) bH rfl rfl (by simp[oz,Value.oneCell']) .z rfl<|gC<|gz<|gD<|gH yM rfl<|gA (gG bt rfl (.head _) rfl)<|gC<|gW<|gz<|gD<|gA (ie rfl rfl)<|gF<|gC<|gS rfl (fun Dd=>?_) (fun Dd=>?_)
  ·refine gz<|gz ?_;have od:p.k.toNat=0:=by omega
   rw[if_pos od] at n9;refine iV mixed (by kernel_rfl)<|gK (gM rfl)<|gK (gM rfl)<|gK (iX (i:=i) aa rfl rfl oO)<|gK (gQ tw rfl)<|gK (gG ag rfl (.head _) rfl)<|j6 (v:=.bool (decide (p.nm<+:path.drop i))) Tryd.call18 rfl rfl (fun w1 fa=>K8 w1 (path.drop i) p.nm (by rw[aA];omega) (by have:=(pt.2.2.2.1 od).2.1;omega))<|gK (iU rfl)<|iH<|gV rfl (fun GP=>?_) (fun GP=>?_)
   ·refine gz<|gD<|gF<|gF<|gC<|jl rfl rfl rfl fun w' ia=>⟨_,_,[],rfl,?_,by simp,ia.sub (ar _)⟩
    have og:¬p.nm<+:path.drop i:=by simpa using GP
    rw[if_neg (fun h=>og (dM.1 h))] at n9;exact .inr ⟨rfl,n9⟩
   refine gL ?_;have nG:p.nm<+:path.drop i:=by simpa using GP
   have Rz:=nG.length_le;rw[aA] at Rz;rw[if_pos (dM.2 nG)] at n9;refine gD<|gB ?_;refine gH tw rfl<|gA (gG ag rfl (.head _) rfl) ?_;refine gA (ig aa rfl)<|gA (iB (r:=((i+p.nm.length:Nat):Int)) rfl rfl (by omega) (by omega) (by omega)) ?_;refine gF<|gC ?_;refine il<|il ?_;refine gD<|gA (iy j (by omega)) ?_;refine gB<|gC ?_;have Yd:0<p.nm.length:=aU.2 (pt.2.2.2.1 od).1;exact hO (H':=Hs) (fun w1 h1=>h1.sub (ai _ _))<|ih (N-1) _ _ (by omega) ⟨j+1,i+p.nm.length,kv,Hs,acc,by omega,by omega,by omega,by omega,n9,nx,.of rfl,rfl⟩
  refine gz<|gD<|gA (ie rfl rfl)<|gF<|gC<|gS rfl (fun vK=>?_) (fun vK=>?_)
  ·refine gz ?_;have p6:p.k.toNat=1:=by omega
   rw[if_neg (by omega),if_pos p6] at n9;obtain⟨m,hm⟩:∃m,m=((path.drop i).takeWhile (· ≠47)).length :=⟨_,rfl⟩
   have py:m<=path.length-i:=by
    rw[hm,<-aA];exact(dJ _).length_le
   rw[<-hm] at n9;refine gD<|gB<|gB<|gA (iX (i:=i) aa rfl rfl oO)<|iw (v:=I (Lib.indexByte (path.drop i) 47)) Tryd.call41 rfl rfl (fun w1 fa=>Ry w1 (path.drop i) 47) ?_;rw[Rw,<-hm];refine gF<|gC<|gz<|gz<|gD<|gB<|gA (ik rfl rfl)<|gC<|hY (fun bc H'=>Sub [(9,Pt pb 0),(10,I (m:Nat)),(1,S path),(6,kv),(7,I (i:Nat)),(11,.slice (some ⟨b,o,none⟩) l.length cp),(12,I (l.length:Nat)),(13,I (j:Nat))] bc/\H'=(Rx pb (oz p) 34)::Hs) (fun Ye=>?_) ?_
   ·refine gS rfl (fun H7=>?_) (fun H7=>?_)
    ·refine gD<|gB<|gA (ig aa rfl)<|gB ?_;have RC:¬(47:UInt8)∈path.drop i:=fun h=>by rw[if_pos h] at H7;omega
     have IC:m=path.length-i:=by
      rw[hm,Fz RC,aA]
     exact gA (iM (r:=(m:Int)) rfl rfl (by omega) (by omega) (by omega))<|gF<|gC<|Ye _ _ ⟨.of rfl,rfl⟩
    refine gL ?_;have ot:(47:UInt8)∈path.drop i:=bD fun h=>(by rw[if_neg h] at H7;omega)
    refine Ye _ _ ⟨?_,rfl⟩;rw[if_pos ot];exact .of rfl
   rintro bc H' ⟨ou,rfl⟩;refine gN ou ?_;clear ou;refine gz<|gz<|gD<|gB<|gA (ie rfl rfl)<|gC<|gS rfl (fun MS=>?_) (fun MS=>?_)
   ·refine gz<|gD<|gF<|gF<|gC<|jl rfl rfl rfl fun w' ia=>⟨_,_,[],rfl,?_,by simp,ia.sub (ar _)⟩
    rw[if_pos (by omega)] at n9;exact .inr ⟨rfl,n9⟩
   refine gL<|gz ?_;have Ii:¬m=0:=by omega
   rw[if_neg Ii] at n9
   have oB:(path.take (i+m)).drop i=(path.drop i).takeWhile (· ≠47):=by
    rw[fg,Nat.add_sub_cancel_left,hm];exact(cZ.1 (fi _)).symm
   refine jT 12 (fun w1=>w1.heap[pb]? =some (oe.den (.row (oz p) 34 (0,0)))) mixed (by kernel_rfl)<|jN (fun w1 h1=>h1.has (Rx pb (oz p) 34) (by first|exact .head _|exact .tail _ (.head _))) fun hS=>?_
   refine iq 0 rfl hS (gM rfl)<|iq 1 rfl hS (gQ tw rfl)<|jh 2 rfl hS ag rfl (fun w1 h1=>uk h1 rfl)<|iq 3 rfl hS (gM rfl)<|iq 4 rfl hS (gM rfl)<|iq 5 rfl hS (gM rfl)<|iq 6 rfl hS (gM rfl)<|iq 7 rfl hS (iB (r:=((i+m:Nat):Int)) rfl rfl (by omega) (by omega) (by omega))<|iq 8 rfl hS (j7 (i:=i) (j:=i+m) aa rfl rfl rfl (by omega) (by omega) oB)<|iq 9 rfl hS (iN (vs:=[(0,S p.nm),(1,S ((path.drop i).takeWhile (· ≠47)))]) rfl (fun w1=>Ya _ _ w1))<|jC 10 rfl (by kernel_rfl)<|kB (vl:=[(0,.agg #[S p.nm,S ((path.drop i).takeWhile (· ≠47))])]) (vs:=[S p.nm,S ((path.drop i).takeWhile (· ≠47))]) (kE gb Tryd.sizeOf80 Tryd.zeroValue80) rfl (fun w1 h1=>h1.has (Rx pb (oz p) 34) (.head _)) rfl (fun sb=>?_);refine jC 11 rfl (by kernel_rfl)<|kC (i:=Tryd.t80) (sz:=2) (qg:=32) (vs:=[S p.nm,S ((path.drop i).takeWhile (· ≠47))]) gb rfl rfl rfl rfl rfl rfl rfl nx (H':=[Rx sb [S p.nm,S ((path.drop i).takeWhile (· ≠47))] 80,Rx pb (oz p) 34]) (aF (l₁:=([Rx sb [S p.nm,S ((path.drop i).takeWhile (· ≠47))] 80,Rx pb (oz p) 34]:SH))) (vf (vs:=[S p.nm,S ((path.drop i).takeWhile (· ≠47))]) (r:=[]) (.head _)) rfl (by simp[Value.oneCell']) (by omega) (by omega) (by omega) (fun w1 h1=>h1.has (Rx pb (oz p) 34) (.tail _ (.head _))) rfl (fun ov nU oS=>?_);refine jU (by kernel_rfl)<|gF<|gC<|hO (H':=nU) (fun w1 h1=>h1.sub (aG _ _)) ?_
   have zI:Own 80 2 ov (acc++[(p.nm,((path.drop i).takeWhile (· ≠47)))]).length (nJ (acc++[(p.nm,((path.drop i).takeWhile (· ≠47)))])) nU:=by
    rw[Yb,ax];exact oS
   refine gD ?_;refine gB ?_;refine gB ?_;refine gA (iB (r:=((i+m:Nat):Int)) rfl rfl (by omega) (by omega) (by omega)) ?_;refine gF ?_;refine gC ?_;refine il ?_;refine il ?_;refine gD ?_;refine gA (iy j (by omega)) ?_;refine gB ?_;refine gC ?_;exact ih (N-1) _ _ (by omega) ⟨j+1,i+m,ov,nU,_,by omega,by omega,by omega,by simp;omega,n9,zI,.of rfl,rfl⟩
  refine gz<|gD<|gA (ie rfl rfl)<|gF<|gC<|gS rfl (fun yt=>?_) (fun yt=>?_)
  ·refine gz ?_;have aj0:p.k.toNat=2:=by omega
   rw[if_neg (by omega),if_neg (by omega)] at n9
   have yL:1<=j:=by
    rcases fO j with h0|h0
    ·subst h0;have:=(Clean.first nD hp).1;omega
    exact h0
   have aj1:=BK yL;refine jT 10 (fun w1=>w1.heap[pb]? =some (oe.den (.row (oz p) 34 (0,0)))) mixed (by kernel_rfl)<|jN (fun w1 h1=>h1.has (Rx pb (oz p) 34) (by first|exact .head _|exact .tail _ (.head _))) fun hS=>?_
   refine iq 0 rfl hS (gM rfl)<|iq 1 rfl hS (gQ tw rfl)<|jh 2 rfl hS ag rfl (fun w1 h1=>uk h1 rfl)<|iq 3 rfl hS (gM rfl)<|iq 4 rfl hS (gM rfl)<|iq 5 rfl hS (iM (r:=((i-1:Nat):Int)) rfl rfl (by omega) (by omega) (by omega))<|iq 6 rfl hS (iX (i:=i-1) aa rfl rfl (by omega))<|iq 7 rfl hS (iN (vs:=[(0,S p.nm),(1,S (path.drop (i-1)))]) rfl (fun w1=>Ya _ _ w1))<|jC 8 rfl (by kernel_rfl)<|kB (vl:=[(0,.agg #[S p.nm,S (path.drop (i-1))])]) (vs:=[S p.nm,S (path.drop (i-1))]) (kE gb Tryd.sizeOf80 Tryd.zeroValue80) rfl (fun w1 h1=>h1.has (Rx pb (oz p) 34) (.head _)) rfl (fun sb=>?_);refine jC 9 rfl (by kernel_rfl)<|kC (i:=Tryd.t80) (sz:=2) (qg:=32) (vs:=[S p.nm,S (path.drop (i-1))]) gb rfl rfl rfl rfl rfl rfl rfl nx (H':=[Rx sb [S p.nm,S (path.drop (i-1))] 80,Rx pb (oz p) 34]) (aF (l₁:=([Rx sb [S p.nm,S (path.drop (i-1))] 80,Rx pb (oz p) 34]:SH))) (vf (vs:=[S p.nm,S (path.drop (i-1))]) (r:=[]) (.head _)) rfl (by simp[Value.oneCell']) (by omega) (by omega) (by omega) (fun w1 h1=>h1.has (Rx pb (oz p) 34) (.tail _ (.head _))) rfl (fun ov nU oS=>?_);refine jU (by kernel_rfl)<|gF<|gC<|hO (H':=nU) (fun w1 h1=>h1.sub (aG _ _)) ?_
   have zI:Own 80 2 ov (acc++[(p.nm,(path.drop (i-1)))]).length (nJ (acc++[(p.nm,(path.drop (i-1)))])) nU:=by
    rw[Yb,ax];exact oS
   exact gD<|gB<|gA (ig aa rfl)<|gF<|gC<|il<|il<|gD<|gA (iy j (by omega))<|gB<|gC<|ih (N-1) _ _ (by omega) ⟨j+1,path.length,ov,nU,_,by omega,by omega,by omega,by simp;omega,n9,zI,.of rfl,rfl⟩
  refine gL<|il<|il<|gD<|gA (iy j (by omega))<|gB<|gC ?_;omega
 refine ir rfl<|gz<|gD<|gB<|gB<|gB<|gA (ig aa rfl)<|gA (ie rfl rfl)<|gF<|gF<|gC ?_;have uz:j=l.length:=by omega
 rw[uz,cH] at n9;unfold yE at n9;refine jl rfl rfl rfl fun w' ia=>⟨_,_,_,rfl,?_,?_,ia⟩
 ·by_cases Yf:i=path.length
  ·rw[if_pos Yf] at n9;exact .inl ⟨decide_eq_true (by omega),acc,n9,by omega,nx⟩
  rw[if_neg Yf] at n9;exact .inr ⟨decide_eq_false (by omega),n9⟩
 exact nx.w
theorem ahm (w:World) (l:List nz) (sv:Value) (pe:uA w sv l) (nD:Gt.Clean l) (path:List UInt8) (mM:path.length<=1000000):Calls Tryd.prog 20 #[sv,S path] w fun e w'=>e=.returned (.bool (dec (G0 l path)))/\HF w (fun _=>False) [] w':=by
 refine enter (fun _=>False) [] Tryd.func20 rfl Tryd.ntmps20 rfl rfl (HF.start w _) fun c hc=>?_
 subst hc;obtain⟨ad,cp,rfl,s8,hc⟩:=pe;have vj:=nD.2.1;refine gz<|gD<|gF<|gC<|gz<|gD<|gF<|gC<|gz<|gz<|gD<|gB<|gA (iu bn rfl)<|gB<|gC<|gW ?_
 refine iC (fun N bc H'=>∃(j i:Nat),j+N=l.length/\i<=path.length/\(G0 l path<->Fa path (l.drop j) i)/\Sub [(1,S path),(5,I (i:Nat)),(8,.slice ad l.length cp),(9,I (l.length:Nat)),(10,I (j:Nat))] bc/\H'=[]) l.length
  ⟨0,0,by omega,by omega,gy,.of rfl,rfl⟩ ?_
 rintro N bc H' ⟨j,i,hj,oO,n9,mJ,rfl⟩ ih;refine gN mJ ?_;clear mJ;refine gz<|gD<|gA (ik rfl rfl)<|gC<|gz<|gS rfl (fun yg=>?_) (fun yg=>?_)
 ·refine gL<|gz<|gW<|gz ?_;have oC:j<l.length:=by omega
  obtain⟨p,hp⟩:=gx oC;obtain⟨b,o,rfl,oV,oc⟩:=hc j p hp;have pt:=nD.2.2.2 j p hp;have ow:=pt.2.1;have nH:=E5 hp;rw[nH] at n9;unfold Fa at n9;refine gD<|gA (ij (i:=j) bn bH rfl rfl oC)<|gA (ju (cs:=oz p) ew bH rfl (AO oV oc) rfl id)<|iK ei rfl rfl (fun pb zy=>?_);refine iO (cs:=oz p) bH rfl rfl (by simp[oz,Value.oneCell']) .z rfl<|gC<|gz<|gD<|gH yM rfl<|gA (gG bt rfl (.head _) rfl)<|gC<|gW<|gz<|gD<|gA (ie rfl rfl)<|gF<|gC<|gS rfl (fun pA=>?_) (fun pA=>?_)
  ·refine gz<|gz ?_;have od:p.k.toNat=0:=by omega
   rw[if_pos od] at n9;refine iV mixed (by kernel_rfl)<|gK (gM rfl)<|gK (gM rfl)<|gK (iX (i:=i) aa rfl rfl oO)<|gK (gQ tw rfl)<|gK (gG ag rfl (.head _) rfl)<|j6 (v:=.bool (decide (p.nm<+:path.drop i))) Tryd.call18 rfl rfl (fun w1 fa=>K8 w1 (path.drop i) p.nm (by rw[aA];omega) (by have:=(pt.2.2.2.1 od).2.1;omega))<|gK (iU rfl)<|iH<|gV rfl (fun qu=>?_) (fun qu=>?_)
   ·refine gz<|gD<|gF<|gC<|ic rfl rfl fun w' ia=>⟨?_,ia.sub (ar _)⟩
    refine rB ?_;have og:¬p.nm<+:path.drop i:=by simpa using qu
    exact oL fun h=>og (n9.1 h).1
   refine gL ?_;have nG:p.nm<+:path.drop i:=by simpa using qu
   have Rz:=nG.length_le;rw[aA] at Rz;refine gD<|gB ?_;refine gH tw rfl<|gA (gG ag rfl (.head _) rfl) ?_;refine gA (ig aa rfl)<|gA (iB (r:=((i+p.nm.length:Nat):Int)) rfl rfl (by omega) (by omega) (by omega)) ?_;refine gF<|gC ?_;refine il<|il ?_;refine gD<|gA (iy j (by omega)) ?_;refine gB<|gC ?_;exact hO (H':=[]) (fun w1 h1=>h1.sub (ar _))<|ih (N-1) _ _ (by omega) ⟨j+1,i+p.nm.length,by omega,by omega,n9.trans ⟨fun h=>h.2,fun h=>⟨nG,h⟩⟩,.of rfl,rfl⟩
  refine gz<|gD<|gA (ie rfl rfl)<|gF<|gC<|gS rfl (fun th=>?_) (fun th=>?_)
  ·refine gW ?_
   refine iC (fun N2 bc H'=>∃q:Nat,q+N2=sl (path.drop i)/\Sub [(1,S path),(5,I ((i+q:Nat):Int)),(8,.slice (some ⟨b,o,none⟩) l.length cp),(9,I (l.length:Nat)),(10,I (j:Nat))] bc/\H'=[Rx pb (oz p) 34]) (sl (path.drop i))
    ⟨0,by omega,.of rfl,rfl⟩ ?_
   rintro N2 bc H' ⟨q,hq,mJ,rfl⟩ qz;refine gN mJ ?_;clear mJ;refine gz<|gz ?_;have p6:p.k.toNat=1:=by omega
   have Kj:=Cf (path.drop i);rw[aA] at Kj;refine hY (fun bc H'=>Sub [(1,S path),(5,I ((i+q:Nat):Int)),(8,.slice (some ⟨b,o,none⟩) l.length cp),(9,I (l.length:Nat)),(10,I (j:Nat)),(41,.bool (dec (q<sl (path.drop i))))] bc/\H'=[Rx pb (oz p) 34]) (fun D4=>?_) ?_
   ·refine gD<|gB<|gB<|gA (ig aa rfl)<|gA (ik rfl rfl)<|gB<|gZ 36 rfl (fun yX=>?_) (fun yX=>?_)
    ·refine gU<|gU ?_;have Yg:=of_decide_eq_true yX;obtain⟨x,hx⟩:∃x,path[i+q]? =some x:=gx (by omega);have yx:(path.drop i)[q]? =some x:=by rw[bL];exact hx
     refine gI (iG (i:=i+q) (b:=x) aa rfl rfl hx)<|gI (iF rfl rfl)<|gT<|gC<|D4 _ _ ⟨.cons rfl (.cons rfl (.cons rfl (.cons rfl (.cons rfl (.cons (oM rfl ?_) .nil))))),rfl⟩;refine tM ⟨fun h=>?_,fun h VH=>?_⟩
     ·rcases cn q (sl (path.drop i)) with h1|h1
      ·exact h1
      have RD:q=sl (path.drop i):=by omega
      rw[RD] at yx;exact absurd (by rw[Mt yx];rfl) h
     obtain⟨y,Yh,hy2⟩:=QK h;rw[yx] at Yh;cases Yh;exact hy2 (zx (k:=47) (by omega) (by omega))
    refine gE ?_;refine gE ?_;refine gE ?_;refine gE ?_;refine hG ?_;refine gC ?_;refine D4 _ _ ⟨.cons rfl (.cons rfl (.cons rfl (.cons rfl (.cons rfl (.cons (oM rfl ?_) .nil))))),rfl⟩;have Yg:=of_decide_eq_false yX;exact oL fun h=>Yg (by omega)
   rintro bc H' ⟨ou,rfl⟩;refine gN ou ?_;clear ou;refine gV rfl (fun sH=>?_) (fun sH=>?_)
   ·refine gL<|gW ?_;refine gD<|gB ?_;refine gA (iB (r:=((i+(q+1):Nat):Int)) rfl rfl (by omega) (by omega) (by omega))<|gF ?_;refine gC<|il ?_;have mS:=p8.1 sH;exact qz (N2-1) _ _ (by omega) ⟨q+1,by omega,.of rfl,rfl⟩
   refine ir rfl<|il<|il<|gD<|gA (iy j (by omega))<|gB<|gC<|hO (H':=[]) (fun w1 h1=>h1.sub (ar _)) ?_;have Bi:=pP.1 sH;have RD:q=sl (path.drop i):=by omega
   rw[if_neg (by omega),if_pos p6,<-RD] at n9;exact ih (N-1) _ _ (by omega) ⟨j+1,i+q,by omega,by omega,n9,.of rfl,rfl⟩
  refine gz<|gD<|gA (ie rfl rfl)<|gF<|gC<|gS rfl (fun tK=>?_) (fun tK=>?_)
  ·refine gD<|gB<|gA (ig aa rfl)<|gF<|gC<|il<|il<|gD<|gA (iy j (by omega))<|gB<|gC<|hO (H':=[]) (fun w1 h1=>h1.sub (ar _)) ?_;rw[if_neg (by omega),if_neg (by omega)] at n9;exact ih (N-1) _ _ (by omega) ⟨j+1,path.length,by omega,by omega,n9,.of rfl,rfl⟩
  refine gL<|il<|il<|gD<|gA (iy j (by omega))<|gB<|gC ?_;omega
 refine ir rfl<|gz<|gD<|gB<|gB<|gA (ig aa rfl)<|gA (ie rfl rfl)<|gF<|gC<|ic rfl rfl fun w' ia=>⟨?_,ia.sub (ar _)⟩
 refine rB ?_;have uz:j=l.length:=by omega
 rw[uz,cH] at n9;unfold Fa at n9;exact rJ ⟨fun h=>n9.2 (by omega),fun h=>by have:=n9.1 h;omega⟩
end Go.Proofs
