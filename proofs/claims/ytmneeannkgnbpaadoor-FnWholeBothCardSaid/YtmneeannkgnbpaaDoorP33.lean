/- Lemmas of the walk and plain facts (JlK .. JlW2). -/
import Derived.Test.YtmneeannkgnbpaaDoorL1
import Derived.Test.YtmneeannkgnbpaaDoorL2
import Derived.Test.YtmneeannkgnbpaaDoorP28
import Derived.Test.YtmneeannkgnbpaaDoorP29
import Derived.Test.YtmneeannkgnbpaaDoorP31
import Derived.Test.YtmneeannkgnbpaaDoorP17
import Derived.Test.YtmneeannkgnbpaaDoorP32
import Derived.Test.YtmneeannkgnbpaaDoorP01
set_option maxRecDepth 20000
namespace Bw
open Go Go.Proofs
section
variable {P:Program} {c:Cx} {n:Nat} {k:List Item} {fr:SF} {H:SH} {ops:Array Oper} {ty:TypeId} {pos:String} {mG:Array Edge} {S:World->Prop} {nv:Nat} {listed:Array Bool}
theorem mF {x y:Operand} {t u:TypeId} {i j:Nat} (hx:ev fr x=some (I (i:Int))) (hy:ev fr y=some (I (j:Int))) (hj:0<j) (hi:i<=9223372036854775807):nB P c n (.binOp .quo t x y u) ty fr H (I ((i/j:Nat):Int)):=by
 intro a w ha hw dst pos mG g;have h0:¬((j:Int)=0):=by omega
 have h1:(Int.tdiv (i:Int) (j:Int))=((i/j:Nat):Int):=by rw[Int.tdiv_eq_ediv_of_nonneg (by omega)];rfl
 have h2:i/j<=i:=Nat.div_le_self _ _;have key:∀q:Nat,q<=i->IntKind.i64.wrap (q:Int)=(q:Int):=fun q hq=>wrap_i64 (by omega) (by omega)
 have h3:=key _ h2;simp[execOp,ha.eval hx,ha.eval hy,eqGuard,binOp,Op.intDiv,show¬(j=0) by omega,h1];simpa using h3
theorem ls {T e d:Nat} {x y:Operand} {z v u:Value} (hT:P.underlying T=some (.slice e)) (hs:∀w,(Go.sizeOf e).run P w=.ok 1 w) (hz:∀w,(zeroValue e).run P w=.ok z w) (hv:v.oneCell'=true) (hu:u.oneCell'=true) (hx:ev fr x=some v) (hy:ev fr y=some u)
  (hS:∀w,HF c.w0 c.D H w->S w) (hd:Nat.blt d n=true)
  (hk:∀b,GA P c n k ops S nv listed ((d,Sx b 2 2)::fr) (Rx b [v,u] e::H)):GB P c n k ops S nv listed ⟨some d,.buildSlice T 2 #[(0,x),(1,y)],ty,pos,mG,none⟩ fr H:=by
 refine jY (kb:=.row [v,u] e (0,0)) (v:=fun b=>Sx b 2 2) (fun a w ha hw=>?_) hS hd hk;have hc:v.cells= #[v]:=by cases v<;>first|rfl|(simp[Value.oneCell'] at hv)
 have oc:u.cells= #[u]:=by cases u<;>first|rfl|(simp[Value.oneCell'] at hu)
 have h2:Array.range 2= #[0,1]:=rfl;simp[execOp,ha.eval hx,ha.eval hy,Instr.buildSlice,underlying,hT,hs,hz,Instr.fill,hc,oc,newRow,h2,oe.den]
end
theorem aik {w0 w:World} {D:Nat->Prop} {H Hs:SH} {Rs:List RB} {ad:Option Addr} {cp:Nat} {e:TypeId} (hw:HF w0 D H w) (hs:∀e∈Hs,e∈H) (h:Own e 3 (.slice ad Rs.length cp) Rs.length (Rs.flatMap RB.cells) Hs):JC w ad Rs:=fun i r hr=>by
 have mS:=(ae.1 hr).1;obtain⟨b,cap,spare,e,rfl⟩:=h.at mS;cases e;refine⟨b,0,rfl,fun j v hj=>?_⟩;have Kq:j<3:=(ae.1 hj).1
 have key:∀(Rs:List RB) (i:Nat),Rs[i]? =some r->(Rs.flatMap RB.cells)[i*3+j]? =some v:=by
  intro Rs
  induction Rs with
  |nil=>intro i h;simp at h
  |cons a l ih=>
   intro i h
   cases i with
   |zero=>
    simp only[dC,bk] at h;subst h
    rw[ed,Nat.zero_mul,aH,ak (by simp[RB.cells];omega)];exact hj
   |succ i=>
    rw[ed,bO (by simp[RB.cells];omega)];have:=ih i (by simpa using h);rw[show(i+1)*3+j-a.cells.length=i*3+j by simp[RB.cells];omega];exact this
 have hk:=key Rs i hr;exact oQ hw (hs _ (.head _)) (by rw[n8,aH,ak (ae.1 hk).1];exact hk)
end Bw
namespace Go.Proofs
open Go Bw Gt
theorem M0 {e sz n:Nat} {v:Value} {xs:List Value} {Hs:SH} (h:Own e sz v n xs Hs):∃ad cp,v=.slice ad n cp:=by
 cases h with
 |nil=>exact⟨_,_,rfl⟩
 |row _ _ _=>exact⟨_,_,rfl⟩
theorem ail (v:Vs):U (o6 false) v=v:=by
 unfold U;rw[show(fun x:List UInt8×List UInt8=>(x.1,o6 false x.2))=id from funext fun x=>rfl,List.map_id]
theorem _root_.Bw.Own.aim {w0 w:World} {D:Nat->Prop} {H Hs:SH} {sv:Value} {l:List (List UInt8)} {n:Nat} (ho:Own 9 1 sv n (l.map S) Hs) (hn:n=l.length) (hw:HF w0 D H w) (mU:∀x∈Hs,x∈H):vq w sv l:=by
 subst hn;generalize hn:l.length=n at ho;generalize hx:l.map S=xs at ho
 cases ho with
 |nil=>exact⟨none,0,by rw[hn],fun j x hj=>by have:=(ae.1 hj).1;omega⟩
 | @row b n cap xs spare h1 h2 h3=>
  subst hx;refine⟨some ⟨b,0,none⟩,cap,by rw[hn],fun j x hj=>⟨b,0,rfl,?_⟩⟩;exact oQ hw (mU _ (.head _)) (by rw[n8,aH,ak (by rw[aQ];exact(ae.1 hj).1),aD,hj];rfl)
theorem ain {P:Program} {c:Cx} {n:Nat} {op:Op} {ty:TypeId} {fr:SF} {H:SH} {i j:Int} (h:i≠j) (hv:nB P c n op ty fr H (.bool (decide (i=j)))):nB P c n op ty fr H (.bool false):=by rw[decide_eq_false h] at hv;exact hv
theorem aio:FF Tryd.prog 52 0 0:=.mk Tryd.underlying52 rfl ah
theorem aip:FF Tryd.prog 52 1 1:=.mk Tryd.underlying52 rfl ah
theorem aiq (a b d:List UInt8) (w:World):(Instr.build 39 #[(0,S a),(1,S b),(2,S d)]).run Tryd.prog w=.ok (.agg #[S a,S b,S d]) w:=by
 simp[Instr.build,fA,Tryd.runUnderlying39,ah,qp,Instr.fill,tR]
theorem Pg (i:Nat) (h:i<10):IntKind.u8.wrap (48+IntKind.u8.wrap (i:Int))=((UInt8.ofNat (48+i)).toNat :Int):=by
 have h1:(UInt8.ofNat (48+i)).toNat =48+i:=by rw[UInt8.toNat_ofNat'];omega
 rw[h1];unfold IntKind.wrap;simp[IntKind.bits,IntKind.signed];omega
theorem YU {β:Type} {f:β->List UInt8} {l:List β} {i:Nat} {x:β} (h:l[i]? =some x) (sp:List Value):nth ((l.map f).map S++sp) (0+i*1)=some (S (f x)):=by
 have hl:=(ae.1 h).1;rw[n8,aH,aT,ak (by simpa using hl),aD,aD,h];rfl
end Go.Proofs
namespace Go.Proofs
open Go Bw
open Gt
open Ec (Lt Ph Jh EA)
theorem air {l:List (List nz)} {path:List UInt8} {r:Gt.n6} {m:Nat} {b:List nz} {v:Vs} (h:Q0 l path (o6 false) r) (hm:qP l path l.length=some m) (hb:l[m]? =some b) (hv:qV b path=some v):r.h.getD 0=m+1/\r.full=nV b/\r.ps=v:=by
 rcases h with⟨g1,_⟩|⟨m',a,v',g1,g2,g3,g4,g5,g6⟩
 ·rw[hm] at g1;cases g1
 rw[hm] at g1;cases g1;rw[hb] at g2;cases g2;rw[hv] at g3;cases g3;exact⟨by rw[g4];rfl,g5,by rw[g6,ail]⟩
theorem ais {l:List (List nz)} {path:List UInt8} {o:Option Nat} {k:Nat} {pv:Value} {full:List UInt8} {Hp:SH} (hb:Cp l path o k pv full Hp) (h:(k:Int)≠0):∃m,o=some m:=by
 rcases hb with⟨_,h2,_⟩|⟨m,_,_,h1,_⟩
 ·exact absurd (by rw[h2];rfl) h
 exact⟨m,h1⟩
theorem ait (w:World) (l:List (List nz)) (sv:Value) (pe:zT w sv l) (path:List UInt8):Calls Tryd.prog 3 #[sv,S path] w fun e w'=>e=.returned (.bool true)/\HF w (fun _=>False) [] w':=by
 refine enter (fun _=>False) [] Tryd.func3 rfl Tryd.ntmps3 rfl rfl (HF.start w _) fun c hc=>?_
 subst hc;have RO:=pe;obtain⟨M1,DN,hse,akf,ph⟩:=pe;subst hse;have pe:=RO;refine gz<|gD<|gF<|gC<|gz<|gz<|hY (fun bc H'=>Sub [(0,.slice M1 l.length DN),(1,S path),(20,.bool (dec (¬Gi l\/(2147483647:Int)<(path.length:Int))))] bc/\H'=[]) (fun J1=>?_) ?_
 ·refine gD<|gB<|iw (v:=.bool (dec (Gi l))) Tryd.call4 rfl rfl (fun w1 fa=>agN w1 l _ (pe.old fa))<|gA (iU rfl)<|gB<|gZ 16 rfl (fun pA=>?_) (fun pA=>?_)
  ·refine gE ?_;refine gE ?_;refine gE ?_;refine gT ?_;refine gC ?_;refine J1 _ _ ⟨.cons rfl (.cons rfl (.cons (oM rfl ?_) .nil)),rfl⟩;exact pD (.inl (pP.1 (by simpa using pA)))
  refine gU<|gI (ig aa rfl)<|gI (iS rfl rfl)<|hG<|gC<|J1 _ _ ⟨.cons rfl (.cons rfl (.cons (oM rfl ?_) .nil)),rfl⟩;exact rJ ⟨.inr,fun h=>h.resolve_left (fun h=>h (p8.1 (by simpa using pA)))⟩
 rintro bc H' ⟨px,rfl⟩;refine gN px ?_;clear px;refine gV rfl (fun AQ=>?_) (fun AQ=>?_)
 ·exact gz<|gD<|gF<|gC<|ic rfl rfl fun w' ia=>⟨rfl,ia.sub (ar _)⟩
 refine gL<|gz<|gz ?_
 obtain⟨h4,mM⟩:Gi l/\path.length<=2147483647:=by
  have:=pP.1 AQ;exact⟨bD fun h=>this (.inl h),by omega⟩
 refine hY (fun bc H'=>∃t:Bool,(t=false->BJ l path/\¬zg l path/\∃m,qP l path l.length=some m)/\Sub [(0,.slice M1 l.length DN),(1,S path),(36,.bool t)] bc/\H'=[]) (fun J3=>?_) ?_
 ·refine gD<|gB<|gB<|iw (v:=.bool (dec (BJ l path))) Tryd.call5 rfl rfl (fun w1 fa=>ahf w1 l _ (pe.old fa) h4 path mM)<|gA (iU rfl)<|gB<|gZ 25 rfl (fun BF=>?_) (fun BF=>?_)
  ·refine gE ?_;refine gE ?_;refine gE ?_;refine gT ?_;refine gB ?_;refine gE ?_;refine gE ?_;refine gE ?_;refine gE ?_;refine gE ?_;refine gT ?_;refine gC ?_;refine J3 _ _ ⟨true,fun h=>(by cases h),.of rfl,rfl⟩
  refine gU<|gU ?_;have yJ:BJ l path:=p8.1 (by simpa using BF);refine jd rfl rfl<|iw (v:=.bool (dec (zg l path))) Tryd.call6 rfl rfl (fun w1 fa=>ahA w1 l _ (pe.old fa) yJ.2.1.clean (by have:=yJ.1;omega) path (by have:=yJ.2.2.2.2;omega))<|hG<|gB<|gZ 30 rfl (fun th=>?_) (fun th=>?_)
  ·refine gE ?_;refine gE ?_;refine gE ?_;refine gE ?_;refine gE ?_;refine gT ?_;refine gC ?_;refine J3 _ _ ⟨true,fun h=>(by cases h),.of rfl,rfl⟩
  refine gU<|gU<|jd rfl rfl<|iP (fun v H2=>∃(k:Nat) (pv:Value) (full:List UInt8) (Hp:SH),v=.agg #[I (k:Nat),pv,S full,.bool false]/\Cp l path (qP l path l.length) k pv full Hp/\H2=Hp++[]) Tryd.call7 rfl rfl (fun w1 fa=>?_) ?_
  ·exact(Yn w1 l _ (pe.old fa) yJ.2.1.clean (by have:=yJ.1;omega) path (by have:=yJ.2.2.2.2;omega)).mono fun e w' ⟨k,pv,full,Hp,h1,h2,h3⟩=>⟨_,_,h1,fa.o9 h3 h2.w,k,pv,full,Hp,rfl,h2,rfl⟩
  rintro v H2 ⟨k,pv,full,Hp,rfl,hb,rfl⟩;exact gI (ly (v:=I (k:Nat)) Tryd.underlying27 rfl aY rfl rfl)<|gI (ie rfl rfl)<|hG<|gC<|hO (H':=[]) (fun w1 h1=>h1.sub (ar _))<|J3 _ _ ⟨_,fun h=>⟨yJ,pP.1 th,ais hb (of_decide_eq_false h)⟩,.of rfl,rfl⟩
 rintro bc H' ⟨t36,aiv,vi,rfl⟩;refine gN vi ?_;clear vi;refine gV rfl (fun yX=>?_) (fun yX=>?_)
 ·exact gz<|gD<|iw (v:=.bool true) Tryd.call8 rfl rfl (fun w1 _=>Pe w1)<|gF<|gC<|ic rfl rfl fun w' ia=>⟨rfl,ia.sub (ar _)⟩
 refine gL<|gz ?_;obtain⟨yJ,nN,mb,MM⟩:=aiv yX;have nD:=yJ.2.1.clean;have th:=yJ.1;have akg:=yJ.2.2.2.2;have r9:∀r∈l,(nV r).length <=1000000/\r.length<=1000000:=fun r hr=>⟨br (nD r hr).lg.1 (by omega),(wo (nD r hr)).2⟩
 refine gD<|gF<|gC<|gz<|gz<|gD<|gB<|gA (iu bz rfl)<|gB<|gC<|gW ?_
 refine iC (fun N bc H'=>∃(j:Nat) (rv:Value),j+N=l.length/\(∀(i:Nat) a,i<j->l[i]? =some a->∀p∈a,p.k.toNat≠2)/\Own 39 3 rv j (((vE l).take j).flatMap RB.cells) H'/\Sub [(0,.slice M1 l.length DN),(1,S path),(5,rv),(38,.slice M1 l.length DN),(39,I (l.length:Nat)),(40,I (j:Nat))] bc) l.length
  ⟨0,.slice none 0 0,by omega,fun i a h=>by omega,.nil,.of rfl⟩ ?_
 rintro N bc Hr ⟨j,rv,hj,YV,nx,mJ⟩ ih;refine gN mJ ?_;clear mJ;refine gz<|gD<|gA (ik rfl rfl)<|gC<|gz<|gS rfl (fun sH=>?_) (fun sH=>?_)
 ·refine gL<|gz<|gW<|gz ?_;have oC:j<l.length:=by omega
  obtain⟨a,ha⟩:=gx oC;have uq:=ap ha;have qS:=nD a uq;have vj:=qS.2.1;obtain⟨b,o,av,e0,oV,nQ⟩:=ph j a ha;have e0':=e0;cases e0';refine gD<|gB<|gA (ij (i:=j) bz dz rfl rfl oC)<|gA (hZ (v:=av) ec rfl (by rw[aT];exact oV) id)<|gF<|gF<|gC<|gz<|gz<|gD<|gB<|iw (v:=.bool (dec (∃p∈a,p.k.toNat=2))) Tryd.call9 rfl rfl (fun w1 fa=>agQ w1 a _ (nQ.old fa) (by omega))<|gC<|gV rfl (fun MS=>?_) (fun MS=>?_)
  ·exact gz<|gD<|iw (v:=.bool true) Tryd.call8 rfl rfl (fun w1 _=>Pe w1)<|gF<|gC<|ic rfl rfl fun w' ia=>⟨rfl,ia.sub (ar _)⟩
  refine gL ?_;have hna:∀p∈a,p.k.toNat≠2:=fun p hp h=>pP.1 MS ⟨p,hp,h⟩
  have hrj:(vE l)[j]? =some (zm a j):=by rw[MO,ha];rfl
  have He:=r9 a uq;refine hY (fun bc H'=>∃Hg,Own 39 3 Hg (j+1) (((vE l).take (j+1)).flatMap RB.cells) H'/\Sub [(0,.slice (some ⟨b,o,none⟩) l.length DN),(1,S path),(5,Hg),(38,.slice (some ⟨b,o,none⟩) l.length DN),(39,I (l.length:Nat)),(40,I (j:Nat))] bc) (fun D4=>?_) ?_
  ·refine jM (fun _=>True) mixed<|im 0 rfl (fun _ _=>trivial) (gM rfl)<|im 1 rfl (fun _ _=>trivial) (gM rfl)<|im 3 rfl (fun _ _=>trivial) (gM rfl)<|im 4 rfl (fun _ _=>trivial) (mF (i:=j) (j:=10) rfl rfl (by omega) (by omega))<|im 5 rfl (fun _ _=>trivial) (j5 dN bT rfl)<|im 6 rfl (fun _ _=>trivial) (jj rfl rfl)<|im 7 rfl (fun _ _=>trivial) (gM rfl)<|im 8 rfl (fun _ _=>trivial) (lq (i:=j) (j:=10) rfl rfl (by omega))<|im 9 rfl (fun _ _=>trivial) (j5 dN bT rfl)<|im 10 rfl (fun _ _=>trivial) (jj rfl rfl) ?_;rw[Pg (j/10) (by omega),Pg (j%10) (by omega)];refine lV (fun bc H'=>Sub [(0,.slice (some ⟨b,o,none⟩) l.length DN),(1,S path),(48,rv),(38,.slice (some ⟨b,o,none⟩) l.length DN),(39,I (l.length:Nat)),(40,I (j:Nat)),(50,S (nV a)),(61,S (MN j))] bc/\∀w1,HF w (fun _=>False) H' w1->HF w (fun _=>False) Hr w1) #[true,true,true,true,true,true,true,true,true,true,true,true,true,true,false,false,false,false] 4 ?_ (fun fin=>?_)
   ·rintro bc H' ⟨YW,hH⟩;refine lQ YW ?_;clear YW;refine lR hH<|im 14 rfl (fun _ _=>trivial) (iN (ps:=[(0,.const (S [71,69,84])),(1,.tmp 50),(2,.tmp 61)]) (vs:=[(0,S getM),(1,S (nV a)),(2,S (MN j))]) rfl (fun w1=>aiq _ _ _ w1))<|iQ 15 rfl (by kernel_rfl)<|kM (kj (a:=S getM) (b:=S (nV a)) (c:=S (MN j)) fe Tryd.sizeOf39 fA) rfl (fun _ _=>trivial) rfl (fun tb=>?_);refine iQ 16 rfl (by kernel_rfl)<|kL (i:=Tryd.t39) (sz:=3) (qg:=48) fe rfl rfl rfl rfl rfl rfl rfl nx (H':=[(Rx tb (zm a j).cells 39:oJ)]) (aF (l₁:=[(Rx tb (zm a j).cells 39:oJ)])) (vf (vs:=(zm a j).cells) (r:=[]) (.head _)) rfl (by simp[Value.oneCell',RB.cells]) (by omega) (by omega) (by omega) (fun _ _=>trivial) rfl (fun Hg YX oS=>?_);refine im 17 rfl (fun _ _=>trivial) (iT rfl)<|jz (by kernel_rfl)<|hO (H':=YX) (fun w1 h1=>h1.sub (ai _ _))<|D4 _ _ ⟨Hg,?_,.of rfl⟩;rw[eZ,hrj];simpa using oS
   refine jQ 2 11 rfl rfl (by kernel_rfl) ?_ ?_
   ·refine kS (v:=S (nV a)) Tryd.call11 rfl rfl (fun _ _=>trivial) (fun w1 fa=>Ko w1 a _ (nQ.old fa) He.1 He.2)<|iQ 11 rfl (by kernel_rfl)<|ls (v:=.int .u8 ((UInt8.ofNat (48+j/10)).toNat :Int)) (u:=.int .u8 ((UInt8.ofNat (48+j%10)).toNat :Int)) aL bV dH rfl rfl rfl rfl (fun _ _=>trivial) rfl (fun tb=>?_);exact iQ 12 rfl (by kernel_rfl)<|jk (j8 (l:=[UInt8.ofNat (48+j/10),UInt8.ofNat (48+j%10)]) (T:=5) (wf:=true) aL bT aa rfl (.head _) (by simp)) (fun _ _=>trivial) rfl<|im 13 rfl (fun _ _=>trivial) (iR rfl rfl (by simp))<|fin _ _ _ rfl ⟨.of rfl,fun w1 h1=>h1.sub (ai _ _)⟩
   refine ls (v:=.int .u8 ((UInt8.ofNat (48+j/10)).toNat :Int)) (u:=.int .u8 ((UInt8.ofNat (48+j%10)).toNat :Int)) aL bV dH rfl rfl rfl rfl (fun _ _=>trivial) rfl (fun tb=>?_);refine jQ 2 12 rfl rfl (by kernel_rfl) ?_ ?_
   ·exact kS (v:=S (nV a)) Tryd.call11 rfl rfl (fun _ _=>trivial) (fun w1 fa=>Ko w1 a _ (nQ.old fa) He.1 He.2)<|iQ 12 rfl (by kernel_rfl)<|jk (j8 (l:=[UInt8.ofNat (48+j/10),UInt8.ofNat (48+j%10)]) (T:=5) (wf:=true) aL bT aa rfl (.head _) (by simp)) (fun _ _=>trivial) rfl<|im 13 rfl (fun _ _=>trivial) (iR rfl rfl (by simp))<|fin _ _ _ rfl ⟨.of rfl,fun w1 h1=>h1.sub (ai _ _)⟩
   exact jk (j8 (l:=[UInt8.ofNat (48+j/10),UInt8.ofNat (48+j%10)]) (T:=5) (wf:=true) aL bT aa rfl (.head _) (by simp)) (fun _ _=>trivial) rfl<|im 13 rfl (fun _ _=>trivial) (iR rfl rfl (by simp))<|iQ 2 rfl (by kernel_rfl)<|kS (v:=S (nV a)) Tryd.call11 rfl rfl (fun _ _=>trivial) (fun w1 fa=>Ko w1 a _ (nQ.old fa) He.1 He.2)<|fin _ _ _ rfl ⟨.of rfl,fun w1 h1=>h1.sub (ai _ _)⟩
  rintro bc YX ⟨Hg,oS,vi⟩;refine gN vi ?_;clear vi;refine il<|gD<|gA (iy j (by omega))<|gB<|gC ?_
  exact ih (N-1) _ _ (by omega) ⟨j+1,Hg,by omega,fun i a' hi DW=>(by
   by_cases wU:i=j
   ·subst wU;rw[ha] at DW;cases DW;exact hna
   exact YV i a' (by omega) DW),oS,.of rfl⟩
 refine ir rfl<|gz ?_;have vU:j=l.length:=by omega
 subst vU;rw[<-J0 l,b8,J0] at nx
 have YY:XO l:=fun a ha=>by
  obtain⟨i,hi⟩:=fk.1 ha;exact YV i a (ae.1 hi).1 hi
 obtain⟨rad,rcp,rfl⟩:=M0 nx;refine gD<|gB<|iP (fun v H2=>∃Hk,Own 9 1 v l.length ((l.map nV).map S) Hk/\H2=Hk++Hr) Tryd.call13 rfl rfl (fun w1 fa=>?_) ?_
 ·refine(aht w1 l _ (pe.old fa) r9 (by omega)).mono fun e w' ⟨kv,Hs,h1,h2,h3⟩=>?_
  exact⟨_,_,h1,fa.o9 h3 h2.w,Hs,h2,rfl⟩
 rintro kv H2 ⟨Hs,hot,rfl⟩;refine gB<|je (jn aE ah ck (v:=S path) rfl) rfl rfl (fun qb hqb=>?_);refine iP (fun v H2=>∃r fb cap spare pa Ha,v=.tuple #[Sx fb 1 cap,.bool true]/\Told l false path r/\Own 52 2 pa r.ps.length (nJ r.ps) Ha/\H2=(Rx fb (qk r pa++spare) 50::Ha)++(Rx qb [S path] 9::(Hs++Hr))) Tryd.call12 rfl rfl (fun w1 fa=>?_) ?_
 ·refine(ahG w1 l _ path yJ (hot.aim (by simp) fa (fun e he=>dW _ (ay _ he))) _ (vq.row (l:=[path]) (z:=[]) (e:=9) (wf:=true) (fz:=(0,0)) fa (.head _)) false).mono fun e w' ⟨r,fb,cap,spare,pa,Ha,h1,h2,h3,h4⟩=>?_
  exact⟨_,_,h2,fa.o9 h4 (fun e0 mL=>by
   rcases af.1 mL with rfl|mL
   ·rfl
   exact h3.w e0 mL),r,fb,cap,spare,pa,Ha,rfl,h1,h3,rfl⟩
 rintro v H2 ⟨r,fb,cap,spare,pa,Ha,rfl,ht,ho,rfl⟩;refine gB<|gA (iz rfl rfl)<|gA (iz rfl rfl)<|gF<|gF<|gC<|gz<|gD<|gB<|gB<|iP (fun v H2=>∃b vs vn vv al Hn Hv,l[mb]? =some b/\qV b path=some vs/\vs.length<=1000/\v=.agg #[I ((mb:Nat):Int),S (nV b),vn,vv,S al]/\Own 9 1 vn vs.length ((vs.map (·.1)).map S) Hn/\Own 9 1 vv vs.length ((vs.map (·.2)).map S) Hv/\H2=(Hn++Hv)++((Rx fb (qk r pa++spare) 50::Ha)++(Rx qb [S path] 9::(Hs++Hr)))) Tryd.call14 rfl rfl (fun w1 fa=>?_) ?_
 ·have yG:=Ec.Kb w1 rad rcp (vE l) getM path (aik (H:=(Rx fb (qk r pa++spare) 50::Ha)++(Rx qb [S path] 9::(Hs++Hr))) fa (fun e he=>au _ (.tail _ (au _ he))) (by rw[J0];exact nx)) (fun r0 vS=>by
   obtain⟨i,hi⟩:=fk.1 vS;rw[MO] at hi;obtain⟨a,h1,rfl⟩:=aN.1 hi
   exact agI (nD a (ap h1)) (YY a (ap h1)) i) (by rw[J0];omega) (by omega)
  rw[J0] at yG;refine yG.mono fun e w' ⟨num,p,ns,vs0,al,vn,vv,Hn,Hv,h1,YZ,h2,h3,h4,h5⟩=>?_
  obtain⟨b,vs,g1,g2,rfl,rfl,rfl,rfl⟩:=agJ yJ YY nN MM h1;refine⟨_,_,h2,fa.o9 h5 (fun e0 mL=>?_),b,vs,vn,vv,al,Hn,Hv,g1,g2,by rw[aQ] at YZ;exact YZ,rfl,by rw[aQ] at h3;exact h3,by rw[aQ] at h4;exact h4,rfl⟩;rcases aB.1 mL with mL|mL
  ·exact h3.w e0 mL
  exact h4.w e0 mL
 rintro v H2 ⟨b,vs,vn,vv,al,Hn,Hv,qD,hbv,akh,rfl,Y0,Mh,rfl⟩;obtain⟨Ga,hrf,B9⟩:=air (ht.2.2.2 nN) MM qD hbv;rw[B9] at ho;obtain⟨pad,mR,rfl⟩:=M0 ho;obtain⟨M2,Hi,rfl⟩:=M0 Y0;obtain⟨M3,Hj,rfl⟩:=M0 Mh;refine iK eJ rfl rfl (fun Hl aki=>?_);refine iO (cs:=[I ((mb:Nat):Int),S (nV b),.slice M2 vs.length Hi,.slice M3 vs.length Hj,S al]) eQ rfl rfl (by simp[Value.oneCell']) .z rfl<|gC<|hO (H':=(Rx Hl [I ((mb:Nat):Int),S (nV b),.slice M2 vs.length Hi,.slice M3 vs.length Hj,S al] 46::((Hn++Hv)++(Rx fb (qk r (.slice pad vs.length mR)++spare) 50::Ha)))) (fun w1 h1=>h1.sub (List.Sublist.cons_cons _ ((gg _).append (cL _ _))))<|gz<|gz<|gD<|iw (v:=.bool true) Tryd.call8 rfl rfl (fun w1 _=>Pe w1)<|gA (iU rfl)<|gB<|gZ 79 rfl (fun wY=>?_) (fun wY=>?_)
 ·exact absurd wY (by decide)
 refine jd rfl rfl<|iw (v:=.bool true) Tryd.call15 rfl rfl (fun w1 _=>Ec.aii w1)<|gI (iU rfl)<|hG<|gB<|gZ 83 rfl (fun AV=>?_) (fun AV=>?_)
 ·exact absurd AV (by decide)
 refine gU<|gI (iU rfl)<|hG<|gB<|gZ 87 rfl (fun Di=>?_) (fun Di=>?_)
 ·exact absurd Di (by decide)
 refine gU ?_;refine gI (iu cJ rfl) ?_;refine gI (iF rfl rfl) ?_;refine hG ?_;refine gC ?_;refine gV rfl (fun Hc=>absurd Hc (by decide)) (fun Hc=>?_);refine gL ?_;refine gz ?_;refine gz ?_;have VT:mb<l.length:=(ae.1 qD).1;refine jM (HF w (fun _=>False) (Rx Hl [I ((mb:Nat):Int),S (nV b),.slice M2 vs.length Hi,.slice M3 vs.length Hj,S al] 46::((Hn++Hv)++(Rx fb (qk r (.slice pad vs.length mR)++spare) 50::Ha)))) mixed ?_;refine im 0 rfl (fun _ h=>h) (gM rfl) ?_;refine im 1 rfl (fun _ h=>h) (ij (i:=0) cJ cQ rfl rfl (by decide)) ?_;refine im 2 rfl (fun _ h=>h) (gQ HW rfl) ?_;refine jE 3 rfl (fun _ h=>h) aY rfl (fun w1 h1=>oQ h1 (.tail _ (au _ (.head _))) rfl) ?_;refine im 4 rfl (fun _ h=>h) (ain (by rw[Ga];omega) (ie rfl rfl)) ?_;refine im 5 rfl (fun _ h=>h) (gM rfl) ?_;refine iY 6 rfl (fun _ h=>h) (gQ Lt rfl) ?_;refine jI 7 rfl (fun _ h=>h) aY rfl (fun w1 h1=>oQ h1 (.head _) rfl) ?_;refine iY 8 rfl (fun _ h=>h) (gM rfl) ?_;refine iY 9 rfl (fun _ h=>h) (ij (i:=0) cJ cQ rfl rfl (by decide)) ?_;refine iY 10 rfl (fun _ h=>h) (gQ HW rfl) ?_;refine jI 11 rfl (fun _ h=>h) aY rfl (fun w1 h1=>oQ h1 (.tail _ (au _ (.head _))) rfl) ?_;refine iY 12 rfl (fun _ h=>h) (iM (r:=((mb:Nat):Int)) rfl rfl (by rw[Ga];omega) (by omega) (by omega)) ?_;refine iY 13 rfl (fun _ h=>h) (Ni rfl (iF rfl rfl)) ?_;refine im 14 rfl (fun _ h=>h) (iD rfl rfl) ?_;refine im 15 rfl (fun _ h=>h) (gM rfl) ?_;refine iY 16 rfl (fun _ h=>h) (gQ Ph rfl) ?_;refine jI 17 rfl (fun _ h=>h) ag rfl (fun w1 h1=>oQ h1 (.head _) rfl) ?_;refine iY 18 rfl (fun _ h=>h) (gM rfl) ?_;refine iY 19 rfl (fun _ h=>h) (ij (i:=0) cJ cQ rfl rfl (by decide)) ?_;refine iY 20 rfl (fun _ h=>h) (gQ S2 rfl) ?_;refine jI 21 rfl (fun _ h=>h) ag rfl (fun w1 h1=>oQ h1 (.tail _ (au _ (.head _))) rfl) ?_;refine iY 22 rfl (fun _ h=>h) (Nh (by rw[hrf]) (jy rfl rfl)) ?_;refine im 23 rfl (fun _ h=>h) (iD rfl rfl) ?_;refine im 24 rfl (fun _ h=>h) (gM rfl) ?_;refine iY 25 rfl (fun _ h=>h) (gQ Jh rfl) ?_;refine jI 26 rfl (fun _ h=>h) bF rfl (fun w1 h1=>oQ h1 (.head _) rfl) ?_;refine iY 27 rfl (fun _ h=>h) (iu aE rfl) ?_;refine iY 28 rfl (fun _ h=>h) (gM rfl) ?_;refine iY 29 rfl (fun _ h=>h) (ij (i:=0) cJ cQ rfl rfl (by decide)) ?_;refine iY 30 rfl (fun _ h=>h) (gQ HX rfl) ?_;refine jI 31 rfl (fun _ h=>h) Tryd.isAgg48 rfl (fun w1 h1=>oQ h1 (.tail _ (au _ (.head _))) rfl) ?_;refine iY 32 rfl (fun _ h=>h) (iu cY rfl) ?_;refine iY 33 rfl (fun _ h=>h) (Ni rfl (iF rfl rfl)) ?_;refine im 34 rfl (fun _ h=>h) (iD rfl rfl) ?_;refine im 35 rfl (fun _ h=>h) (gM rfl) ?_;refine iY 36 rfl (fun _ h=>h) (gQ EA rfl) ?_;refine jI 37 rfl (fun _ h=>h) bF rfl (fun w1 h1=>oQ h1 (.head _) rfl) ?_;refine iY 38 rfl (fun _ h=>h) (iu aE rfl) ?_;refine iY 39 rfl (fun _ h=>h) (gQ Jh rfl) ?_;refine jI 40 rfl (fun _ h=>h) bF rfl (fun w1 h1=>oQ h1 (.head _) rfl) ?_;refine iY 41 rfl (fun _ h=>h) (iu aE rfl) ?_;refine iY 42 rfl (fun _ h=>h) (Ni rfl (iF rfl rfl)) ?_;refine im 43 rfl (fun _ h=>h) (iD rfl rfl) ?_;refine jz (by kernel_rfl) ?_;refine gV rfl (fun Y1=>absurd Y1 (by decide)) (fun Y1=>?_);refine gL ?_;refine gz ?_;refine gz ?_;refine gD ?_;refine gB ?_;refine gA (ij (i:=0) cJ cQ rfl rfl (by decide)) ?_;refine gH HX rfl ?_;refine gA (gG Tryd.isAgg48 rfl (.tail _ (au _ (.head _))) rfl) ?_;refine gA (iu cY rfl) ?_;refine gB ?_;refine gC ?_;refine gW ?_
 refine iC (fun N bc H'=>∃i:Nat,i+N=vs.length/\Sub [(8,Sx fb 1 cap),(10,Pt Hl 0),(139,(.slice pad vs.length mR)),(140,I (vs.length:Nat)),(141,I (i:Nat))] bc/\H'=(Rx Hl [I ((mb:Nat):Int),S (nV b),.slice M2 vs.length Hi,.slice M3 vs.length Hj,S al] 46::((Hn++Hv)++(Rx fb (qk r (.slice pad vs.length mR)++spare) 50::Ha)))) vs.length
  ⟨0,by omega,.of rfl,rfl⟩ ?_
 rintro N bc H' ⟨i,hi,mJ,rfl⟩ ih;refine gN mJ ?_;clear mJ;refine gz<|gD<|gA (ik rfl rfl)<|gC<|gz<|gS rfl (fun aiF=>?_) (fun aiF=>?_)
 ·refine gL<|gz<|gW<|gz ?_;have oO:i<vs.length:=by omega
  obtain⟨x,hx⟩:=gx oO;obtain⟨k,u⟩:=x;obtain⟨pb,Jb,R5,e1,rfl⟩:=ho.at oO;cases e1;obtain⟨nb,akj,R6,e2,rfl⟩:=Y0.at oO;cases e2;obtain⟨ub,akk,R7,e3,rfl⟩:=Mh.at oO;cases e3;refine gD<|gB<|gA (ij (i:=i) cY ee rfl rfl oO)<|gA (ja (cs:=[S k,S u]) Tryd.isAgg52 ee rfl (.tail _ (au _ (.tail _ (.head _)))) (Vn hx R5) rfl)<|iK Tryd.zeroValue52 rfl rfl (fun xb zJ=>?_);refine gF<|iO (cs:=[S k,S u]) ee rfl rfl (by simp[Value.oneCell']) .z rfl<|gC<|gz<|jM (HF w (fun _=>False) (Rx xb [S k,S u] 52::(Rx Hl [I ((mb:Nat):Int),S (nV b),Sx nb vs.length Hi,Sx ub vs.length Hj,S al] 46::(([Rx nb ((vs.map (·.1)).map S++R6) 9]++[Rx ub ((vs.map (·.2)).map S++R7) 9])++(Rx fb (qk r (Sx pb vs.length mR)++spare) 50::[Rx pb (nJ vs++R5) 52]))))) mixed<|im 0 rfl (fun _ h=>h) (gQ Jh rfl)<|jE 1 rfl (fun _ h=>h) bF rfl (fun w1 h1=>oQ h1 (.tail _ (.head _)) rfl)<|im 2 rfl (fun _ h=>h) (gM rfl)<|im 3 rfl (fun _ h=>h) (ij (i:=i) aE ah rfl rfl oO)<|jE 4 rfl (fun _ h=>h) ag rfl (fun w1 h1=>oQ h1 (m2 (.head _)) (YU (f:=fun x=>x.1) hx R6))<|im 5 rfl (fun _ h=>h) (gQ aio rfl)<|jE 6 rfl (fun _ h=>h) ag rfl (fun w1 h1=>oQ h1 (.head _) rfl)<|im 7 rfl (fun _ h=>h) (Nh rfl (jy rfl rfl))<|im 8 rfl (fun _ h=>h) (gM rfl)<|iY 9 rfl (fun _ h=>h) (gQ EA rfl)<|jI 10 rfl (fun _ h=>h) bF rfl (fun w1 h1=>oQ h1 (.tail _ (.head _)) rfl)<|iY 11 rfl (fun _ h=>h) (gM rfl)<|iY 12 rfl (fun _ h=>h) (ij (i:=i) aE ah rfl rfl oO)<|jI 13 rfl (fun _ h=>h) ag rfl (fun w1 h1=>oQ h1 (m3 (.head _)) (YU (f:=fun x=>x.2) hx R7))<|iY 14 rfl (fun _ h=>h) (gQ aip rfl)<|jI 15 rfl (fun _ h=>h) ag rfl (fun w1 h1=>oQ h1 (.head _) rfl)<|iY 16 rfl (fun _ h=>h) (Nh rfl (jy rfl rfl))<|im 17 rfl (fun _ h=>h) (iD rfl rfl)<|jz (by kernel_rfl)<|gV rfl (fun Y2=>absurd Y2 (by decide)) (fun Y2=>?_);exact gL<|il<|gD<|gA (iy i (by omega))<|gB<|gC<|hO (H':=(Rx Hl [I ((mb:Nat):Int),S (nV b),Sx nb vs.length Hi,Sx ub vs.length Hj,S al] 46::(([Rx nb ((vs.map (·.1)).map S++R6) 9]++[Rx ub ((vs.map (·.2)).map S++R7) 9])++(Rx fb (qk r (Sx pb vs.length mR)++spare) 50::[Rx pb (nJ vs++R5) 52])))) (fun w1 h1=>h1.sub (ai _ _))<|ih (N-1) _ _ (by omega) ⟨i+1,by omega,.of rfl,rfl⟩
 exact ir rfl<|gz<|gD<|gF<|gC<|ic rfl rfl fun w' ia=>⟨rfl,ia.sub (ar _)⟩
end Go.Proofs
