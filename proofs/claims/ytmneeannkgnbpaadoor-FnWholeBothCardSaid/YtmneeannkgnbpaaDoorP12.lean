/- Lemmas of the walk and plain facts (GuK4 .. JgG2). -/
import Derived.Test.YtmneeannkgnbpaaDoorL1
import Derived.Test.YtmneeannkgnbpaaDoorL2
import Derived.Test.YtmneeannkgnbpaaDoorP06
import Derived.Test.YtmneeannkgnbpaaDoorP01
import Derived.Test.YtmneeannkgnbpaaDoorP11
import Derived.Laws.CopyRow
import Derived.Laws.MakeOwn
set_option maxRecDepth 20000
namespace Bw
open Go Go.Proofs
variable {P:Program} {c:Cx} {n:Nat} {k:List Item} {fr:SF} {H:SH} {ops:Array Oper} {rest:List Oper} {ty t:TypeId} {pos:String} {mG:Array Edge}
theorem mj {T U e:TypeId} {i:TypeInfo} {z:Value} {x y:Operand} {d:Nat} {s:List UInt8} (hT:P.underlying T=some (.slice e)) (hU:P.underlying U=some .string) (hi:P.info? e=some i) (hz:i.zero=some z) (xR:z.cells.size=1) (sd:i.bytes=1) (ajr:i.size=1)
  (hx:ev fr x=some (.slice none 0 0)) (hy:ev fr y=some (S s)) (hl:s.length<=1000000000) (hd:Nat.blt d n=true)
  (hk:∀sv Hs,Own e 1 sv s.length (bC s) Hs->G P c n k ops rest ((d,sv)::fr) (H++Hs)):
  G P c n k ops (⟨some d,.call ⟨.builtin .append, #[x,y], #[T,U]⟩,ty,pos,mG,none⟩::rest) fr H:=by
 intro hf a w ha hw;refine wpList_step fun K hK=>?_
 simp only[Region.wanted,if_true,Oper.wp];have rM:(⟨s.toArray⟩:ByteArray).size =s.length:=eY
 have hex:∀v w',(Builtin.append_ #[T,U] ty #[.slice none 0 0,S s]).run P w=.ok v w'->(execOp a.eval ⟨some d,.call ⟨.builtin .append, #[x,y], #[T,U]⟩,ty,pos,mG,none⟩).run P w=.ok (.value v) w':=by
  intro v w' hr;simp[execOp,resolve,invoke,builtin,ha.eval hx,ha.eval hy,hr]
 by_cases h0:s=[]
 ·subst h0
  have hr:(Builtin.append_ #[T,U] ty #[.slice none 0 0,S []]).run P w=.ok (.slice none 0 0) w:=by
   change (Builtin.append_ #[T,U] ty #[.slice none 0 0,.string ByteArray.empty]).run P w=_;simp[Builtin.append_,run_underlying hT,run_underlying hU,Go.sizeOf,typeInfo,zeroValue,hi,hz,Builtin.lenOf,Builtin.firstCells]
  rw[hex _ _ hr];simp only[Oper.upon];refine hK _ _ ((hk (.slice none 0 0) [] (by simpa[bC,Lib.byteCells] using Own.nil)) hf _ _ (ha.put hd _) ?_);rw[aS];exact hw
 have hp:0<s.length:=aU.2 h0;have hr:=run_append_nil_string (P:=P) (w:=w) T U ty e i z hT hU hi hz ⟨s.toArray⟩ (by rw[rM];exact hp) (by rw[rM];omega) (by rw[rM,sd];omega);rw[rM] at hr;rw[hex _ _ hr];simp only[Oper.upon];have qZ:=((hw.drew (w.drawn+1)).push (.row (bC s++(Builtin.zeroCells z.cells (grownCap w s.length 0 e-s.length)).toList) e (0,0)));refine hK _ _ ((hk (Sx w.heap.size s.length (grownCap w s.length 0 e)) [Rx w.heap.size (bC s++(Builtin.zeroCells z.cells (grownCap w s.length 0 e-s.length)).toList) e] ?_) hf _ _ (ha.put hd _) (HF.perm ?_ (cO _ _).symm))
 ·have hle:s.length<=grownCap w s.length 0 e:=grownCap_ge w s.length 0 e;refine .row (by simp[bC,Lib.byteCells]) ?_ hle;simp[HI,xR,bC,Lib.byteCells];omega
 have e3:(bC s++(Builtin.zeroCells z.cells (grownCap w s.length 0 e-s.length)).toList).toArray =s.toArray.map (fun b=>Value.int .u8 b.toNat)++Builtin.zeroCells z.cells (grownCap w s.length 0 e-s.length):=by
  apply Array.ext';simp[bC,Lib.byteCells]
 simp only[oe.den,e3] at qZ;exact qZ
theorem lf {src dst e:TypeId} {x:Operand} {l:List UInt8} {sv:Value} {Hs:SH} {m:Nat} (hs:P.underlying src=some (.slice e)) (he:P.underlying e=some (.int .u8)) (hd:P.underlying dst=some .string) (hx:ev fr x=some sv) (ho:Own e 1 sv m (bC l) Hs) (mU:∀x∈Hs,x∈H):nB P c n (.convert src dst x) ty fr H (S l):=by
 generalize Ej:bC l=xs at ho
 cases ho with
 |nil=>
  have hl:l=[]:=by cases l with|nil=>rfl|cons a r=>simp[bC,Lib.byteCells] at Ej
  subst hl;intro a w ha hw ds pos mG g;have h:=run_convert_bytes_nil (P:=P) w src e hs he 0 0 dst hd;simp[execOp,ha.eval hx,h]
  rfl
 | @row b m cap xs spare hn hc hle=>
  subst Ej;have py:l.length=m:=by simpa[bC,Lib.byteCells] using hn
  have hm:=mU _ (.head _);intro a w ha hw ds pos mG g
  have vI:∀i,i<m->w.cell? ⟨b,0+i,none⟩=some (.int .u8 ((l.map fun x=>(x.toNat:Int)).getD i 0)):=fun i hi=>by
   refine oQ hw hm ?_;have oO:i<l.length:=by omega
   rw[n8,aH,ak (by simp[bC,Lib.byteCells];exact oO)];simp only[bC,Lib.byteCells,aD,ao oO,dm,di,dO]
  have h:=run_convert_bytes_arg (P:=P) w src e hs he b 0 m cap (l.map fun x=>(x.toNat:Int)) (by simp;exact py) vI dst hd
  have e2:strOfNums (l.map fun x=>(x.toNat:Int))=⟨l.toArray⟩:=by
   have h0:((fun n:Int=>UInt8.ofNat n.toNat)∘fun x:UInt8=>(x.toNat:Int))=id:=by
    funext x;simp
   simp[strOfNums,gp,h0]
  rw[e2] at h;simp[execOp,ha.eval hx,h]
end Bw
namespace Go.Proofs
open Go Bw Gt
theorem Oh (w:World) (s p q:List UInt8) (hs:s.length<=1000000000) (hp:p.length<=1000) (oT:p.head? =some 92) (oE:∀c∈s,c≠92):Calls Tryd.prog 60 #[S s,S p,S q] w fun e w'=>e=.returned (S s)/\HF w (fun _=>False) [] w':=by
 refine enter (fun _=>False) [] Tryd.func60 rfl Tryd.ntmps60 rfl rfl (HF.start w _) fun c hc=>?_
 subst hc
 obtain⟨p,rfl⟩:∃p',p=92::p':=by
  cases p with
  |nil=>cases oT
  |cons a p=>simp at oT;exact⟨p,by rw[oT]⟩
 have vM:∀r,DZ s (92::p) r->r= -1:=fun r hr=>by
  rcases hr with⟨h,_⟩|⟨i,_,_,h,_⟩
  ·exact h
  have:(92:UInt8)∈(s.take (i+(92::p).length)).drop i:=by rw[h];exact .head _
  exact absurd rfl (oE 92 (dY (dB this)))
 refine gz<|gD ?_;refine gF<|gC ?_;refine gz<|gD ?_;refine gF<|gC ?_;refine gz<|gz ?_;refine gD<|gB ?_;refine gA (ig aa rfl)<|gA (ie rfl rfl) ?_;refine gC<|gS rfl (fun wB=>absurd wB (by simp;omega)) (fun wB=>?_);refine gL<|gW ?_;refine jw<|gW ?_;refine gz<|gD ?_;refine gB<|gB ?_;refine iw (v:=I (-1)) Tryd.call75 rfl rfl (fun w1 fa=>(Ny w1 s (92::p) (by omega) (by omega)).mono fun e w' ⟨r,h1,h2,h3⟩=>⟨by rw[h2,vM r h1],h3⟩)<|gF ?_;refine gC<|gz ?_;refine gz<|gD ?_;refine gB<|gA (ik rfl rfl) ?_;refine gC<|gS rfl (fun CZ=>?_) (fun CZ=>absurd CZ (by decide));refine gz<|gD ?_;refine gB<|gB<|mj (i:=Tryd.t5) aL aa rfl rfl rfl rfl rfl rfl rfl hs rfl (fun sv Hs nx=>?_);refine gA (lf aL bT aa rfl nx (by simp))<|gF ?_;exact gC<|ic rfl rfl fun w' ia=>⟨rfl,ia.sub (ar _)⟩
theorem abz (w:World) (D:Nat->Prop) {path idx full:List UInt8} {mm:Bool} {nt pr:Nat} {h:Option Nat} {kids:List T0} {nb:Nat} {bs:List Nat} {kv hv:Value} {Hs Hh Hk:SH} (hs:Own 84 1 kv kids.length (bs.map (Pt · 0)) Hs) (hh:HV h hv Hh) (hk:oq kids bs Hk)
  (mM:path.length<=100000) (oO:idx.length<=100000) (qv:full.length<=100000) (hp:∀c∈path,c≠92) (hi:∀c∈idx,c≠92) (hf:∀c∈full,c≠92) (oX:kids.length<=100000)
  (ih:∀(j:Nat) k b H w1 D1,kids[j]? =some k->HT k b H->HF w1 D1 H w1->Calls Tryd.prog 45 #[Pt b 0] w1 fun e w'=>e=.returned (.tuple #[])/\∃H',HT k b H'/\HF w1 D1 H' w')
  (hH:HF w D (Rx nb (mu path idx mm nt pr kv hv full) 115::(Hs++(Hh++Hk))) w):Calls Tryd.prog 45 #[Pt nb 0] w fun e w'=>e=.returned (.tuple #[])/\∃H',HT (.node () path idx mm nt pr h full kids) nb H'/\HF w D H' w':=by
 refine enter D (Rx nb (mu path idx mm nt pr kv hv full) 115::(Hs++(Hh++Hk))) Tryd.func45 rfl Tryd.ntmps45 rfl rfl hH fun c hc=>?_
 subst hc;obtain⟨ad,cap,rfl⟩:=hs.slice;have rh:=hk.len;refine gz<|gD<|gB<|gB<|gJ rfl<|gH pU rfl<|gA (gG ag rfl (.head _) rfl)<|iw Tryd.call60 rfl rfl (fun w1 fa=>Oh w1 path _ _ (by omega) (by simp) rfl hp)<|gJ rfl<|gH pU rfl<|gO ah rfl rfl rfl (.z) rfl rfl<|gC<|hO (H':=Rx nb (mu path idx mm nt pr (.slice ad kids.length cap) hv full) 115::(Hs++(Hh++Hk))) (fun w1 h1=>?_) ?_
 ·exact h1
 refine gz<|gD<|gB<|gB<|gJ rfl<|gH Aq rfl<|gA (gG ag rfl (.head _) rfl)<|iw Tryd.call60 rfl rfl (fun w1 fa=>Oh w1 full _ _ (by omega) (by simp) rfl hf)<|gJ rfl<|gH Aq rfl<|gO ah rfl rfl rfl (.z) rfl rfl<|gC<|hO (H':=Rx nb (mu path idx mm nt pr (.slice ad kids.length cap) hv full) 115::(Hs++(Hh++Hk))) (fun w1 h1=>?_) ?_
 ·exact h1
 refine gz<|gD<|gB<|gB<|gJ rfl<|gH sP rfl<|gA (gG ag rfl (.head _) rfl)<|iw Tryd.call60 rfl rfl (fun w1 fa=>Oh w1 idx _ _ (by omega) (by simp) rfl hi)<|gJ rfl<|gH sP rfl<|gO ah rfl rfl rfl (.z) rfl rfl<|gC<|hO (H':=Rx nb (mu path idx mm nt pr (.slice ad kids.length cap) hv full) 115::(Hs++(Hh++Hk))) (fun w1 h1=>?_) ?_
 ·exact h1
 refine gz<|gD<|gB<|gJ rfl<|gH p5 rfl<|gA (gG bj rfl (.head _) rfl)<|gA (iu az rfl)<|gB<|gC<|gW ?_
 refine iC (fun N bc H'=>∃j qE,j+N=kids.length/\oq kids bs qE/\Sub [(31,.slice ad kids.length cap),(32,I (kids.length:Nat)),(33,I (j:Nat))] bc/\H'=(Rx nb (mu path idx mm nt pr (.slice ad kids.length cap) hv full) 115)::(Hs++(Hh++qE))) kids.length
  ⟨0,Hk,by omega,hk,.of rfl,rfl⟩ ?_
 rintro N bc H' ⟨j,qE,hj,p6,mJ,rfl⟩ qz;refine gN mJ ?_;clear mJ;refine gz<|gD<|gA (ik rfl rfl)<|gC<|gz<|gS rfl (fun qF=>?_) (fun qF=>?_)
 ·refine gL<|gz<|gW<|gz ?_;have oC:j<kids.length:=by omega
  obtain⟨k,nZ⟩:=gx oC;obtain⟨b,C1,C2,hb,AB,sO,Au⟩:=p6.As nZ;obtain⟨rb,xu,spare,e1,rfl⟩:=hs.at oC;cases e1;refine gD<|gA (ij (i:=j) az bi rfl rfl oC)<|gA (gG bK rfl (.tail _ (.head _)) (by rw[n8,aH,aT,ak (by rw[aQ,rh];exact oC),aD,hb];rfl)) ?_;refine gF<|gC<|gD<|gB<|jo (H1:=C1) (Hk:=Rx nb (mu path idx mm nt pr (Sx rb kids.length cap) hv full) 115::([Rx rb (bs.map (Pt · 0)++spare) 84]++(Hh++C2))) (fun v ni=>v=.tuple #[]/\HT k b ni) ?_ (fun e0 mL=>AB.w e0 mL) Tryd.call45 rfl rfl (fun w1 fa _=>?_) ?_
  ·refine List.Perm.trans (((sO.append_left Hh).append_left [Rx rb (bs.map (Pt · 0)++spare) 84]).cons (Rx nb (mu path idx mm nt pr (Sx rb kids.length cap) hv full) 115)) ?_;have p1:=oN [[Rx nb (mu path idx mm nt pr (Sx rb kids.length cap) hv full) 115],[Rx rb (bs.map (Pt · 0)++spare) 84],Hh,C1,C2] [0,1,2,3,4] [3,0,1,2,4] (by decide);simpa using p1
  ·exact(ih j k b C1 w1 _ nZ AB fa).mono fun e w' ⟨h1,H',h2,h3⟩=>⟨_,H',h1,h2.w,h3,rfl,h2⟩
  rintro v ni ⟨rfl,abA⟩;obtain⟨uN,ow,qZ⟩:=Au k ni abA;refine gC<|il<|gD<|gA (iy j (by omega))<|gB<|gC ?_
  have abB:kids.set j k=kids:=by
   apply c9;intro i;rw[dk];by_cases e:j=i
   ·subst e;rw[if_pos rfl,if_pos oC,nZ]
   rw[if_neg e]
  rw[abB] at ow;refine hO (H':=Rx nb (mu path idx mm nt pr (Sx rb kids.length cap) hv full) 115::([Rx rb (bs.map (Pt · 0)++spare) 84]++(Hh++uN))) (fun w1 h1=>h1.perm ?_) (qz (N-1) _ _ (by omega) ⟨j+1,uN,by omega,ow,.of rfl,rfl⟩);refine List.Perm.trans ?_ ((((qZ.symm).append_left Hh).append_left [Rx rb (bs.map (Pt · 0)++spare) 84]).cons (Rx nb (mu path idx mm nt pr (Sx rb kids.length cap) hv full) 115));have p1:=oN [[Rx nb (mu path idx mm nt pr (Sx rb kids.length cap) hv full) 115],[Rx rb (bs.map (Pt · 0)++spare) 84],Hh,ni,C2] [0,1,2,3,4] [3,0,1,2,4] (by decide);simpa using p1.symm
 exact ir rfl<|jq rfl fun w' ia=>⟨rfl,_,HT.mk hs hh p6,ia⟩
inductive Ln:T0->Prop
 |mk {path idx:List UInt8} {mm:Bool} {nt pr:Nat} {h:Option Nat} {full:List UInt8} {kids:List T0} (hp:path.length<=100000) (hi:idx.length<=100000) (hf:full.length<=100000) (hn:kids.length<=100000) (hk:∀k∈kids,Ln k):Ln (.node () path idx mm nt pr h full kids)
theorem UC {idx:List UInt8} {mm:Bool} (h:idx.Nodup):idx.length+mm.toNat<=100000/\idx.length<=100000:=by
 have:=Us h;cases mm<;>simp<;>omega
theorem oG.ln {t:T0} (hn:NB t):∀(b:Bool) (f:F),oG b t f->Ln t:=by
 induction hn with
 | @mk path idx mm nt pr h full kids hp hi hf hk ih=>
  intro b f hr;have l1:=hp.1;have l2:=hf.1
  cases hr with
  |st wn wk qZ oy nG hh nj mM hlen ow oX mW nN hw wu qw hA q5=>
   refine .mk (by omega) (UC (mm:=true) nj).2 (by omega) (by rw[hlen];exact(UC nj).1) fun k xQ=>?_
   obtain⟨j,hj⟩:=bY xQ;have oC:=(ae.1 hj).1;rcases cn j idx.length with h|h
   ·exact ih k xQ _ _ (ow j _ k (ao h) hj)
   cases mm with
   |false=>simp at hlen;omega
   |true=>
    simp at hlen;have e:j=idx.length:=by omega
    subst e;rw[(hw rfl).1] at hj;cases hj
    exact ih _ xQ _ _ (wu rfl)
  |pa=>exact .mk (by omega) (by simp) (by omega) (by simp) (by simp)
  |pk hh vM ow=>
   refine .mk (by omega) (by rcases vM with rfl|rfl<;>simp) (by omega) (by simp) fun k xQ=>?_
   rw[aj.1 xQ]
   exact ih _ (.head _) _ _ ow
  |ca=>
   refine .mk (by simp) (by simp) (by omega) (by simp) fun k xQ=>?_
   rw[aj.1 xQ]
   cases hk _ (.head _) with
   |mk c1 c2 c3 c4=>
    have l3:=c1.1;have l4:=c3.1;exact .mk (by omega) (by simp) (by omega) (by simp) (by simp)
theorem Ln.of {t:T0} {f:F} (pz:TS t f) (hn:NB t):Ln t:=by
 rcases pz with⟨rfl,_⟩|⟨h,_⟩
 ·exact .mk (by simp) (by simp) (by simp) (by simp) (by simp)
 exact oG.ln hn _ _ h
theorem abC:∀{t:T0},Ln t->NB t->∀(b:Nat) (H:SH) (w:World) (D:Nat->Prop),HT t b H->HF w D H w->Calls Tryd.prog 45 #[Pt b 0] w fun e w'=>e=.returned (.tuple #[])/\∃H',HT t b H'/\HF w D H' w':=by
 intro t hl
 induction hl with
 |mk hp hi hf hn hk ih=>
  intro ti b H w D ht hH
  cases ti with
  |mk a1 a2 a3 a4=>
  cases ht with
  |mk hs hh ow=>
  exact abz w D hs hh ow hp hi hf a1.2 a2 a3.2 hn (fun j k b H w1 D1 hj NC fa=>ih k (ap hj) (a4 k (ap hj)) b H w1 D1 NC fa) hH
theorem Oi (w:World) (D:Nat->Prop) {t:T0} {tb nb m s:Nat} {Hn:SH} (hl:Ln t) (ti:NB t) (ht:HT t nb Hn) (hH:HF w D (Rx tb (nw nb m s) 87::Hn) w):Calls Tryd.prog 30 #[Pt tb 0] w fun e w'=>e=.returned (.tuple #[])/\∃nC,HT t nb nC/\HF w D (Rx tb (nw nb m s) 87::nC) w':=by
 refine enter D (Rx tb (nw nb m s) 87::Hn) Tryd.func30 rfl Tryd.ntmps30 rfl rfl hH fun c hc=>?_
 subst hc;refine gD<|gB<|gJ rfl<|gH Nq rfl<|gA (gG bK rfl (.head _) rfl)<|jo (H1:=Hn) (Hk:=[Rx tb (nw nb m s) 87]) (fun v ni=>v=.tuple #[]/\HT t nb ni) (aF (l₁:=([Rx tb (nw nb m s) 87]:SH))) (fun e0 mL=>ht.w e0 mL) Tryd.call45 rfl rfl (fun w1 fa _=>(abC hl ti nb Hn w1 _ ht fa).mono fun e w' ⟨h1,H',h2,h3⟩=>⟨_,H',h1,h2.w,h3,rfl,h2⟩) ?_;rintro v ni ⟨rfl,Ei⟩;exact gC<|jq rfl fun w' ia=>⟨rfl,ni,Ei,ia.perm (aF (l₂:=([Rx tb (nw nb m s) 87]:SH)))⟩
end Go.Proofs
namespace Bw
open Go Go.Proofs
variable {P:Program} {c:Cx} {n:Nat} {k:List Item} {fr:SF} {H:SH} {ops:Array Oper} {rest:List Oper} {ty t:TypeId} {pos:String} {mG:Array Edge}
theorem jv {b s t:Nat} {T T2:TypeId} {fz:Nat×Nat} {wf:Bool} {cs:List Value} (hr:c.fn.results= #[.cell t T]) (hA:∀w,(isAgg T).run P w=.ok true w) (hs:∀w,(Go.sizeOf T).run P w=.ok s w)
  (hv:Bw.look t fr=some (Pt b 0)) (hm:⟨b,wf,.row cs T2 fz⟩∈H) (hl:cs.length=s) (hR:∀w,HF c.w0 c.D H w->c.R (.returned (.agg cs.toArray)) w):GC P c n (.code .ret ::k) fr H:=by
 refine kf (fun a w ha hw=>?_) hR
 have hc:∀j v,cs[j]? =some v->w.cell? ((⟨b,0,none⟩:Addr).add j)=some v:=by
  intro j v hj;have h2:=oQ hw hm (off:=j) (v:=v) (by rw[n8];exact hj);by_cases h0:j=0
  ·subst h0;simpa[Addr.add] using h2
  simpa[Addr.add,h0] using h2
 have vd:=run_loadCells_list (P:=P) (w:=w) ⟨b,0,none⟩ cs hc;have h1:=ha.at_ t _ hv;simp[results,hr,h1,loadVar,hA,hs,<-hl,vd,asAddr]
def vu (l:List Value) (off:Nat) (cs:List Value):List Value:=l.take off++cs++l.drop (off+cs.length)
theorem Oj (l:List Value) (off:Nat) (cs:List Value) (h:off+cs.length<=l.length):(vu l off cs).length =l.length:=by simp[vu];omega
theorem kO {x y:Operand} {b off i:Nat} {l cs:List Value} {T:TypeId} (hs:∀w,(Go.sizeOf t).run P w=.ok cs.length w) (hx:ev fr x=some (Pt b off)) (hy:ev fr y=some (.agg cs.toArray)) (h1:∀v∈cs,v.oneCell'=true)
  (hi:At i (Rx b l T) H) (hl:off+cs.length<=l.length) (hk:G P c n k ops rest fr (sV (.row (vu l off cs) T (0,0)) i H)):G P c n k ops (⟨none,.store t x y,ty,pos,mG,none⟩::rest) fr H:=by
 refine kg (fun a w ha hw=>⟨w.setRow b (vu l off cs).toArray,?_,hw.setRow hi⟩) hk;have hb:=hw.has _ hi.mem;simp only[oe.den] at hb;have hr:=run_storeCells_at (P:=P) b off T cs 0 l.toArray w hb (by simpa using hl) h1;simp only[Nat.add_zero] at hr;have e:(l.toArray.toList.take off++cs++l.toArray.toList.drop (off+cs.length)).toArray =(vu l off cs).toArray :=by simp[vu]
 rw[e] at hr;simp[execOp,ha.eval hx,ha.eval hy,Instr.storeAt,Instr.sureAddr,storeVar,hs,Value.cells,hr]
theorem lh {T e s qg:Nat} {i:TypeInfo} {zv:Value} {x y:Operand} {d:Nat} {kl kc:IntKind} {l z:Nat} (hT:P.underlying T=some (.slice e)) (hi:P.info? e=some i) (hz:i.zero=some zv) (rM:i.size=s) (zo:i.bytes=qg)
  (hx:ev fr x=some (.int kl (l:Int))) (hy:ev fr y=some (.int kc (z:Int))) (hl:l<=z) (r9:qg*z<=281474976710656) (xo:z<=9223372036854775807) (hd:Nat.blt d n=true)
  (hk:∀b row,c.w0.heap.size<=b->row.length=z*s->G P c n k ops rest ((d,Sx b l z)::fr) (Rx b row e::H)):
  G P c n k ops (⟨some d,.makeSlice T x y,ty,pos,mG,none⟩::rest) fr H:=by
 intro hf a w ha hw;subst rM zo;refine wpList_step fun K hK=>?_
 simp only[Region.wanted,if_true,Oper.wp];have hr:=run_make (P:=P) w T e i zv hT hi hz kl kc (l:Int) (z:Int) (by omega) (by omega) (by rw[<-Int.natCast_mul];omega) (by omega);rw[Int.toNat_natCast,Int.toNat_natCast] at hr
 have hex:(execOp a.eval ⟨some d,.makeSlice T x y,ty,pos,mG,none⟩).run P w=.ok (.value (Sx w.heap.size l z)) (w.alloc (.cells (madeCells zv.cells (z*i.size)) e)):=by
  simp only[execOp,ha.eval hx,ha.eval hy,Sem.run_bind];rw[hr];rfl
 rw[hex];simp only[Oper.upon];have hp:=hw.push (.row (madeCells zv.cells (z*i.size)).toList e (0,0));exact hK _ _ (hk w.heap.size (madeCells zv.cells (z*i.size)).toList hw.size (by simp[madeCells]) hf _ _ (ha.put hd _) hp)
end Bw
namespace Gt
open Gs Tr
def vV (c:UInt8):Option Nat:=if 48<=c.toNat/\c.toNat<=57 then some (c.toNat-48) else if 97<=c.toNat/\c.toNat<=102 then some (c.toNat-87) else if 65<=c.toNat/\c.toNat<=70 then some (c.toNat-55) else none
def Bz:Nat->List UInt8->List UInt8->Option (List UInt8)
 |0,_,_=>none
 |_+1,[],out=>some out
 |g+1,c::s,out=>
  if c=43 then Bz g s (out++[32])
  else if c≠37 then Bz g s (out++[c])
  else match s with
   |a::b::s=>match vV a,vV b with
    |some x,some y=>Bz g s (out++[UInt8.ofNat (x*16+y)])
    |_,_=>none
   |_=>none
def o6 (un:Bool) (v:List UInt8):List UInt8:=if un then(Bz (v.length+1) v []).getD v else v
def wC (path:List UInt8) (n:Nat):List Sk->Option (Option (Sk×List Sk))
 |[]=>some none
 |s::l=>if path<:+s.path/\s.ny<=n then some (some (s,l)) else none
def n7 (u:List UInt8->List UInt8) (cP cS:Nat):Nat->T0->List UInt8->List (List UInt8×List UInt8)->List Sk->Option n6
 |0,_,_,_,_=>none
 |f+1,n,path,ps,sk=>
  if n.path.length<path.length/\path.take n.path.length=n.path then
   match idxOf ((path.drop n.path.length).headD 0) n.idx with
   |some i=>
    match n.kids[i]? with
    |some k=>if n.mm then(if sk.length<cS then n7 u cP cS f k (path.drop n.path.length) ps (⟨path,Bl n,ps.length⟩::sk) else none) else n7 u cP cS f k (path.drop n.path.length) ps sk
    |none=>none
   |none=>
    if n.mm=false then
     match (if path.drop n.path.length≠[47] then wC (path.drop n.path.length) ps.length sk else some none) with
     |some (some (s,IN))=>n7 u cP cS f s.node s.path (ps.take s.ny) IN
     |some none=>some ⟨none,ps,decide (path.drop n.path.length=[47])&&n.h.isSome,[]⟩
     |none=>none
    else match n.kids[n.kids.length-1]? with
    |none=>none
    |some k=>
     if¬ps.length<cP\/k.path.length<2 then none
     else if k.nt=2 then
      if ((path.drop n.path.length).takeWhile (· ≠47)).length <(path.drop n.path.length).length then
       match k.kids with
       |c::_=>n7 u cP cS f c ((path.drop n.path.length).drop ((path.drop n.path.length).takeWhile (· ≠47)).length) (ps++[(k.path.drop 1,u ((path.drop n.path.length).takeWhile (· ≠47)))]) sk
       |[]=>some ⟨none,ps++[(k.path.drop 1,u ((path.drop n.path.length).takeWhile (· ≠47)))],decide ((path.drop n.path.length).length =((path.drop n.path.length).takeWhile (· ≠47)).length +1),[]⟩
      else if k.h.isSome then some ⟨k.h,ps++[(k.path.drop 1,u ((path.drop n.path.length).takeWhile (· ≠47)))],false,k.full⟩
      else match k.kids with
      |[c]=>some ⟨none,ps++[(k.path.drop 1,u ((path.drop n.path.length).takeWhile (· ≠47)))],(decide (c.path=[47])&&c.h.isSome)||(decide (c.path=[])&&decide (c.idx=[47])),[]⟩
      |_=>some ⟨none,ps++[(k.path.drop 1,u ((path.drop n.path.length).takeWhile (· ≠47)))],false,[]⟩
     else if k.nt=3 then some ⟨k.h,ps++[(k.path.drop 2,u (path.drop n.path.length))],false,k.full⟩
     else none
  else if path=n.path then
   match (if n.h.isNone/\path≠[47] then wC path ps.length sk else some none) with
   |some (some (s,IN))=>n7 u cP cS f s.node s.path (ps.take s.ny) IN
   |none=>none
   |some none=>
    if n.h.isSome then some ⟨n.h,ps,false,n.full⟩
    else if path=[47]/\n.mm=true/\n.nt≠1 then some ⟨none,ps,true,[]⟩
    else if path=[47]/\n.nt=0 then some ⟨none,ps,true,[]⟩
    else match idxOf 47 n.idx with
    |some i=>
     match n.kids[i]? with
     |some k=>(if k.nt=3/\k.kids=[] then none else some ⟨none,ps,(decide (k.path.length=1)&&k.h.isSome)||(decide (k.nt=3)&&((k.kids.head?).map (·.h.isSome)).getD false),[]⟩)
     |none=>none
    |none=>some ⟨none,ps,false,[]⟩
  else
   match (if (decide (path=[47])||(decide (n.path=path++[47])&&n.h.isSome))=false then wC path ps.length sk else some none) with
   |some (some (s,IN))=>n7 u cP cS f s.node s.path (ps.take s.ny) IN
   |some none=>some ⟨none,ps,decide (path=[47])||(decide (n.path=path++[47])&&n.h.isSome),[]⟩
   |none=>none
end Gt
namespace Go.Proofs
open Go Bw Gt
theorem abD (w:World) (s p:List UInt8) (_hs:s.length<=1000000000000) (_hp:p.length<=1000000000000):Calls Tryd.prog 40 #[S s,S p] w fun e w'=>e=.returned (.bool (decide (p<+:s)))/\HF w (fun _=>False) [] w':=by
 refine enter (fun _=>False) [] Tryd.func40 rfl Tryd.ntmps40 rfl rfl (HF.start w _) fun c hc=>?_
 subst hc;refine gz<|gD<|gF<|gC<|gz<|hY (fun bc H'=>Sub [(4,.bool (decide (p<+:s)))] bc/\H'=[]) (fun J1=>?_) ?_
 ·refine gD<|gB<|gA (ig aa rfl)<|gB<|gA (ig aa rfl)<|gA (jJ rfl rfl)<|gB<|gZ 10 rfl (fun oF=>?_) (fun oF=>?_)
  ·refine gU<|gU<|gI (ig aa rfl) ?_;have hle:p.length<=s.length:=by have:=of_decide_eq_true oF;omega
   refine gI (jm (j:=p.length) aa rfl rfl hle)<|gU<|gI (iE rfl rfl)<|gT<|gF<|gC<|J1 _ _ ⟨?_,rfl⟩;have e:decide (s.take p.length=p)=decide (p<+:s):=decide_eq_decide.2 ⟨fun h=>by rw[cZ];exact h.symm,fun h=>(cZ.1 h).symm⟩;rw[e];exact .cons rfl .nil
  refine gE ?_;refine gE ?_;refine gE ?_;refine gE ?_;refine gE ?_;refine gE ?_;refine hG ?_;refine gF ?_;refine gC ?_;refine J1 _ _ ⟨?_,rfl⟩;have e:decide (p<+:s)=false:=decide_eq_false fun h=>by have:=h.length_le;have h2:=of_decide_eq_false oF;omega
  rw[e];exact .cons rfl .nil
 rintro bc H' ⟨px,rfl⟩;refine gN px ?_;clear px;exact ic rfl rfl fun w' ia=>⟨rfl,ia⟩
theorem abE (w:World) (s p:List UInt8) (hs:s.length<=1000000000000) (hp:p.length<=1000000000000):Calls Tryd.prog 68 #[S s,S p] w fun e w'=>e=.returned (.bool (decide (p<:+s)))/\HF w (fun _=>False) [] w':=by
 refine enter (fun _=>False) [] Tryd.func68 rfl Tryd.ntmps68 rfl rfl (HF.start w _) fun c hc=>?_
 subst hc;refine gz<|gD<|gF<|gC<|gz<|hY (fun bc H'=>Sub [(4,.bool (decide (p<:+s)))] bc/\H'=[]) (fun J1=>?_) ?_
 ·refine gD<|gB<|gA (ig aa rfl)<|gB<|gA (ig aa rfl)<|gA (jJ rfl rfl)<|gB<|gZ 10 rfl (fun oF=>?_) (fun oF=>?_)
  ·refine gU<|gU<|gI (ig aa rfl)<|gU<|gI (ig aa rfl) ?_;have hle:p.length<=s.length:=by have:=of_decide_eq_true oF;omega
   refine gI (iM (r:=((s.length-p.length:Nat):Int)) rfl rfl (by omega) (by omega) (by omega))<|gI (iX (i:=s.length-p.length) aa rfl rfl (by omega))<|gU<|gI (iE rfl rfl)<|gT<|gF<|gC<|J1 _ _ ⟨?_,rfl⟩;have e:decide (s.drop (s.length-p.length)=p)=decide (p<:+s):=decide_eq_decide.2 ⟨fun h=>by rw[List.suffix_iff_eq_drop];exact h.symm,fun h=>(List.suffix_iff_eq_drop.1 h).symm⟩;rw[e];exact .cons rfl .nil
  refine gE ?_;refine gE ?_;refine gE ?_;refine gE ?_;refine gE ?_;refine gE ?_;refine gE ?_;refine gE ?_;refine gE ?_;refine hG ?_;refine gF ?_;refine gC ?_;refine J1 _ _ ⟨?_,rfl⟩;have e:decide (p<:+s)=false:=decide_eq_false fun h=>by have:=h.length_le;have h2:=of_decide_eq_false oF;omega
  rw[e];exact .cons rfl .nil
 rintro bc H' ⟨px,rfl⟩;refine gN px ?_;clear px;exact ic rfl rfl fun w' ia=>⟨rfl,ia⟩
theorem K8 (w:World) (s p:List UInt8) (hs:s.length<=1000000000000) (hp:p.length<=1000000000000):Calls Tryd.prog 18 #[S s,S p] w fun e w'=>e=.returned (.bool (decide (p<+:s)))/\HF w (fun _=>False) [] w':=by
 refine enter (fun _=>False) [] Tryd.func18 rfl Tryd.ntmps18 rfl rfl (HF.start w _) fun c hc=>?_
 subst hc;exact gz<|gD<|gF<|gC<|gz<|gD<|gB<|gB<|iw Tryd.call40 rfl rfl (fun w1 fa=>abD w1 s p hs hp)<|gF<|gC<|ic rfl rfl fun w' ia=>⟨rfl,ia⟩
theorem K9 (w:World) (s p:List UInt8) (hs:s.length<=1000000000000) (hp:p.length<=1000000000000):Calls Tryd.prog 55 #[S s,S p] w fun e w'=>e=.returned (.bool (decide (p<:+s)))/\HF w (fun _=>False) [] w':=by
 refine enter (fun _=>False) [] Tryd.func55 rfl Tryd.ntmps55 rfl rfl (HF.start w _) fun c hc=>?_
 subst hc;exact gz<|gD<|gF<|gC<|gz<|gD<|gB<|gB<|iw Tryd.call68 rfl rfl (fun w1 fa=>abE w1 s p hs hp)<|gF<|gC<|ic rfl rfl fun w' ia=>⟨rfl,ia⟩
def BA (c:UInt8):Value:=match vV c with
 |some x=>.tuple #[.int .u8 ((x:Nat):Int),.bool true]
 |none=>.tuple #[.int .u8 0,.bool false]
theorem La (w:World) (c:UInt8):Calls Tryd.prog 83 #[.int .u8 (c.toNat:Int)] w fun e w'=>e=.returned (BA c)/\HF w (fun _=>False) [] w':=by
 refine enter (fun _=>False) [] Tryd.func83 rfl Tryd.ntmps83 rfl rfl (HF.start w _) fun c hc=>?_
 subst hc;have hc:=c.toNat_lt
 have wr:∀n:Int,0<=n->n<256->IntKind.u8.wrap n=n:=fun n h1 h2=>by
  unfold IntKind.wrap;simp[IntKind.bits,IntKind.signed];omega
 refine gz<|gD<|gF<|gF<|gC<|gz<|gW<|gz<|hY (fun bc H'=>Sub [(0,.int .u8 (c.toNat:Int)),(4,.bool (decide (48<=c.toNat/\c.toNat<=57)))] bc/\H'=[]) (fun J1=>?_) ?_
 ·refine gD<|gB<|gA (jG rfl rfl)<|gB<|gZ 7 rfl (fun h7=>?_) (fun h7=>?_)
  ·refine gU<|gI (jG rfl rfl)<|gT<|gF<|gC<|J1 _ _ ⟨?_,rfl⟩;have h1:=of_decide_eq_true h7;have e:decide ((c.toNat:Int)<=57)=decide (48<=c.toNat/\c.toNat<=57):=decide_eq_decide.2 ⟨fun h=>⟨by omega,by omega⟩,fun h=>by omega⟩;rw[e];exact .of rfl
  refine gE ?_;refine gE ?_;refine hG ?_;refine gF ?_;refine gC ?_;refine J1 _ _ ⟨?_,rfl⟩;have h1:=of_decide_eq_false h7;have e:decide (48<=c.toNat/\c.toNat<=57)=false:=decide_eq_false fun h=>h1 (by omega)
  rw[e];exact .of rfl
 rintro bc H' ⟨px,rfl⟩;refine gN px ?_;clear px;refine gS rfl (fun h4=>?_) (fun h4=>?_)
 ·refine gz<|gD<|gB<|gA (j4 (i:=(c.toNat:Int)) (j:=48) rfl rfl) ?_;rw[wr _ (by omega) (by omega)];refine gF<|gF<|gC<|jl rfl rfl rfl fun w' ia=>⟨?_,ia⟩
  unfold BA vV;rw[if_pos h4];have e:(c.toNat:Int)-48=((c.toNat-48:Nat):Int):=by omega
  rw[e]
 refine gz<|hY (fun bc H'=>Sub [(0,.int .u8 (c.toNat:Int)),(13,.bool (decide (97<=c.toNat/\c.toNat<=102)))] bc/\H'=[]) (fun J3=>?_) ?_
 ·refine gD<|gB<|gA (jG rfl rfl)<|gB<|gZ 16 rfl (fun pA=>?_) (fun pA=>?_)
  ·refine gU<|gI (jG rfl rfl)<|gT<|gF<|gC<|J3 _ _ ⟨?_,rfl⟩;have h1:=of_decide_eq_true pA;have e:decide ((c.toNat:Int)<=102)=decide (97<=c.toNat/\c.toNat<=102):=decide_eq_decide.2 ⟨fun h=>⟨by omega,by omega⟩,fun h=>by omega⟩;rw[e];exact .of rfl
  refine gE ?_;refine gE ?_;refine hG ?_;refine gF ?_;refine gC ?_;refine J3 _ _ ⟨?_,rfl⟩;have h1:=of_decide_eq_false pA;have e:decide (97<=c.toNat/\c.toNat<=102)=false:=decide_eq_false fun h=>h1 (by omega)
  rw[e];exact .of rfl
 rintro bc H' ⟨px,rfl⟩;refine gN px ?_;clear px;refine gS rfl (fun wB=>?_) (fun wB=>?_)
 ·refine gz<|gD<|gB<|gA (j4 (i:=(c.toNat:Int)) (j:=97) rfl rfl) ?_;rw[wr _ (by omega) (by omega)];refine gA (jj (i:=(c.toNat:Int)-97) (j:=10) rfl rfl) ?_;rw[wr _ (by omega) (by omega)];refine gF<|gF<|gC<|jl rfl rfl rfl fun w' ia=>⟨?_,ia⟩
  unfold BA vV;rw[if_neg h4,if_pos wB];have e:(c.toNat:Int)-97+10=((c.toNat-87:Nat):Int):=by omega
  rw[e]
 refine gz<|hY (fun bc H'=>Sub [(0,.int .u8 (c.toNat:Int)),(23,.bool (decide (65<=c.toNat/\c.toNat<=70)))] bc/\H'=[]) (fun J5=>?_) ?_
 ·refine gD<|gB<|gA (jG rfl rfl)<|gB<|gZ 26 rfl (fun xx=>?_) (fun xx=>?_)
  ·refine gU<|gI (jG rfl rfl)<|gT<|gF<|gC<|J5 _ _ ⟨?_,rfl⟩;have h1:=of_decide_eq_true xx;have e:decide ((c.toNat:Int)<=70)=decide (65<=c.toNat/\c.toNat<=70):=decide_eq_decide.2 ⟨fun h=>⟨by omega,by omega⟩,fun h=>by omega⟩;rw[e];exact .of rfl
  refine gE ?_;refine gE ?_;refine hG ?_;refine gF ?_;refine gC ?_;refine J5 _ _ ⟨?_,rfl⟩;have h1:=of_decide_eq_false xx;have e:decide (65<=c.toNat/\c.toNat<=70)=false:=decide_eq_false fun h=>h1 (by omega)
  rw[e];exact .of rfl
 rintro bc H' ⟨px,rfl⟩;refine gN px ?_;clear px;refine gS rfl (fun uj=>?_) (fun uj=>?_)
 ·refine gz<|gD<|gB<|gA (j4 (i:=(c.toNat:Int)) (j:=65) rfl rfl) ?_;rw[wr _ (by omega) (by omega)];refine gA (jj (i:=(c.toNat:Int)-65) (j:=10) rfl rfl) ?_;rw[wr _ (by omega) (by omega)];refine gF<|gF<|gC<|jl rfl rfl rfl fun w' ia=>⟨?_,ia⟩
  unfold BA vV;rw[if_neg h4,if_neg wB,if_pos uj];have e:(c.toNat:Int)-65+10=((c.toNat-55:Nat):Int):=by omega
  rw[e]
 refine gL<|il<|gz<|gD<|gF<|gF<|gC<|jl rfl rfl rfl fun w' ia=>⟨?_,ia⟩
 unfold BA vV;rw[if_neg h4,if_neg wB,if_neg uj]
theorem _root_.Bw.mn {P:Program} {c:Cx} {n:Nat} {fr:SF} {H:SH} {ty t e:TypeId} {x:Operand} {p:Option Addr} (hU:P.underlying t=some (.pointer e)) (hx:ev fr x=some (.pointer p)):nB P c n (.makeInterface t x) ty fr H (.iface t (.pointer p)):=by
 intro a w ha hw dst pos mG g;simp[execOp,ha.eval hx,Instr.makeInterface,underlying,hU]
theorem Lb (w:World) (s:List UInt8):Calls Tryd.prog 82 #[S s] w fun e w'=>∃b,e=.returned (.iface 174 (Pt b 0))/\HF w (fun _=>False) [] w':=by
 refine enter (fun _=>False) [] Tryd.func82 rfl Tryd.ntmps82 rfl rfl (HF.start w _) fun c hc=>?_
 subst hc
 have bd:∀w1,(Instr.build 176 #[(0,S s)]).run Tryd.prog w1=.ok (.agg #[S s]) w1:=fun w1=>by
  simp[Instr.build,Tryd.zeroValue176,Tryd.runUnderlying176,ah,qp,Instr.fill,tR]
 refine gz<|gD<|gF<|gC<|gz<|gD<|gB<|gA (iN (vs:=[(0,S s)]) rfl bd)<|jc (l:=[S s]) rfl (by simp[qp]) rfl (fun b hb=>?_);exact gA (mn Tryd.underlying174 rfl)<|gF<|gC<|ic rfl rfl fun w' ia=>⟨b,rfl,ia.sub (ar _)⟩
section
variable {P:Program} {c:Cx} {n:Nat} {fr:SF} {H:SH} {ty t u:TypeId} {x y:Operand}
theorem mo {a:Nat} (h:a<16) (hx:ev fr x=some (.int .u8 (a:Int))):nB P c n (.binOp .shl t x (.const (.int .u64 4)) u) ty fr H (.int .u8 ((a*16:Nat):Int)):=by
 intro a1 w ha hw dst pos mG g;have h1:=ha.eval hx;have h2:a1.eval (.const (.int .u64 4))=.int .u64 4:=rfl;simp[execOp,h1,h2,eqGuard,binOp,Op.shift];have h3:min 4 IntKind.u8.bits=4:=rfl;rw[h3];unfold IntKind.wrap;simp[IntKind.bits,IntKind.signed];omega
theorem abF:∀a:Fin 16,∀b:Fin 16,(a.val*16|||b.val)=a.val*16+b.val:=by decide
theorem mq {a b:Nat} (h:a<16) (hb:b<16) (hx:ev fr x=some (.int .u8 ((a*16:Nat):Int))) (hy:ev fr y=some (.int .u8 (b:Int))):nB P c n (.binOp .or t x y u) ty fr H (.int .u8 ((a*16+b:Nat):Int)):=by
 intro a1 w ha hw dst pos mG g
 have e1:((a:Int)*16%2^IntKind.u8.bits).toNat =a*16:=by
  have:(2:Int)^IntKind.u8.bits=256:=rfl;rw[this];omega
 have e2:b%2^IntKind.u8.bits=b:=by
  have:(2:Nat)^IntKind.u8.bits=256:=rfl;rw[this];omega
 have e3:=abF ⟨a,h⟩ ⟨b,hb⟩;simp only at e3
 have e4:IntKind.u8.wrap ((a*16+b:Nat):Int)=(a:Int)*16+(b:Int):=by
  unfold IntKind.wrap;simp[IntKind.bits,IntKind.signed];omega
 simp[execOp,ha.eval hx,ha.eval hy,eqGuard,binOp,Op.intBits,e1,e2,e3];simpa using e4
end
theorem UD {c:UInt8} {x:Nat} (h:vV c=some x):x<16:=by
 unfold vV at h;split at h
 ·cases h;omega
 split at h
 ·cases h;omega
 split at h
 ·cases h;omega
 cases h
def FO (s:List UInt8) (e:Ending):Prop:=match Bz (s.length+1) s [] with
 |some x=>e=.returned (.tuple #[S x,.nilIface])
 |none=>∃b,e=.returned (.tuple #[S [],.iface 174 (Pt b 0)])
theorem UE (w:World) (s:List UInt8) (hs:s.length<=1000000):Calls Tryd.prog 78 #[S s] w fun e w'=>FO s e/\HF w (fun _=>False) [] w':=by
 refine enter (fun _=>False) [] Tryd.func78 rfl Tryd.ntmps78 rfl rfl (HF.start w _) fun c hc=>?_
 subst hc;obtain⟨L,hL⟩:∃L,L=Bz (s.length+1) s []:=⟨_,rfl⟩;refine gz<|gD<|gF<|gF<|gC<|gz<|gD<|gF<|gC<|gz<|gz<|gD<|gF<|gC<|gW ?_
 refine iC (fun N bc H'=>∃i out sv Hs g,i+N=s.length/\Own 5 1 sv out.length (bC out) Hs/\L=Bz (g+1) (s.drop i) out/\s.length<=i+g/\out.length<=i/\Sub [(0,S s),(4,sv),(5,I (i:Nat))] bc/\Hs=H') s.length
  ⟨0,[],.slice none 0 0,[],s.length,by omega,Own.nil,hL,by omega,by simp,.of rfl,rfl⟩ ?_
 rintro N bc H' ⟨i,out,sv,Hs,g,hi,nx,rX,hg,hol,mJ,rfl⟩ ih;refine gN mJ ?_;clear mJ;refine gz<|gz<|gD<|gB<|gB<|gA (ig aa rfl)<|gA (ik rfl rfl)<|gC<|gS rfl (fun wB=>?_) (fun wB=>?_)
 ·refine gL<|gz<|gW<|gW<|gz ?_;have oO:i<s.length:=by omega
  obtain⟨x,hx⟩:=gx oO;have hd:=drop_cons hx;obtain⟨g,rfl⟩:∃g2,g=g2+1:=⟨g-1,by omega⟩;rw[hd] at rX;unfold Bz at rX;refine gD<|gB<|gB<|gA (iG (i:=i) (b:=x) aa rfl rfl hx)<|gA (ie rfl rfl)<|gF<|gC<|gS rfl (fun Ek=>?_) (fun Ek=>?_)
  ·have Ol:x=43:=zx (k:=43) (by have:=Ek;omega) (by omega);rw[if_pos Ol] at rX;refine gD<|gB<|je (jn aL bV dH (v:=.int .u8 (32:Int)) rfl) rfl rfl (fun sb vm=>?_);refine jA (i:=Tryd.t5) (sz:=1) (qg:=1) aL rfl rfl rfl rfl rfl rfl rfl nx (H':=[Rx sb [.int .u8 (32:Int)] 5]) (aF (l₁:=([Rx sb [.int .u8 (32:Int)] 5]:SH))) (vf (vs:=[.int .u8 (32:Int)]) (r:=[]) (.head _)) rfl (by simp[Value.oneCell']) (by omega) (by omega) (by omega) rfl (fun AJ nU oS=>?_);refine gF<|gC<|hO (H':=nU) (fun w1 h1=>h1.sub (ai _ _)) ?_
   have zI:Own 5 1 AJ (out++[32]).length (bC (out++[32])) nU:=by
    rw[ax,zp];exact oS
   refine il<|il ?_;refine gD<|gB ?_;refine gA (iB (r:=((i+1:Nat):Int)) rfl rfl (by omega) (by omega) (by omega))<|gF ?_;exact gC<|ih (N-1) _ _ (by omega) ⟨i+1,out++[32],AJ,nU,g,by omega,zI,rX,by omega,by simp;omega,.of rfl,rfl⟩
  refine gz ?_;have Ol:x≠43:=fun e=>Ek (by rw[e];rfl)
  rw[if_neg Ol] at rX;refine gD<|gB<|gB<|gA (iG (i:=i) (b:=x) aa rfl rfl hx)<|gA (iF rfl rfl)<|gF<|gC<|gV rfl (fun Aw=>?_) (fun Aw=>?_)
  ·have Om:x≠37:=fun e=>by
    rw[e] at Aw;exact absurd Aw (by decide)
   rw[if_pos Om] at rX;refine gD<|gB<|gB<|gB<|gA (iG (i:=i) (b:=x) aa rfl rfl hx)<|je (jn aL bV dH (v:=.int .u8 (x.toNat:Int)) rfl) rfl rfl (fun sb vm=>?_);refine jA (i:=Tryd.t5) (sz:=1) (qg:=1) aL rfl rfl rfl rfl rfl rfl rfl nx (H':=[Rx sb [.int .u8 (x.toNat:Int)] 5]) (aF (l₁:=([Rx sb [.int .u8 (x.toNat:Int)] 5]:SH))) (vf (vs:=[.int .u8 (x.toNat:Int)]) (r:=[]) (.head _)) rfl (by simp[Value.oneCell']) (by omega) (by omega) (by omega) rfl (fun AJ nU oS=>?_);refine gF<|gC<|hO (H':=nU) (fun w1 h1=>h1.sub (ai _ _)) ?_
   have zI:Own 5 1 AJ (out++[x]).length (bC (out++[x])) nU:=by
    rw[ax,zp];exact oS
   refine il<|il ?_;refine gD<|gB ?_;refine gA (iB (r:=((i+1:Nat):Int)) rfl rfl (by omega) (by omega) (by omega))<|gF ?_;exact gC<|ih (N-1) _ _ (by omega) ⟨i+1,out++[x],AJ,nU,g,by omega,zI,rX,by omega,by simp;omega,.of rfl,rfl⟩
  refine gz ?_;have Om:x=37:=zx (k:=37) (by simpa using Aw) (by omega);rw[if_neg (fun h=>h Om)] at rX;refine gD<|gB ?_;refine gA (iB (r:=((i+2:Nat):Int)) rfl rfl (by omega) (by omega) (by omega))<|gB ?_;refine gA (ig aa rfl)<|gA (jJ rfl rfl) ?_;refine gF<|gC<|gS rfl (fun h67=>?_) (fun h67=>?_)
  ·refine gz ?_
   have On:L=none:=by
    rw[rX];have hl:(s.drop (i+1)).length <=1:=by rw[aA];omega
    cases hdd:s.drop (i+1) with
    |nil=>rfl
    |cons a r=>
     rw[hdd] at hl
     cases r with
     |nil=>rfl
     |cons b r=>simp at hl
   refine gD<|iP (fun v H2=>∃b,v=.iface 174 (Pt b 0)/\H2=Hs) Tryd.call82 rfl rfl (fun w1 fa=>(Lb w1 _).mono fun e w' ⟨b,h1,h2⟩=>⟨_,_,h1,fa.o9 h2 (by simp),b,rfl,rfl⟩) ?_;rintro v H2 ⟨eb,rfl,e2⟩;rw[e2];refine gF<|gF<|gC<|jl rfl rfl rfl fun w' ia=>⟨?_,ia.sub (ar _)⟩
   unfold FO;rw[<-hL,On];exact⟨eb,rfl⟩
  refine gz ?_;have abJ:i+2<s.length:=by omega
  obtain⟨a,ha⟩:∃a,s[i+1]? =some a:=gx (by omega);obtain⟨b,hb⟩:=gx abJ;rw[drop_cons ha,drop_cons hb] at rX;dsimp only at rX;refine gD ?_;refine gB ?_;refine gB ?_;refine gA (iB (r:=((i+1:Nat):Int)) rfl rfl (by omega) (by omega) (by omega)) ?_;refine gA (iG (i:=i+1) (b:=a) aa rfl rfl ha) ?_
  obtain⟨xa,oa,hva,UF⟩:∃(x:Nat) (o:Bool),BA a=.tuple #[.int .u8 (x:Int),.bool o]/\((o=true/\vV a=some x)\/(o=false/\vV a=none)):=by
   unfold BA
   cases vV a with
   |none=>exact⟨0,false,rfl,.inr ⟨rfl,rfl⟩⟩
   |some x=>exact⟨x,true,rfl,.inl ⟨rfl,rfl⟩⟩
  refine iw (v:=.tuple #[.int .u8 (xa:Int),.bool oa]) Tryd.call83 rfl rfl (fun w1 fa=>by have:=La w1 a;rw[hva] at this;exact this) ?_;refine gB ?_;refine gA (iz rfl rfl) ?_;refine gA (iz rfl rfl) ?_;refine gF ?_;refine gF ?_;refine gC ?_;refine gz ?_;refine gD ?_;refine gB ?_;refine gB ?_;refine gA (iB (r:=((i+2:Nat):Int)) rfl rfl (by omega) (by omega) (by omega)) ?_;refine gA (iG (i:=i+2) (b:=b) aa rfl rfl hb) ?_
  obtain⟨xb,ob,Oo,C0⟩:∃(x:Nat) (o:Bool),BA b=.tuple #[.int .u8 (x:Int),.bool o]/\((o=true/\vV b=some x)\/(o=false/\vV b=none)):=by
   unfold BA
   cases vV b with
   |none=>exact⟨0,false,rfl,.inr ⟨rfl,rfl⟩⟩
   |some x=>exact⟨x,true,rfl,.inl ⟨rfl,rfl⟩⟩
  refine iw (v:=.tuple #[.int .u8 (xb:Int),.bool ob]) Tryd.call83 rfl rfl (fun w1 fa=>by have:=La w1 b;rw[Oo] at this;exact this)<|gB<|gA (iz rfl rfl)<|gA (iz rfl rfl)<|gF<|gF<|gC<|gz<|gz<|hY (fun bc H'=>Sub [(0,S s),(4,sv),(5,I (i:Nat)),(6,.int .u8 (xa:Int)),(8,.int .u8 (xb:Int)),(37,.bool (!oa|| !ob))] bc/\Hs=H') (fun J7=>?_) ?_
  ·refine gD<|gB<|gA (iU rfl)<|gB<|gZ 34 rfl (fun qF=>?_) (fun qF=>?_)
   ·refine gE ?_;refine gE ?_;refine gT ?_;refine gC ?_;refine J7 _ _ ⟨?_,rfl⟩;rw[qF,Bool.true_or];exact .of rfl
   refine gU<|gI (iU rfl)<|hG<|gC<|J7 _ _ ⟨?_,rfl⟩;rw[qF,dL];exact .of rfl
  rintro bc H' ⟨CF,rfl⟩;refine gN CF ?_;clear CF;refine gV rfl (fun AH=>?_) (fun AH=>?_)
  ·refine gz ?_
   have On:L=none:=by
    rw[rX];rcases UF with⟨rfl,e1⟩|⟨rfl,e1⟩
    ·rcases C0 with⟨rfl,e2⟩|⟨rfl,e2⟩
     ·simp at AH
     rw[e1,e2]
    rw[e1]
   refine gD<|iP (fun v H2=>∃b,v=.iface 174 (Pt b 0)/\H2=Hs) Tryd.call82 rfl rfl (fun w1 fa=>(Lb w1 _).mono fun e w' ⟨b,h1,h2⟩=>⟨_,_,h1,fa.o9 h2 (by simp),b,rfl,rfl⟩) ?_;rintro v H2 ⟨eb,rfl,e2⟩;rw[e2];refine gF<|gF<|gC<|jl rfl rfl rfl fun w' ia=>⟨?_,ia.sub (ar _)⟩
   unfold FO;rw[<-hL,On];exact⟨eb,rfl⟩
  refine gL<|gz ?_
  obtain⟨e1,e2⟩:vV a=some xa/\vV b=some xb:=by
   rcases UF with⟨rfl,e1⟩|⟨rfl,e1⟩
   ·rcases C0 with⟨rfl,e2⟩|⟨rfl,e2⟩
    ·exact⟨e1,e2⟩
    simp at AH
   simp at AH
  rw[e1,e2] at rX;dsimp only at rX;have tJ:=UD e1;have zJ:=UD e2;refine gD<|gB<|gB<|gA (mo tJ rfl)<|gB<|gA (mq tJ zJ rfl rfl)<|je (jn aL bV dH (v:=.int .u8 ((xa*16+xb:Nat):Int)) rfl) rfl rfl (fun sb vm=>?_);refine jA (i:=Tryd.t5) (sz:=1) (qg:=1) aL rfl rfl rfl rfl rfl rfl rfl nx (H':=[Rx sb [.int .u8 ((xa*16+xb:Nat):Int)] 5]) (aF (l₁:=([Rx sb [.int .u8 ((xa*16+xb:Nat):Int)] 5]:SH))) (vf (vs:=[.int .u8 ((xa*16+xb:Nat):Int)]) (r:=[]) (.head _)) rfl (by simp[Value.oneCell']) (by omega) (by omega) (by omega) rfl (fun AJ nU oS=>?_);refine gF<|gC<|hO (H':=nU) (fun w1 h1=>h1.sub (ai _ _)) ?_
  have zI:Own 5 1 AJ (out++[UInt8.ofNat (xa*16+xb)]).length (bC (out++[UInt8.ofNat (xa*16+xb)])) nU:=by
   have e3:(bC [UInt8.ofNat (xa*16+xb)])=[.int .u8 ((xa*16+xb:Nat):Int)]:=by
    have:(UInt8.ofNat (xa*16+xb)).toNat =xa*16+xb:=by simp;omega
    simp only[bC,Lib.byteCells,aX,List.map_nil,this]
   rw[ax,zp,e3];exact oS
  refine gD ?_;refine gB ?_;refine gA (iB (r:=((i+2:Nat):Int)) rfl rfl (by omega) (by omega) (by omega)) ?_;refine gF ?_;refine gC ?_;refine il ?_;refine il ?_;refine gD ?_;refine gB ?_;refine gA (iB (r:=((i+3:Nat):Int)) rfl rfl (by omega) (by omega) (by omega)) ?_;refine gF ?_;refine gC ?_;exact ih (N-3) _ _ (by omega) ⟨i+3,out++[UInt8.ofNat (xa*16+xb)],AJ,nU,g,by omega,zI,rX,by omega,by simp;omega,.of rfl,rfl⟩
 refine ir rfl<|gz<|gD<|gB<|gA (lf aL bT aa rfl nx (by simp))<|gF<|gF<|gC ?_;have vh:i=s.length:=by omega
 refine jl rfl rfl rfl fun w' ia=>⟨?_,ia.sub (ar _)⟩
 unfold FO;rw[<-hL,rX,vh,cH];rfl
def AK (Ht:SH) (h:Option Nat) (hv:Value):Prop:=(h=none/\hv=.slice none 0 0)\/∃k hb,h=some k/\hv=Sx hb 1 1/\(Rx hb [I (k:Int)] 3:oJ)∈Ht
inductive Rd (Ht Cs:SH):T0->Nat->Prop
 |mk {path idx:List UInt8} {mm:Bool} {nt pr:Nat} {h:Option Nat} {full:List UInt8} {kids:List T0} {nb:Nat} {bs:List Nat} {kv hv:Value} {Hs:SH}
   (hm:(Rx nb (mu path idx mm nt pr kv hv full) 115:oJ)∈Cs++Ht) (hs:Own 84 1 kv kids.length (bs.map (Pt · 0)) Hs) (qs:∀e∈Hs,e∈Ht) (pB:bs.length=kids.length) (hh:AK Ht h hv)
   (hk:∀(j:Nat) k b,kids[j]? =some k->bs[j]? =some b->Rd Ht Cs k b):Rd Ht Cs (.node () path idx mm nt pr h full kids) nb
theorem HV.x {Ht h v H} (x:HV h v H) (hs:∀e∈H,e∈Ht):AK Ht h v:=by
 cases x with
 |nil=>exact .inl ⟨rfl,rfl⟩
 |row=>exact .inr ⟨_,_,rfl,rfl,hs _ (.head _)⟩
theorem HT.rd {t b H} (x:HT t b H):∀{Ht:SH} (Cs:SH),(∀e∈H,e∈Ht)->Rd Ht Cs t b:=by
 refine HT.rec (motive_1:=fun t b H _=>∀{Ht:SH} (Cs:SH),(∀e∈H,e∈Ht)->Rd Ht Cs t b) (motive_2:=fun ts bs H _=>∀{Ht:SH} (Cs:SH),(∀e∈H,e∈Ht)->∀(j:Nat) k b,ts[j]? =some k->bs[j]? =some b->Rd Ht Cs k b) ?_ ?_ ?_ x
 ·intro path idx mm nt pr h full kids nb bs kv hv Hs Hh Hk hs hh hk ih Ht Cs mU
  exact .mk (au _ (mU _ (.head _))) hs (fun e he=>mU e (.tail _ (ay _ he))) hk.len (hh.x fun e he=>mU e (.tail _ (au _ (ay _ he))))
   (ih Cs fun e he=>mU e (.tail _ (au _ (au _ he))))
 ·intro Ht Cs _ j k b hj;simp at hj
 intro t b H ts bs Hs h hs Cz qz Ht Cs mU j k b2 hj hb
 cases j with
 |zero=>simp at hj hb;subst hj hb;exact Cz Cs fun e he=>mU e (ay _ he)
 |succ j=>exact qz Cs (fun e he=>mU e (au _ he)) j k b2 (by simpa using hj) (by simpa using hb)
theorem Rd.more {Ht Cs t b} (x:Rd Ht Cs t b) {C:SH}:Rd Ht (C++Cs) t b:=by
 induction x with
 |mk hm hs qs pB hh hk ih=>exact .mk (by rw[aw];exact au _ hm) hs qs pB hh ih
theorem Rd.cons {Ht Cs t b} (x:Rd Ht Cs t b) {e:oJ}:Rd Ht (e::Cs) t b:=x.more (C:=[e])
def nJ:List (List UInt8×List UInt8)->List Value
 |[]=>[]
 |(k,v)::l=>S k::S v::nJ l
theorem Oq:∀l,(nJ l).length =2*l.length
 |[]=>rfl
 |(k,v)::l=>by simp[nJ,Oq l];omega
theorem Lc:∀a b,nJ (a++b)=nJ a++nJ b
 |[],b=>rfl
 |(k,v)::a,b=>by simp[nJ,Lc a b]
theorem UG:∀(l:List (List UInt8×List UInt8)) (n:Nat),(nJ l).take (2*n)=nJ (l.take n)
 |[],n=>by simp[nJ]
 |(k,v)::l,0=>by simp[nJ]
 |(k,v)::l,n+1=>by
  have:2*(n+1)=2*n+1+1:=by omega
  rw[this];simp[nJ,UG l n]
def qH (Ht Cs:SH) (mQ:List Value) (sk:List Sk):Prop:=∀(i:Nat) s,sk.reverse[i]? =some s->∃b,(mQ.drop (3*i)).take 3=[S s.path,Pt b 0,.int .i16 (s.ny:Int)]/\Rd Ht Cs s.node b
theorem qH.cons {Ht Cs mQ sk} (h:qH Ht Cs mQ sk) {e:oJ}:qH Ht (e::Cs) mQ sk:=fun i s hi=>by
 obtain⟨b,h1,h2⟩:=h i s hi;exact⟨b,h1,h2.cons⟩
theorem qH.top {Ht Cs mQ s sk} (h:qH Ht Cs mQ (s::sk)):∃b,(mQ.drop (3*sk.length)).take 3=[S s.path,Pt b 0,.int .i16 (s.ny:Int)]/\Rd Ht Cs s.node b:=h sk.length s (by simp)
theorem qH.pop {Ht Cs mQ s sk} (h:qH Ht Cs mQ (s::sk)):qH Ht Cs mQ sk:=fun i x hi=>h i x (by
 have hl:=(ae.1 hi).1
 rw[List.reverse_cons,ak hl];exact hi)
theorem abL {l:List Value} {off i:Nat} {cs:List Value} (aju:i+3<=off) (hl:off<=l.length):((vu l off cs).drop i).take 3=(l.drop i).take 3:=by
 unfold vu;rw[aw,gj,List.take_append];have h1:(l.take off).length =off:=by simp;omega
 simp only[h1,aA];have h2:3-(off-i)=0:=by omega
 rw[h2,fU,aS,fg,fh,dG (by omega)]
theorem abM {l:List Value} {off:Nat} {cs:List Value} (hl:off<=l.length):((vu l off cs).drop off).take cs.length=cs:=by
 unfold vu;have h1:(l.take off).length =off:=by simp;omega
 rw[aw,gj,bE (by omega),h1,gq];simp
theorem abN {l:List Value} {off:Nat} {cs:List Value} (hl:off<=l.length):(vu l off cs).take (off+cs.length)=l.take off++cs:=by
 unfold vu;have h1:(l.take off++cs).length =off+cs.length:=by simp;omega
 rw[cE (by omega),bJ (by omega)]
theorem qH.push {Ht Cs mQ sk} (h:qH Ht Cs mQ sk) {s:Sk} {b cS:Nat} (hl:mQ.length=3*cS) (p7:sk.length<cS) (hb:Rd Ht Cs s.node b):qH Ht Cs (vu mQ (3*sk.length) [S s.path,Pt b 0,.int .i16 (s.ny:Int)]) (s::sk):=fun i x hi=>by
 rw[List.reverse_cons] at hi;rcases cn i sk.length with h2|h2
 ·rw[ak (by simpa using h2)] at hi;obtain⟨b2,h3,h4⟩:=h i x hi;exact⟨b2,by rw[abL (by omega) (by omega)];exact h3,h4⟩
 have mS:=(ae.1 hi).1;simp at mS;have:i=sk.length:=by omega
 subst this;rw[bO (by simp)] at hi;simp at hi;subst hi;exact⟨b,abM (cs:=[_,_,_]) (by omega),hb⟩
def pV (pb:Nat) (has:Bool):Value:=if has then Pt pb 0 else Nil
theorem yh (pb:Nat) (has:Bool):(pV pb has).oneCell' =true:=by cases has<;>rfl
noncomputable def IP:List Item:=(Ax ((Tryd.f61.body).getD .skip) []).getD []
def Lp (R:Ending->World->Prop) (w:World) (D:Nat->Prop) (vb pb mZ qb nq cP cS:Nat) (un:Bool) (Ht:SH) (n:T0) (p:List UInt8) (ps:List (List UInt8×List UInt8)) (sk:List Sk):Prop:=
 ∀(nb:Nat) (has:Bool) (mN mQ:List Value) (Cs:SH) (fr:SF),Rd Ht Cs n nb->mN.length=2*cP->mN.take (2*ps.length)=nJ ps->mQ.length=3*cS->qH Ht Cs mQ sk->(has=false->ps=[])->
  Sub [(0,Pt nb 0),(1,S p),(2,Pt pb 0),(3,Pt qb 0),(4,.bool un),(10,Pt vb 0),(11,.int .i16 (ps.length:Int))] fr->
  GC Tryd.prog ⟨61,Tryd.f61,R,w,D⟩ 703 IP fr (Hq vb [.slice none 0 0,pV pb has,.bool false,S []] pb mZ ps.length cP mN qb nq sk.length cS mQ (Cs++Ht))
def yi (R:Ending->World->Prop) (w:World) (D:Nat->Prop) (pb mZ cP:Nat) (Ht:SH) (r:n6):Prop:=
 ∀(has:Bool) (mN:List Value) (hv:Value) (w':World),mN.length=2*cP->mN.take (2*r.ps.length)=nJ r.ps->(has=false->r.ps=[])->AK Ht r.h hv->
  HF w D (Rx pb [Sx mZ r.ps.length cP] 91::Rx mZ mN 95::Ht) w'->R (.returned (.agg #[hv,pV pb has,.bool r.ql,S r.full])) w'
def abO:List Item->List Item
 |.code (.block id (.seq _ (.seq (.seq _ (.cond _ (.seq _ (.cond _ (.seq _ (.seq _ t)) _)) _)) r)))::k=>.code t::.code r::.inBlock id::k
 |k=>k
noncomputable def IQ:List Item:=abO IP
def Ld:List Item->List Item
 |.code (.seq _ b)::k=>.code b::k
 |k=>k
noncomputable def FP:List Item:=Ld IQ
def abP:List Item->List Item
 |.code (.block id (.seq _ (.seq _ (.seq (.seq _ (.cond _ t _)) r))))::k=>.code t::.code r::.inBlock id::k
 |k=>k
noncomputable def FQ:List Item:=abP IP
def abQ:List Item->List Item
 |.code (.block id (.seq _ (.seq _ (.seq _ r))))::k=>.code r::.inBlock id::k
 |k=>k
noncomputable def Ot:List Item:=abQ IP
theorem abR {R:Ending->World->Prop} {w:World} {D:Nat->Prop} {vb pb mZ qb nq cP cS:Nat} {un:Bool} {Ht:SH} {n:T0} {p:List UInt8} {ps:List (List UInt8×List UInt8)} {sk:List Sk} {nb:Nat} {has:Bool} {mN mQ:List Value} {Cs:SH} {fr:SF}
  (hn:Rd Ht Cs n nb) (Ou:mN.length=2*cP) (Ov:mN.take (2*ps.length)=nJ ps) (wD:mQ.length=3*cS) (wE:qH Ht Cs mQ sk) (Ow:has=false->ps=[]) (su:p.length<=100000) (uS:ps.length<=cP) (uu:cP<=20000) (uT:sk.length<=cS) (vx:cS<=20000) (mU:Sub [(0,Pt nb 0),(1,S p),(2,Pt pb 0),(3,Pt qb 0),(4,.bool un),(10,Pt vb 0),(11,.int .i16 (ps.length:Int))] fr)
  (ga:n.path.length<p.length->p.take n.path.length=n.path->∀c bc,(p.drop n.path.length)[0]? =some c->Sub [(0,Pt nb 0),(1,S (p.drop n.path.length)),(2,Pt pb 0),(3,Pt qb 0),(4,.bool un),(10,Pt vb 0),(11,.int .i16 (ps.length:Int)),(12,S n.path),(13,.int .u8 (c.toNat:Int))] bc->GC Tryd.prog ⟨61,Tryd.f61,R,w,D⟩ 703 IQ bc (Hq vb [(.slice none 0 0),(pV pb has),.bool false,(S [])] pb mZ ps.length cP mN qb nq sk.length cS mQ (Cs++Ht)))
  (ge:p=n.path->∀bc,Sub [(0,Pt nb 0),(1,S p),(2,Pt pb 0),(3,Pt qb 0),(4,.bool un),(10,Pt vb 0),(11,.int .i16 (ps.length:Int)),(12,S n.path)] bc->GC Tryd.prog ⟨61,Tryd.f61,R,w,D⟩ 703 FQ bc (Hq vb [(.slice none 0 0),(pV pb has),.bool false,(S [])] pb mZ ps.length cP mN qb nq sk.length cS mQ (Cs++Ht)))
  (gm:¬(n.path.length<p.length/\p.take n.path.length=n.path)->p≠n.path->∀bc,Sub [(0,Pt nb 0),(1,S p),(2,Pt pb 0),(3,Pt qb 0),(4,.bool un),(10,Pt vb 0),(11,.int .i16 (ps.length:Int)),(12,S n.path)] bc->GC Tryd.prog ⟨61,Tryd.f61,R,w,D⟩ 703 Ot bc (Hq vb [(.slice none 0 0),(pV pb has),.bool false,(S [])] pb mZ ps.length cP mN qb nq sk.length cS mQ (Cs++Ht))):
  GC Tryd.prog ⟨61,Tryd.f61,R,w,D⟩ 703 IP fr (Hq vb [(.slice none 0 0),(pV pb has),.bool false,(S [])] pb mZ ps.length cP mN qb nq sk.length cS mQ (Cs++Ht)):=by
 refine gN mU ?_;clear mU
 cases hn with
 | @mk path idx mm nt pr h full kids _ bs kv hv Hs hm hs qs pB hh hk=>
 simp only[oZ] at*;refine gW<|gz<|gD<|gB<|gJ rfl<|gH pU rfl<|gA (gG ag rfl (m5 hm) rfl)<|gF<|gC<|gz<|gz<|gD<|gB<|gA (ig aa rfl)<|gB<|gA (ig aa rfl)<|gA (iS rfl rfl)<|gC<|hY (fun bc H'=>¬(path.length<p.length/\p.take path.length=path)/\Sub [(0,Pt nb 0),(1,S p),(2,Pt pb 0),(3,Pt qb 0),(4,.bool un),(10,Pt vb 0),(11,.int .i16 (ps.length:Int)),(12,S path)] bc/\H'=(Hq vb [(.slice none 0 0),(pV pb has),.bool false,(S [])] pb mZ ps.length cP mN qb nq sk.length cS mQ (Cs++Ht))) (fun UH=>?_) ?_
 ·refine gS rfl (fun tK=>?_) (fun tK=>?_)
  ·refine gz<|gD<|gB<|gB<|gA (ig aa rfl) ?_;have mS:path.length<p.length:=by omega
   refine gA (jm (j:=path.length) aa rfl rfl (by omega))<|gB<|gA (iE rfl rfl)<|gC<|gS rfl (fun xC=>?_) (fun xC=>?_)
   ·refine gz ?_;have oB:p.take path.length=path:=xC;refine gD<|gB ?_;refine gB<|gA (ig aa rfl) ?_;refine gA (iX (i:=path.length) aa rfl rfl (by omega))<|gF ?_;refine gC<|gz ?_;obtain⟨c,hc⟩:∃c,(p.drop path.length)[0]? =some c:=⟨_,ao (by rw[aA];omega)⟩;refine gD<|gB ?_;refine gA (iG (i:=0) (b:=c) aa rfl rfl hc)<|gF ?_;exact gC<|ga mS oB c _ hc (.of rfl)
   exact gL<|UH _ _ ⟨fun h=>xC h.2,.of rfl,rfl⟩
  exact gL<|UH _ _ ⟨fun h=>tK (by omega),.of rfl,rfl⟩
 rintro bc H' ⟨uH,UI,rfl⟩;refine gN UI ?_;clear UI;refine gz<|gz<|gD<|gB<|gB<|gA (iE rfl rfl)<|gC<|gS rfl (fun Ox=>?_) (fun Ox=>?_)
 ·exact ge Ox _ (.of rfl)
 exact gL<|gm uH Ox _ (.of rfl)
end Go.Proofs
