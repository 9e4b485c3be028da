/- Lemmas of the walk and plain facts (JeI .. JeE9). -/
import Derived.Test.YtmneeannkgnbpaaDoorL1
import Derived.Test.YtmneeannkgnbpaaDoorL2
import Derived.Test.YtmneeannkgnbpaaDoorP23
import Derived.Test.YtmneeannkgnbpaaDoorP01
import Derived.Test.YtmneeannkgnbpaaDoorP21
import Derived.OrdersHeld
set_option maxRecDepth 20000
namespace Bw
open Go Go.Proofs Go.Proofs.Ec
variable {root:Nat}
theorem aeB {T:List NR} (h:(mI T).Pairwise (fun x y=>x.b≠y.b)):(T.map NR.n).Nodup :=by
 induction T with
 |nil=>simp
 |cons r T ih=>
  rw[Jk] at h;have h2:=bS.1 h;refine bf.2 ⟨fun hm=>?_,ih h2.2.1⟩;obtain⟨x,hx,e⟩:=aZ.1 hm;exact h2.2.2 r.eN (.head _) x.eN (qN hx (.head _)) e.symm
theorem Sh.WB {T:List NR} {q:Nat->List Tok} {R:List En} (s:Sh T q R root) (hR:∀e∈R,e.tk.length<=1000):∀r∈T,r.pre.length<=1000000:=by
 intro r hr
 have hq:r.pre.length<=(q r.n).length :=by
  rcases s.up hr with h|⟨x,h⟩
  ·obtain⟨rt,g1,g2,_,_,_,g6,_⟩:=s.rt;have:r=rt:=uC s.cl.nd hr g1 (h.trans g2.symm);subst this;rw[g2,g6];simp[bs]
  obtain⟨t,l,e1,_,_,_,e5,_⟩:=s.ch h;rw[e1,<-e5];simp[tb]
 by_cases h:R=[]
 ·rw[(s.one h r hr).2.1];simp
 obtain⟨e,he,hp⟩:=s.vC h r hr;have:=hp.length_le;have:=hR e he;omega
theorem j0 {c:Cx} {n:Nat} {k:List Item} {fr:SF} {ops:Array Oper} {rest:List Oper} {ty:TypeId} {pos:String} {mG:Array Edge} {d:Nat} {pj:Array TypeId}
  {T:List NR} {q:Nat->List Tok} {R:List En} (s:Sh T q R root) {rb rt eb zb z B t np mR:Nat} {bx pp:List UInt8} {hp:Option Nat} {pad:Option Addr} {nA:List Tok} {X:SH} {x1 x2 x3 x4 x5:Operand}
  (nG:BZ T q t hp np nA) (hR:∀e∈R,e.tk.length<=1000) (nk:∀r∈T,r.ok B) (hB:B+2<1000000) (py:bx.length<=1000) (rY:nA.length<=1000) {vs:List Value} (yz:vs=[Pt rb 0,S bx,S (tb nA),.int .u8 (t:Int),.agg #[PO hp,S pp,.slice pad np mR]])
  (he:rN fr [x1,x2,x3,x4,x5]=some vs) (hd:Nat.blt d n=true)
  (hk:∀h T' q',Sh T' q' (⟨nA,hp.map fun _=>(bx,h)⟩::⟨nA,none⟩::R) root->(∀r∈T',r.ok (B+2))->
   G Tryd.prog c n k ops rest ((d,.tuple #[])::fr) (nT h hp pp pad np mR::nF rb root rt eb::nI eb zb::nK zb rb (max z np)::(mI T'++X))):
  G Tryd.prog c n k ops (⟨some d,.call ⟨.value (.func 84), #[x1,x2,x3,x4,x5],pj⟩,ty,pos,mG,none⟩::rest) fr (nF rb root rt eb::nI eb zb::nK zb rb z::(mI T++X)):=by
 subst yz;obtain⟨r0,g1,g2,_⟩:=s.rt
 refine jo (H1:=nF rb root rt eb::nI eb zb::nK zb rb z::mI T) (Hk:=X) (xs:=[x1,x2,x3,x4,x5]) (fun v H1=>v=.tuple #[]/\∃h T' q',Sh T' q' (⟨nA,hp.map fun _=>(bx,h)⟩::⟨nA,none⟩::R) root/\(∀r∈T',r.ok (B+2))/\
  H1=nT h hp pp pad np mR::nF rb root rt eb::nI eb zb::nK zb rb (max z np)::mI T') (.refl _) ?_ Tryd.call84 he hd ?_ ?_
 ·intro e he;simp only[af] at he;rcases he with rfl|rfl|rfl|he
  ·rfl
  ·rfl
  ·rfl
  exact BP nk e he
 ·intro w hw _;refine(adF w _ T rb root rt eb zb z B t np mR bx (tb nA) pp hp pad r0 hw s.cl nk hB g1 g2 (fun e=>?_) py (by simp only[tb,aQ];omega) (s.WB hR) nG.t3).mono fun e w' ⟨h1,h,T',h2,h3,h4⟩=>?_
  ·have:=nG.hd
   cases nA with
   |nil=>cases this
   |cons=>simp[tb] at e
  have nj:=aeB ((cA.1 (cA.1 (cA.1 (cA.1 h4.nd).2).2).2).2);obtain⟨q',h5⟩:=s.ins nG h2 nj;refine⟨_,_,h1,fun e he=>?_,h4,rfl,h,T',q',h5,h3,rfl⟩;simp only[af] at he;rcases he with rfl|rfl|rfl|rfl|he
  ·rfl
  ·rfl
  ·rfl
  ·rfl
  exact BP h3 e he
 rintro v H1 ⟨rfl,h,T',q',h1,h2,rfl⟩;exact hk h T' q' h1 h2
def nh:List UInt8->Option (List UInt8)->List Tok×List (List UInt8)
 |[],none=>([],[])
 |[],some acc=>([],[acc])
 |c::r,none=>if c=58 then(.P ::(nh r (some [])).1,(nh r (some [])).2) else if c=42 then(.A ::(nh r none).1,[42]::(nh r none).2) else(.b c::(nh r none).1,(nh r none).2)
 |c::r,some acc=>if c=47 then(.b 47::(nh r none).1,acc::(nh r none).2) else nh r (some (acc++[c]))
theorem B0:∀(l:List UInt8) (o:Option (List UInt8)),(nh l o).2.length =ny (nh l o).1+(if o.isSome then 1 else 0)
 |[],none=>by simp[nh,ny]
 |[],some acc=>by simp[nh,ny]
 |c::r,none=>by
  have h1:=B0 r none;have h2:=B0 r (some []);simp only[nh];split
  ·simpa[ny] using h2
  split
  ·simpa[ny] using h1
  simpa[ny] using h1
 |c::r,some acc=>by
  have h1:=B0 r none;have h2:=B0 r (some (acc++[c]));simp only[nh];split
  ·simpa[ny] using h1
  simpa using h2
theorem Jt:∀(l:List UInt8) (o:Option (List UInt8)),∀u∈(nh l o).1,u.ok
 |[],none=>by simp[nh]
 |[],some acc=>by simp[nh]
 |c::r,none=>by
  have h1:=Jt r none;have h2:=Jt r (some []);simp only[nh];split
  ·intro u hu;rcases af.1 hu with rfl|hu
   ·trivial
   exact h2 u hu
  rename_i CO;split
  ·intro u hu;rcases af.1 hu with rfl|hu
   ·trivial
   exact h1 u hu
  rename_i s9;intro u hu;rcases af.1 hu with rfl|hu
  ·exact⟨CO,s9⟩
  exact h1 u hu
 |c::r,some acc=>by
  have h1:=Jt r none;have h2:=Jt r (some (acc++[c]));simp only[nh];split
  ·intro u hu;rcases af.1 hu with rfl|hu
   ·exact⟨by decide,by decide⟩
   exact h1 u hu
  exact h2
theorem EN:∀(l:List UInt8) (o:Option (List UInt8)),(nh l o).1.length <=l.length
 |[],none=>by simp[nh]
 |[],some acc=>by simp[nh]
 |c::r,none=>by
  have h1:=EN r none;have h2:=EN r (some []);simp only[nh];split
  ·simp;omega
  split<;>(simp;omega)
 |c::r,some acc=>by
  have h1:=EN r none;have h2:=EN r (some (acc++[c]));simp only[nh];split
  ·simp;omega
  simp;omega
def uE:List UInt8->Prop
 |[]=>True
 |c::r=>c≠92/\(c=42->r=[])/\uE r
theorem GK:∀(l:List UInt8) (o:Option (List UInt8)),uE l->∀p r,(nh l o).1=p++.A ::r->r=[]
 |[],none,_=>by simp[nh]
 |[],some acc,_=>by simp[nh]
 |c::l,none,h=>by
  intro p r e;simp only[nh] at e;split at e
  ·cases p with
   |nil=>simp at e
   |cons a p=>simp only[aW,aM] at e;exact GK l _ h.2.2 p r e.2
  split at e
  ·rename_i s9;have:=h.2.1 s9;subst this
   cases p with
   |nil=>simp only[cv,aM,nh] at e;exact e.2.symm
   |cons a p=>simp only[aW,aM,nh] at e;simp at e
  cases p with
  |nil=>simp at e
  |cons a p=>simp only[aW,aM] at e;exact GK l _ h.2.2 p r e.2
 |c::l,some acc,h=>by
  intro p r e;simp only[nh] at e;split at e
  ·cases p with
   |nil=>simp at e
   |cons a p=>simp only[aW,aM] at e;exact GK l _ h.2.2 p r e.2
  exact GK l _ h.2.2 p r e
end Bw
namespace Go.Proofs.Ec
open Go Bw
theorem WC (w:World) (p:List UInt8) (hp:p.head? =some 47):Calls Tryd.prog 79 #[S p] w fun e w'=>e=.returned (S p)/\HF w (fun _=>False) [] w':=by
 obtain⟨r,rfl⟩:∃r,p=47::r:=by
  cases p with
  |nil=>cases hp
  |cons a r=>simp only[cw,bk] at hp;exact⟨r,by rw[hp]⟩
 refine enter (fun _=>False) [] Tryd.func79 rfl Tryd.ntmps79 rfl rfl (HF.start w _) fun c hc=>?_
 subst hc;refine gz<|gD ?_;refine gF<|gC ?_;refine gz<|gz ?_;refine gD<|gB ?_;refine gA (iE rfl rfl)<|gC<|gS rfl (fun h4=>absurd h4 (by simp)) (fun h4=>?_);refine gz<|gD ?_;refine gB<|gA (iG (i:=0) (b:=47) aa rfl rfl rfl) ?_;refine gA (iF rfl rfl)<|gC ?_;refine iJ rfl<|gL ?_;refine gz<|gD ?_;refine gB<|gF ?_;exact gC<|ic rfl rfl fun w' ia=>⟨rfl,ia⟩
def w6 (nA:List Tok) (bx:List UInt8) (Rn:List En):Prop:=∀e∈Rn,e.tk<+:nA/\(e.rm=none\/∃h',e.tk=nA/\e.rm=some (bx,h'))
theorem P8 (w:World):(Instr.build 147 #[]).run Tryd.prog w=.ok (.agg #[PO none,S [],.slice none 0 0]) w:=by
 simp[Instr.build,Tryd.zeroValue147,Instr.fill];rfl
theorem P9 (h:Nat) (pp:List UInt8) (ad:Option Addr) (l c:Nat) (w:World):(Instr.build 147 #[(1,S pp),(2,.slice ad l c),(0,Pt h 0)]).run Tryd.prog w=.ok (.agg #[PO (some h),S pp,.slice ad l c]) w:=by
 simp[Instr.build,Tryd.zeroValue147,Tryd.runUnderlying147,cN,ah,cB,qp,Instr.fill,tR,Cv,DX];rfl
theorem WD:∀(a r acc:List UInt8),(∀c∈a,c≠47)->nh (a++r) (some acc)=nh r (some (acc++a))
 |[],r,acc,_=>by simp
 |c::a,r,acc,h=>by
  have h1:=h c (.head _);simp only[aW,nh,if_neg h1];rw[WD a r _ fun x hx=>h x (.tail _ hx)];simp
theorem EO {td p r:List Tok} {u v:Tok} (h:td++[v]=p++u::r):(r=[]/\p=td/\u=v)\/∃r',r=r'++[v]/\td=p++u::r':=by
 rcases cV r with rfl|⟨r',w,rfl⟩
 ·have:=gk h rfl;refine .inl ⟨rfl,this.1.symm,?_⟩;simpa using this.2.symm
 rw[cW,show p++u::(r'++[w])=(p++u::r')++[w] by simp] at h;have:=gk h rfl;refine .inr ⟨r',?_,this.1⟩;rw[cW,this.2]
theorem _root_.Bw.uE.wx:∀{a r:List UInt8},uE (a++r)->uE r
 |[],_,h=>h
 |_::a,_,h=>Bw.uE.wx (a:=a) h.2.2
theorem aeC (w:World) (D:Nat->Prop) (T:List NR) (q:Nat->List Tok) (R:List En) (rb root rt eb zb z B hh:Nat) (bx p0:List UInt8) (nA:List Tok) (names:List (List UInt8)) (Bp:nh p0 none=(nA,names)) (oT:p0.head? =some 47)
  (GL:uE p0) (mM:p0.length<=1000) (py:bx.length<=1000) (hs:Sh T q R root) (Ju:∀e∈R,e.tk.length<=1000) (nk:∀r∈T,r.ok B) (hB:B+5000<1000000)
  (hH:HF w D (nF rb root rt eb::nI eb zb::nK zb rb z::mI T) w):
  Calls Tryd.prog 80 #[Pt rb 0,S bx,S p0,Pt hh 0] w fun e w'=>e=.returned (.tuple #[])/\∃T' q' Rn h pad mR Hn,Sh T' q' (⟨nA,some (bx,h)⟩::Rn++R) root/\w6 nA bx Rn/\(∀r∈T',r.ok (B+5000))/\Own 9 1 (.slice pad names.length mR) names.length (names.map S) Hn/\
   HF w D (nT h (some hh) p0 pad names.length mR::nF rb root rt eb::nI eb zb::nK zb rb (max z names.length)::(mI T'++Hn)) w':=by
 have wb:(nh p0 none).1=nA:=by rw[Bp]
 have WE:(nh p0 none).2=names:=by rw[Bp]
 have rY:nA.length<=p0.length:=wb▸EN p0 none;have u3:∀u∈nA,u.ok:=wb▸Jt p0 none;have Jv:∀p r,nA=p++.A ::r->r=[]:=fun p r e=>GK p0 none GL p r (wb.trans e)
 have WG:names.length=ny nA:=by have:=B0 p0 none;rw[wb,WE] at this;simpa using this
 have tc:nA.head? =some (.b 47):=by
  rw[<-wb]
  cases p0 with
  |nil=>cases oT
  |cons a r=>simp only[cw,bk] at oT;subst oT;rfl
 have GN:∀(Rn:List En),w6 nA bx Rn->∀e∈Rn++R,e.tk.length<=1000:=fun Rn h e he=>by
  rcases aB.1 he with he|he
  ·have:=(h e he).1.length_le;omega
  exact Ju e he
 have Jw:∀td,td<+:nA->td≠[]->td.head? =some (.b 47):=fun td h h0=>by
  obtain⟨u,hu⟩:=h;rw[<-hu] at tc
  cases td with
  |nil=>exact absurd rfl h0
  |cons a l=>exact tc
 refine enter D (nF rb root rt eb::nI eb zb::nK zb rb z::mI T) Tryd.func80 rfl Tryd.ntmps80 rfl rfl hH fun c hc=>?_
 subst hc;refine gz<|gD<|gB<|iw Tryd.call79 rfl rfl (fun w1 _=>WC w1 p0 oT)<|gF<|gC<|gz<|gD<|jO (kb:=.row [] 9 (0,0)) (v:=fun b=>Sx b 0 0) (fun a w1 ha fa=>?_) rfl (fun nb ti=>?_)
 ·have h0:Array.range 0= #[]:=rfl;simp[execOp,Instr.buildSlice,underlying,aE,ah,Instr.fill,newRow,oe.den,h0]
 refine gF<|gC<|gz<|gD<|gB<|gF<|gC<|gz<|gz<|gD<|gB<|gA (ig aa rfl)<|gF<|gF<|gC<|gW<|hO (H':=nF rb root rt eb::nI eb zb::nK zb rb z::(mI T++[Rx nb [] 9])) (fun w1 fa=>fa.perm (aF (l₁:=[(Rx nb [] 9:oJ)]))) ?_
 refine iC (fun N bc H'=>∃td rest ns pad mR Hn T1 q1 Rn i z1 k,List.length rest=N/\nA=td++(nh rest none).1/\names=ns++(nh rest none).2/\uE rest/\(∀c∈tb td,c≠92)/\td.length+rest.length<=p0.length/\(i=td.length\/(rest=[]/\i=td.length+1))/\(td=[]->rest=p0)/\
   Sh T1 q1 (Rn++R) root/\w6 nA bx Rn/\(∀p u r,td=p++u::r->¬u.st->∃e∈Rn,e.tk=p++[u])/\(∀r∈T1,r.ok (B+4*td.length))/\Own 9 1 (.slice pad ns.length mR) ns.length (ns.map S) Hn/\k<=names.length/\z1=max z k/\
   Sub [(0,Pt rb 0),(1,S bx),(2,S (tb td++rest)),(3,Pt hh 0),(8,.slice pad ns.length mR),(9,S p0),(10,I ((i:Nat):Int)),(11,I (((tb td++rest).length :Nat):Int))] bc/\H'=nF rb root rt eb::nI eb zb::nK zb rb z1::(mI T1++Hn)) p0.length
  ⟨[],p0,[],some ⟨nb,0,none⟩,0,[Rx nb [] 9],T,q,[],0,z,0,rfl,wb.symm,WE.symm,GL,fun c hc=>(by cases hc),by simp,.inl rfl,fun _=>rfl,hs,fun e he=>(by cases he),fun p u r e=>(by cases p<;>cases e),fun r hr=>(nk r hr).mono (by omega),.row (spare:=[]) rfl rfl (bI _),bM _,(by simp),.of rfl,rfl⟩ ?_
 rintro N bc H' ⟨td,rest,ns,pad,mR,Hn,T1,q1,Rn,i,z1,k,hN,ht,hn,L5,oE,hlen,hi,WH,B3,A5,pW,Gq,nx,hk,Jx,px,rfl⟩ ih;refine gN px ?_;clear px;have Qa:(tb td).length =td.length:=by simp[tb]
 have za:td<+:nA:=⟨_,ht.symm⟩
 have GO:ns.length=ny td:=by
  have h1:=B0 rest none;have h2:=congrArg ny ht;have h3:=congrArg List.length hn;rw[BW] at h2;simp at h1 h3;omega
 have ajG:ns.length<=td.length:=by rw[GO,ny];exact List.length_filter_le _ _
 refine gz<|gz<|gD<|gB<|gB<|gA (ik rfl rfl)<|gC<|gS rfl (fun yA=>?_) (fun yA=>?_)
 ·refine gL<|gz<|gW<|gz ?_
  have BK:i=td.length:=by
   rcases hi with h|⟨h,h2⟩
   ·exact h
   rw[h] at yA;simp at yA;omega
  subst BK
  obtain⟨c,r7,rfl⟩:∃c r7,rest=c::r7:=by
   cases rest with
   |nil=>simp at yA;omega
   |cons c r=>exact⟨c,r,rfl⟩
  have V4:(tb td++c::r7).length =td.length+(r7.length+1):=by simp[tb]
  simp only[aI] at hlen hN;have WI:(tb td++c::r7)[td.length]? =some c:=by rw[bO (by omega),Qa];simp
  refine gD<|gB<|gB<|gA (iG (i:=td.length) (b:=c) aa rfl rfl WI)<|gA (ie rfl rfl)<|gC<|gS rfl (fun GP=>?_) (fun GP=>?_)
  ·refine gz<|gz ?_;have hc:c=58:=bU.1 (show c.toNat=58 by omega);subst hc
   have GR:td≠[]:=fun e=>by
    have:=WH e;rw[<-this] at oT;simp at oT
   have ajH:0<td.length:=aU.2 GR;have aeD:nh (58::r7) none=(.P ::(nh r7 (some [])).1,(nh r7 (some [])).2):=rfl;rw[aeD] at ht hn;refine gD<|gB<|gA (iS rfl rfl)<|gB<|gZ 30 rfl (fun th=>?_) (fun th=>?_)
   ·have hgi:=of_decide_eq_true th;refine gU<|gU ?_;refine gI (iM (r:=((td.length-1:Nat):Int)) rfl rfl (by omega) (by omega) (by omega)) ?_
    obtain⟨x,y5,Dt⟩:∃x,(tb td++58::r7)[td.length-1]? =some x/\x≠92:=by
     have mS:td.length-1<(tb td).length :=by omega
     rw[ak mS];exact⟨(tb td)[td.length-1],ao mS,oE _ (eG mS)⟩
    refine gI (iG (i:=td.length-1) (b:=x) aa rfl rfl y5) ?_;refine gI (ie rfl rfl) ?_;refine gT ?_;refine gC ?_;refine gS rfl (fun yX=>absurd (bU.1 (show x.toNat=92 by omega)) Dt) (fun yX=>?_);refine gL ?_;refine gz ?_;refine gD ?_;refine gB ?_;refine gA (iB rfl rfl rfl (by omega) (by omega)) ?_;refine gF ?_;refine gC ?_;refine gz ?_;refine gD ?_;refine gB ?_;refine gB ?_;refine gB ?_;refine gB ?_;refine gA (jZ (l':=tb td) aa rfl rfl (by omega) (by rw[cE (by omega),bJ (by omega)])) ?_;refine gA (iN (vs:=[]) rfl (fun w1=>P8 w1)) ?_;have Jy:BZ T1 q1 0 none 0 td:=⟨fun u hu=>u3 u (za.subset hu),Jw td za GR,fun p r e=>(Jv p (r++(.P ::(nh r7 (some [])).1)) (by rw[ht,e];simp)|>fun h=>(eX.1 h).1),fun p u r e hu=>.inl (by obtain⟨e1,w7,we⟩:=pW p u r e hu;obtain⟨y,hy,hq⟩:=B3.uZ e1 (ay _ w7);exact⟨y,hy,hq.trans we⟩),fun h=>(by cases h),fun h=>(by cases h),by omega,fun h=>(by cases h),fun h=>(by cases h)⟩;refine j0 B3 (nA:=td) (t:=0) (hp:=none) (pp:=[]) (pad:=none) (np:=0) (mR:=0) (z:=z1) Jy (GN _ A5) Gq (by omega) py (by omega) rfl rfl rfl (fun h2 T2 q2 Dx wZ=>?_);rw[Nat.max_eq_left (bM z1)];refine jb (fun w1 fa=>fa.sub (ai _ _)) ?_;refine gC ?_;refine gz ?_;refine hY (fun bc H'=>∃acc qO,r7=acc++qO/\(∀c∈acc,c≠47)/\(qO=[]\/∃r,qO=47::r)/\Sub [(0,Pt rb 0),(1,S bx),(2,S (tb td++58::r7)),(3,Pt hh 0),(8,.slice pad ns.length mR),(9,S p0),(11,I (((tb td++58::r7).length :Nat):Int)),(12,I ((td.length+1:Nat):Int)),(10,I ((td.length+1+acc.length:Nat):Int))] bc/\H'=nF rb root rt eb::nI eb zb::nK zb rb z1::(mI T2++Hn)) (fun J2=>?_) ?_
    ·refine gW ?_
     refine iC (fun N bc H'=>∃sc qO,58::r7=sc++qO/\List.length qO=N/\(∀c∈sc,c≠47)/\Sub [(0,Pt rb 0),(1,S bx),(2,S (tb td++58::r7)),(3,Pt hh 0),(8,.slice pad ns.length mR),(9,S p0),(11,I (((tb td++58::r7).length :Nat):Int)),(12,I ((td.length+1:Nat):Int)),(10,I ((td.length+sc.length:Nat):Int))] bc/\H'=nF rb root rt eb::nI eb zb::nK zb rb z1::(mI T2++Hn)) (r7.length+1)
      ⟨[],58::r7,rfl,rfl,fun c hc=>(by cases hc),.of rfl,rfl⟩ ?_
     rintro N2 bc H' ⟨sc,qO,ph,WJ,ot,mJ,rfl⟩ qz;refine gN mJ ?_;clear mJ;have WK:sc.length+qO.length=r7.length+1:=by have:=congrArg List.length ph;simp at this;omega
     refine gz<|gz<|gD<|gB<|gB<|gA (ik rfl rfl)<|gB<|gZ 61 rfl (fun w8=>?_) (fun w8=>?_)
     ·have mS:=of_decide_eq_true w8
      obtain⟨x,GU,rfl⟩:∃x GU,qO=x::GU:=by
       cases qO with
       |nil=>simp at WK;omega
       |cons x r=>exact⟨x,r,rfl⟩
      have HG:(tb td++58::r7)[td.length+sc.length]? =some x:=by rw[ph,<-aw,bO (by simp[tb]),ax,Qa];simp
      refine gU<|gU<|gI (iG (i:=td.length+sc.length) (b:=x) aa rfl rfl HG)<|gI (iF rfl rfl)<|gT<|gC<|gV rfl (fun L6=>?_) (fun L6=>?_)
      ·refine gL ?_;refine gz ?_;refine gW ?_;refine gL ?_;refine il ?_;refine gD ?_;refine gB ?_;refine gA (iB (r:=((td.length+(sc++[x]).length :Nat):Int)) rfl rfl (by simp;omega) (by omega) (by simp;omega)) ?_;refine gF ?_;refine gC ?_
       exact qz (N2-1) _ _ (by simp at WJ;omega) ⟨sc++[x],GU,by rw[ph];simp,by simp at WJ;omega,fun c hc=>(by
        rcases aB.1 hc with hc|hc
        ·exact ot c hc
        rw[aj.1 hc];intro e;rw[e] at L6;simp at L6),.of rfl,rfl⟩
      refine ir rfl ?_
      have hx:x=47:=by
       have:(x.toNat:Int)=47:=by simpa using L6
       exact bU.1 (show x.toNat=47 by omega)
      subst hx;have rT:(47::GU=[]\/∃r,47::GU=47::r):=.inr ⟨_,rfl⟩
      cases sc with
      |nil=>exfalso;simp at ph<;>simp_all
      |cons a acc=>
       simp only[aW,aM] at ph;obtain⟨rfl,rfl⟩:=ph;refine J2 _ _ ⟨acc,(47::GU),rfl,fun c hc=>ot c (.tail _ hc),rT,?_,rfl⟩;rw[show td.length+1+acc.length=td.length+(58::acc).length by simp;omega];exact .of rfl
     refine gE ?_;refine gE ?_;refine gE ?_;refine gE ?_;refine hG ?_;refine gC ?_;refine iJ rfl ?_;refine ir rfl ?_;have Bi:=of_decide_eq_false w8
     have Dy:qO=[]:=by
      cases qO with
      |nil=>rfl
      |cons x r=>exfalso;simp at WK;omega
     subst Dy;have rT:(([]:List UInt8)=[]\/∃r,([]:List UInt8)=47::r):=.inl rfl
     cases sc with
     |nil=>exfalso;simp at ph
     |cons a acc=>
      simp only[aW,aM] at ph;obtain⟨rfl,rfl⟩:=ph;refine J2 _ _ ⟨acc,[],rfl,fun c hc=>ot c (.tail _ hc),rT,?_,rfl⟩;rw[show td.length+1+acc.length=td.length+(58::acc).length by simp;omega];exact .of rfl
    rintro bc H' ⟨acc,qO,rfl,aeE,rT,mJ,rfl⟩;refine gN mJ ?_;clear mJ
    have EP:w6 nA bx (⟨td,none⟩::⟨td,none⟩::Rn):=fun e he=>by
     simp only[af] at he;rcases he with rfl|rfl|he
     ·exact⟨za,.inl rfl⟩
     ·exact⟨za,.inl rfl⟩
     exact A5 e he
    refine gz ?_;have ajJ:(tb td++58::(acc++qO)).length =td.length+(1+acc.length+qO.length):=by simp[tb];omega
    have pN:acc.length+qO.length=(acc++qO).length :=by simp
    have WL:=WD acc qO [] aeE;rw[cv] at WL;rw[WL] at ht hn
    have xU:((tb td++58::(acc++qO)).take (td.length+1+acc.length)).drop (td.length+1)=acc:=by
     have e1:(tb td++58::(acc++qO))=(tb td++[58])++(acc++qO):=by simp
     have e2:(tb td++[58]).length =td.length+1:=by simp[tb]
     rw[e1,List.take_append,bJ (by omega),e2,gj,bE (by omega),e2];simp
    refine gD<|gB<|gB<|gB<|gB<|gA (j7 (l':=acc) aa rfl rfl rfl (by omega) (by omega) xU)<|je (jn aE ah ck (v:=S acc) rfl) rfl rfl (fun zQ aeF=>?_);refine jA (i:=Tryd.t9) (sz:=1) (qg:=16) aE rfl rfl rfl rfl rfl rfl rfl nx (H':=(Rx zQ [S acc] 9::nF rb root rt eb::nI eb zb::nK zb rb z1::mI T2)) ?_ (vf (vs:=[S acc]) (r:=[]) (.head _)) rfl (by simp[Value.oneCell']) (by omega) (by omega) (by omega) rfl (fun AJ rU oS=>?_)
    ·have p:=oN [[Rx zQ [S acc] 9,nF rb root rt eb,nI eb zb,nK zb rb z1],mI T2,Hn] [0,1,2] [2,0,1] (by decide);refine List.Perm.trans (.of_eq ?_) (p.trans (.of_eq ?_))<;>simp
    obtain⟨A6,A7,rfl⟩:=oS.slice;refine jb (H':=nF rb root rt eb::nI eb zb::nK zb rb z1::(mI T2++rU)) (fun w1 fa=>HF.sub (H:=(Rx zQ [S acc] 9::nF rb root rt eb::nI eb zb::nK zb rb z1::mI T2)++rU) fa (ai _ _))<|gF<|gC<|gz ?_
    have Pv:(tb td++58::(acc++qO)).take (td.length+1)=tb td++[58]:=by
     have e1:(tb td++58::(acc++qO))=(tb td++[58])++(acc++qO):=by simp
     rw[e1,cE (by simp[tb]),bJ (by simp[tb])]
    have tS:(tb td++58::(acc++qO)).drop (td.length+1+acc.length)=qO:=by
     have e1:(tb td++58::(acc++qO))=(tb td++58::acc)++qO:=by simp
     have e3:td.length+1+acc.length-(tb td++58::acc).length =0:=by simp[tb];omega
     rw[e1,gj,bE (by simp[tb];omega),e3];simp
    refine iV mixed (by kernel_rfl)<|gK (gM rfl)<|gK (gM rfl)<|gK (jZ aa rfl rfl (by omega) Pv)<|gK (gM rfl)<|gK (gM rfl)<|gK (jV aa rfl rfl (by omega) tS)<|gK (iR rfl rfl (by simp[tb];omega))<|gK (iT rfl)<|iH<|gz ?_;have w9:td++[Tok.P]<+:nA:=⟨(nh qO (some acc)).1,by rw[ht];simp⟩;have Ip:(tb td++[58]++qO).length =td.length+1+qO.length:=by simp[tb];omega
    have Dz:tb (td++[Tok.P])=tb td++[58]:=by simp[tb,Tok.byte]
    have WM:(tb td++[58]++qO).take (td.length+1)=tb (td++[Tok.P]):=by rw[Dz,cE (by simp[tb]),bJ (by simp[tb])]
    refine gD<|gB<|gB<|gA (ig aa rfl)<|gF<|gF<|gC<|gz ?_
    have CX:∀(hp:Option Nat) (np:Nat),(hp.isSome=true->np=ny (td++[Tok.P]))->(1=2->hp.isSome=true)->BZ T2 q2 1 hp np (td++[Tok.P]):=by
     intro hp np og rR;refine⟨fun u hu=>u3 u (w9.subset hu),Jw _ w9 (by simp),fun p r e=>?_,fun p u r e hu=>?_,fun h=>⟨td,rfl⟩,fun h=>(by cases h),by omega,og,rR⟩
     ·obtain⟨x,hx⟩:=w9;rw[e] at hx;exact(eX.1 (Jv p (r++x) (by rw[<-hx];simp))).1
     rcases EO e with⟨h1,h2,h3⟩|⟨r1,h1,h2⟩
     ·obtain⟨y,hy,hq⟩:=Dx.uZ ⟨td,none⟩ (.head _);exact .inr ⟨h1,⟨y,hy,by rw[h2];exact hq⟩,.inl ⟨rfl,h3⟩⟩
     obtain⟨e1,w7,we⟩:=pW p u r1 h2 hu;obtain⟨y,hy,hq⟩:=Dx.uZ e1 (.tail _ (.tail _ (ay _ w7)));exact .inl ⟨y,hy,hq.trans we⟩
    have Qb:ns.length+1=ny (td++[Tok.P]):=by rw[BW,GO];rfl
    refine gD<|gB<|gB<|gA (ie rfl rfl)<|gC<|gS rfl (fun tF=>?_) (fun tF=>?_)
    ·have Dy:qO=[]:=bw.1 (by omega);subst Dy;have qQ:nA=td++[Tok.P]:=ht;have pI:names=ns++[acc]:=hn;refine gD ?_;refine gB ?_;refine gB ?_;refine gB ?_;refine gB ?_;refine gA (jZ aa rfl rfl (by omega) WM) ?_;refine gB ?_;refine gB ?_;refine gB ?_;refine gA (iN (vs:=[(1,S p0),(2,.slice A6 (ns.length+1) A7),(0,Pt hh 0)]) rfl (fun w1=>P9 hh p0 A6 (ns.length+1) A7 w1)) ?_;refine j0 Dx (nA:=td++[Tok.P]) (t:=1) (hp:=some hh) (pp:=p0) (pad:=A6) (np:=ns.length+1) (mR:=A7) (z:=z1) (CX (some hh) (ns.length+1) (fun _=>Qb) (fun _=>rfl)) (GN _ EP) wZ (by omega) py (by rw[<-qQ];omega) rfl rfl rfl (fun h3 T3 q3 EQ ER=>?_);refine jb (fun w1 fa=>fa.sub (ai _ _)) ?_;refine gC ?_;refine il ?_;refine gD ?_;refine gB ?_;refine gA (iB rfl rfl rfl (by omega) (by omega)) ?_;refine gF ?_;refine gC ?_
     have Jz:w6 nA bx (⟨(td++[Tok.P]),some (bx,h3)⟩::⟨(td++[Tok.P]),none⟩::⟨td,none⟩::⟨td,none⟩::Rn):=fun e he=>by
      rcases af.1 he with rfl|he
      ·exact⟨w9,.inr ⟨h3,by rw[qQ],rfl⟩⟩
      rcases af.1 he with rfl|he
      ·exact⟨w9,.inl rfl⟩
      exact EP e he
     have JA:∀p u r,(td++[Tok.P])=p++u::r->¬u.st->∃e∈((⟨(td++[Tok.P]),some (bx,h3)⟩::⟨(td++[Tok.P]),none⟩::⟨td,none⟩::⟨td,none⟩::Rn):List En),e.tk=p++[u]:=fun p u r e hu=>by
      rcases EO e with⟨h1,h2,h3⟩|⟨r1,h1,h2⟩
      ·exact⟨_,.head _,by rw[h2,h3]⟩
      obtain⟨e1,w7,we⟩:=pW p u r1 h2 hu;exact⟨e1,.tail _ (.tail _ (.tail _ (.tail _ w7))),we⟩
     refine ih 0 _ _ (by simp at hN;omega) ⟨td++[Tok.P],[],ns++[acc],A6,A7,rU,T3,q3,⟨td++[Tok.P],some (bx,h3)⟩::⟨td++[Tok.P],none⟩::⟨td,none⟩::⟨td,none⟩::Rn,td.length+2,max z1 (ns.length+1),max k (ns.length+1),rfl,by rw[qQ];simp[nh],by rw[pI];simp[nh],trivial,?_,by simp;omega,.inr ⟨rfl,by simp⟩,fun h=>by simp at h,EQ,Jz,JA,fun r hr=>(ER r hr).mono (by simp;omega),?_,?_,by rw[Jx];omega,?_,rfl⟩
     ·intro c hc;rw[Dz] at hc;rcases aB.1 hc with hc|hc
      ·exact oE c hc
      rw[aj.1 hc];decide
     ·simpa using oS
     ·rw[pI] at hk⊢;simp at hk⊢;omega
     rw[show tb (td++[Tok.P])++([]:List UInt8)=tb td++[58]++[] by rw[Dz],show(ns++[acc]).length =ns.length+1 by simp];exact .of rfl
    obtain⟨r4,rfl⟩:∃r,qO=47::r:=by
     rcases rT with h|h
     ·exact absurd (by rw[h] at Ip⊢;simp[tb]) tF
     exact h
    have sq:nA=td++[Tok.P,Tok.b 47]++(nh r4 none).1:=by rw[ht];simp[nh]
    have tU:names=ns++[acc]++(nh r4 none).2:=by rw[hn];simp[nh]
    have ajK:=w9.length_le;refine gD ?_;refine gB ?_;refine gB ?_;refine gB ?_;refine gB ?_;refine gA (jZ aa rfl rfl (by omega) WM) ?_;refine gA (iN (vs:=[]) rfl (fun w1=>P8 w1)) ?_;refine j0 Dx (nA:=td++[Tok.P]) (t:=1) (hp:=none) (pp:=[]) (pad:=none) (np:=0) (mR:=0) (z:=z1) (CX none 0 (fun h=>by cases h) (fun h=>by cases h)) (GN _ EP) wZ (by omega) py (by omega) rfl rfl rfl (fun h3 T3 q3 EQ ER=>?_);rw[Nat.max_eq_left (bM z1)];refine jb (fun w1 fa=>fa.sub (ai _ _)) ?_;refine gC ?_;refine il ?_;refine gD ?_;refine gB ?_;refine gA (iB rfl rfl rfl (by omega) (by omega)) ?_;refine gF ?_;refine gC ?_
    have Jz:w6 nA bx (⟨(td++[Tok.P]),none⟩::⟨(td++[Tok.P]),none⟩::⟨td,none⟩::⟨td,none⟩::Rn):=fun e he=>by
     rcases af.1 he with rfl|he
     ·exact⟨w9,.inl rfl⟩
     rcases af.1 he with rfl|he
     ·exact⟨w9,.inl rfl⟩
     exact EP e he
    have JA:∀p u r,(td++[Tok.P])=p++u::r->¬u.st->∃e∈((⟨(td++[Tok.P]),none⟩::⟨(td++[Tok.P]),none⟩::⟨td,none⟩::⟨td,none⟩::Rn):List En),e.tk=p++[u]:=fun p u r e hu=>by
     rcases EO e with⟨h1,h2,h3⟩|⟨r1,h1,h2⟩
     ·exact⟨_,.head _,by rw[h2,h3]⟩
     obtain⟨e1,w7,we⟩:=pW p u r1 h2 hu;exact⟨e1,.tail _ (.tail _ (.tail _ (.tail _ w7))),we⟩
    have L7:tb (td++[Tok.P,Tok.b 47])++r4=tb td++[58]++47::r4:=by simp[tb,Tok.byte]
    refine ih r4.length _ _ (by simp at hN;omega) ⟨td++[Tok.P,Tok.b 47],r4,ns++[acc],A6,A7,rU,T3,q3,⟨td++[Tok.P],none⟩::⟨td++[Tok.P],none⟩::⟨td,none⟩::⟨td,none⟩::Rn,td.length+2,z1,k,rfl,sq,tU,L5.2.2.wx.2.2,?_,by simp at hlen⊢;omega,.inl (by simp),fun h=>by simp at h,EQ,Jz,?_,fun r hr=>(ER r hr).mono (by simp;omega),?_,hk,Jx,?_,rfl⟩
    ·intro c hc;rw[show tb (td++[Tok.P,Tok.b 47])=tb td++[58,47] by simp[tb,Tok.byte]] at hc;rcases aB.1 hc with hc|hc
     ·exact oE c hc
     simp only[af,aC,or_false] at hc;rcases hc with rfl|rfl<;>decide
    ·intro p u r e hu;have e2:(td++[Tok.P])++[Tok.b 47]=p++u::r:=by rw[<-e];simp
     rcases EO e2 with⟨h1,h2,h3⟩|⟨r1,h1,h2⟩
     ·exact absurd (by rw[h3];exact⟨by decide,by decide⟩) hu
     exact JA p u r1 h2 hu
    ·simpa using oS
    rw[L7,show(ns++[acc]).length =ns.length+1 by simp];exact .of rfl
   exact absurd th (by simp;omega)
  refine gz<|gD<|gB<|gB<|gA (iG (i:=td.length) (b:=c) aa rfl rfl WI)<|gA (ie rfl rfl)<|gC<|gS rfl (fun WN=>?_) (fun WN=>?_)
  ·refine gz ?_;have hc:c=42:=bU.1 (show c.toNat=42 by omega);subst hc;have JB:r7=[]:=L5.2.1 rfl;subst JB
   have GR:td≠[]:=fun e=>by
    have:=WH e;rw[<-this] at oT;simp at oT
   have qQ:nA=td++[Tok.A]:=ht;have pI:names=ns++[[42]]:=hn;have w9:td++[Tok.A]<+:nA:=⟨[],by rw[qQ];simp⟩;have Dz:tb (td++[Tok.A])=tb td++[42]:=by simp[tb,Tok.byte]
   refine gD ?_;refine gB ?_;refine gB ?_;refine gB ?_;refine gB ?_;refine gA (jZ (l':=tb td) aa rfl rfl (by omega) (by rw[cE (by omega),bJ (by omega)])) ?_;refine gA (iN (vs:=[]) rfl (fun w1=>P8 w1)) ?_;have Jy:BZ T1 q1 0 none 0 td:=⟨fun u hu=>u3 u (za.subset hu),Jw td za GR,fun p r e=>(Jv p (r++[Tok.A]) (by rw[qQ,e];simp)|>fun h=>(eX.1 h).1),fun p u r e hu=>.inl (by obtain⟨e1,w7,we⟩:=pW p u r e hu;obtain⟨y,hy,hq⟩:=B3.uZ e1 (ay _ w7);exact⟨y,hy,hq.trans we⟩),fun h=>(by cases h),fun h=>(by cases h),by omega,fun h=>(by cases h),fun h=>(by cases h)⟩;refine j0 B3 (nA:=td) (t:=0) (hp:=none) (pp:=[]) (pad:=none) (np:=0) (mR:=0) (z:=z1) Jy (GN _ A5) Gq (by omega) py (by omega) rfl rfl rfl (fun h2 T2 q2 Dx wZ=>?_);rw[Nat.max_eq_left (bM z1)];refine jb (fun w1 fa=>fa.sub (ai _ _)) ?_
   have EP:w6 nA bx (⟨td,none⟩::⟨td,none⟩::Rn):=fun e he=>by
    simp only[af] at he;rcases he with rfl|rfl|he
    ·exact⟨za,.inl rfl⟩
    ·exact⟨za,.inl rfl⟩
    exact A5 e he
   refine gC<|gz<|gD<|gB<|je (jn aE ah ck (v:=S [42]) rfl) rfl rfl (fun zQ aeF=>?_);refine jA (i:=Tryd.t9) (sz:=1) (qg:=16) aE rfl rfl rfl rfl rfl rfl rfl nx (H':=(Rx zQ [S [42]] 9::nF rb root rt eb::nI eb zb::nK zb rb z1::mI T2)) ?_ (vf (vs:=[S [42]]) (r:=[]) (.head _)) rfl (by simp[Value.oneCell']) (by omega) (by omega) (by omega) rfl (fun AJ rU oS=>?_)
   ·have p:=oN [[Rx zQ [S [42]] 9,nF rb root rt eb,nI eb zb,nK zb rb z1],mI T2,Hn] [0,1,2] [2,0,1] (by decide);refine List.Perm.trans (.of_eq ?_) (p.trans (.of_eq ?_))<;>simp
   obtain⟨A6,A7,rfl⟩:=oS.slice;refine jb (H':=nF rb root rt eb::nI eb zb::nK zb rb z1::(mI T2++rU)) (fun w1 fa=>HF.sub (H:=(Rx zQ [S [42]] 9::nF rb root rt eb::nI eb zb::nK zb rb z1::mI T2)++rU) fa (ai _ _))<|gF<|gC ?_
   have CX:∀(hp:Option Nat) (np:Nat),(hp.isSome=true->np=ny (td++[Tok.A]))->(2=2->hp.isSome=true)->BZ T2 q2 2 hp np (td++[Tok.A]):=by
    intro hp np og rR;refine⟨fun u hu=>u3 u (w9.subset hu),Jw _ w9 (by simp),fun p r e=>?_,fun p u r e hu=>?_,fun h=>(by cases h),fun h=>⟨td,rfl⟩,by omega,og,rR⟩
    ·obtain⟨x,hx⟩:=w9;rw[e] at hx;exact(eX.1 (Jv p (r++x) (by rw[<-hx];simp))).1
    rcases EO e with⟨h1,h2,h3⟩|⟨r1,h1,h2⟩
    ·obtain⟨y,hy,hq⟩:=Dx.uZ ⟨td,none⟩ (.head _);exact .inr ⟨h1,⟨y,hy,by rw[h2];exact hq⟩,.inr ⟨rfl,h3⟩⟩
    obtain⟨e1,w7,we⟩:=pW p u r1 h2 hu;obtain⟨y,hy,hq⟩:=Dx.uZ e1 (.tail _ (.tail _ (ay _ w7)));exact .inl ⟨y,hy,hq.trans we⟩
   have Qb:ns.length+1=ny (td++[Tok.A]):=by rw[BW,GO];rfl
   have aeG:=w9.length_le;refine gD ?_;refine gB ?_;refine gB ?_;refine gB ?_;refine gB ?_;refine gA (iB (r:=((td.length+1:Nat):Int)) rfl rfl (by omega) (by omega) (by omega)) ?_;refine gA (jZ (l':=tb (td++[Tok.A])) aa rfl rfl (by omega) (by rw[Dz,bJ (by simp[tb])])) ?_;refine gB ?_;refine gB ?_;refine gB ?_;refine gA (iN (vs:=[(1,S p0),(2,.slice A6 (ns.length+1) A7),(0,Pt hh 0)]) rfl (fun w1=>P9 hh p0 A6 (ns.length+1) A7 w1)) ?_;refine j0 Dx (nA:=td++[Tok.A]) (t:=2) (hp:=some hh) (pp:=p0) (pad:=A6) (np:=ns.length+1) (mR:=A7) (z:=z1) (CX (some hh) (ns.length+1) (fun _=>Qb) (fun _=>rfl)) (GN _ EP) wZ (by omega) py (by omega) rfl rfl rfl (fun h3 T3 q3 EQ ER=>?_);refine jb (fun w1 fa=>fa.sub (ai _ _)) ?_;refine gC ?_;refine il ?_;refine gD ?_;refine gB ?_;refine gA (iB rfl rfl rfl (by omega) (by omega)) ?_;refine gF ?_;refine gC ?_
   have Jz:w6 nA bx (⟨(td++[Tok.A]),some (bx,h3)⟩::⟨(td++[Tok.A]),none⟩::⟨td,none⟩::⟨td,none⟩::Rn):=fun e he=>by
    rcases af.1 he with rfl|he
    ·exact⟨w9,.inr ⟨h3,by rw[qQ],rfl⟩⟩
    rcases af.1 he with rfl|he
    ·exact⟨w9,.inl rfl⟩
    exact EP e he
   have JA:∀p u r,(td++[Tok.A])=p++u::r->¬u.st->∃e∈((⟨(td++[Tok.A]),some (bx,h3)⟩::⟨(td++[Tok.A]),none⟩::⟨td,none⟩::⟨td,none⟩::Rn):List En),e.tk=p++[u]:=fun p u r e hu=>by
    rcases EO e with⟨h1,h2,h3⟩|⟨r1,h1,h2⟩
    ·exact⟨_,.head _,by rw[h2,h3]⟩
    obtain⟨e1,w7,we⟩:=pW p u r1 h2 hu;exact⟨e1,.tail _ (.tail _ (.tail _ (.tail _ w7))),we⟩
   refine ih 0 _ _ (by simp at hN;omega) ⟨td++[Tok.A],[],ns++[[42]],A6,A7,rU,T3,q3,⟨td++[Tok.A],some (bx,h3)⟩::⟨td++[Tok.A],none⟩::⟨td,none⟩::⟨td,none⟩::Rn,td.length+1,max z1 (ns.length+1),max k (ns.length+1),rfl,by rw[qQ];simp[nh],by rw[pI];simp[nh],trivial,?_,by simp;omega,.inl (by simp),fun h=>by simp at h,EQ,Jz,JA,fun r hr=>(ER r hr).mono (by simp;omega),?_,?_,by rw[Jx];omega,?_,rfl⟩
   ·intro c hc;rw[Dz] at hc;rcases aB.1 hc with hc|hc
    ·exact oE c hc
    rw[aj.1 hc];decide
   ·simpa using oS
   ·rw[pI] at hk⊢;simp at hk⊢;omega
   rw[show tb (td++[Tok.A])++([]:List UInt8)=tb td++[42] by rw[Dz];simp,show(ns++[[(42:UInt8)]]).length =ns.length+1 by simp];exact .of rfl
  refine gL<|il ?_;refine gD<|gB ?_;refine gA (iB rfl rfl rfl (by omega) (by omega))<|gF ?_;refine gC ?_;have CO:c≠58:=fun e=>GP (by rw[e];rfl)
  have s9:c≠42:=fun e=>WN (by rw[e];rfl)
  have tf:nh (c::r7) none=(.b c::(nh r7 none).1,(nh r7 none).2):=by rw[nh,if_neg CO,if_neg s9]
  rw[tf] at ht hn;have L7:tb (td++[Tok.b c])++r7=tb td++c::r7:=by simp[tb,Tok.byte]
  refine ih r7.length _ _ (by omega) ⟨td++[Tok.b c],r7,ns,pad,mR,Hn,T1,q1,Rn,td.length+1,z1,k,rfl,by rw[ht];simp,hn,L5.2.2,?_,by simp;omega,.inl (by simp),fun h=>by simp at h,B3,A5,?_,fun r hr=>(Gq r hr).mono (by simp;omega),nx,hk,Jx,?_,rfl⟩
  ·intro x hx;rw[show tb (td++[Tok.b c])=tb td++[c] by simp[tb,Tok.byte]] at hx;rcases aB.1 hx with hx|hx
   ·exact oE x hx
   rw[aj.1 hx];exact L5.1
  ·intro p u r e hu;rcases EO e with⟨h1,h2,h3⟩|⟨r1,h1,h2⟩
   ·exact absurd (by rw[h3];exact⟨CO,s9⟩) hu
   exact pW p u r1 h2 hu
  rw[L7];exact .of rfl
 refine ir rfl ?_
 have Dy:rest=[]:=by
  rcases hi with h|⟨h,_⟩
  ·have:=Qa;simp at yA;exact bw.1 (by omega)
  exact h
 subst Dy;have qQ:td=nA:=by rw[ht];simp[nh]
 have pI:names=ns:=by rw[hn];simp[nh]
 have GR:td≠[]:=fun e=>by rw[<-qQ,e] at tc;cases tc
 have aeG:=za.length_le;have Jy:BZ T1 q1 0 (some hh) ns.length td:=⟨fun u hu=>u3 u (za.subset hu),Jw td za GR,fun p r e=>Jv p r (by rw[<-qQ,e]),fun p u r e hu=>.inl (by obtain⟨e1,w7,we⟩:=pW p u r e hu;obtain⟨y,hy,hq⟩:=B3.uZ e1 (ay _ w7);exact⟨y,hy,hq.trans we⟩),fun h=>(by cases h),fun h=>(by cases h),by omega,fun _=>GO,fun h=>rfl⟩;refine gD<|gB<|gB<|gB<|gB<|gB<|gB<|gA (iN (vs:=[(1,S p0),(2,.slice pad ns.length mR),(0,Pt hh 0)]) rfl (fun w1=>P9 hh p0 pad ns.length mR w1))<|j0 B3 (nA:=td) (t:=0) (hp:=some hh) (pp:=p0) (pad:=pad) (np:=ns.length) (mR:=mR) (z:=z1) (vs:=[Pt rb 0,S bx,S (tb td++[]),.int .u8 ((0:Nat):Int),.agg #[PO (some hh),S p0,.slice pad ns.length mR]]) Jy (GN _ A5) Gq (by omega) py (by omega) (by rw[aS]) rfl rfl (fun h3 T3 q3 EQ ER=>?_);refine gC<|jq rfl fun w' ia=>⟨rfl,T3,q3,⟨td,none⟩::Rn,h3,pad,mR,Hn,?_,?_,fun r hr=>(ER r hr).mono (by omega),pI▸nx,?_⟩
 ·rw[<-qQ];exact EQ
 ·intro e he;rcases af.1 he with rfl|he
  ·exact⟨za,.inl rfl⟩
  exact A5 e he
 rw[pI,show max z ns.length=max z1 ns.length by rw[Jx];rw[pI] at hk;omega];exact ia
end Go.Proofs.Ec
namespace Bw
open Go
variable {P:Program} {c:Cx} {n:Nat} {k:List Item} {fr:SF} {H:SH} {ops:Array Oper} {rest tail:List Oper} {ty:TypeId} {pos:String} {mG:Array Edge} {S:World->Prop}
end Bw
namespace Go.Proofs.Ec
open Go Bw
theorem yB (w:World) (i:Int):Calls Tryd.prog 50 #[I i] w fun e w'=>∃b,e=.returned (Pt b 0)/\HF w (fun _=>False) [Rx b [I i] 3] w':=by
 refine enter (fun _=>False) [] Tryd.func50 rfl Tryd.ntmps50 rfl rfl (HF.start w _) fun c hc=>?_
 subst hc;refine gz<|gD<|jc (l:=[I i]) rfl rfl rfl (fun b hb=>?_);exact gF<|gC<|gz<|gD<|gF<|gC<|ic rfl rfl fun w' ia=>⟨b,rfl,ia⟩
def uf (rt:Nat) (kv:KV):oJ:=⟨rt,true,.obj (pG kv)⟩
def GV (nb:Nat) (bx p name:List UInt8):oJ:=Rx nb [S bx,S p,S name] 166
theorem aeH (a b c:List UInt8) (w:World):(Instr.build 166 #[(0,S a),(1,S b),(2,S c)]).run Tryd.prog w=.ok (.agg #[S a,S b,S c]) w:=by
 simp[Instr.build,Tryd.zeroValue166,Tryd.runUnderlying166,ah,qp,Instr.fill,tR]
theorem La (w:World) (D:Nat->Prop) (T:List NR) (q:Nat->List Tok) (R:List En) (rb root rt eb zb z B hh:Nat) (tm:KV) (bx p0 name:List UInt8) (nA:List Tok) (names:List (List UInt8)) (Bp:nh p0 none=(nA,names)) (oT:p0.head? =some 47)
  (GL:uE p0) (mM:p0.length<=1000) (py:bx.length<=1000) (hs:Sh T q R root) (Ju:∀e∈R,e.tk.length<=1000) (nk:∀r∈T,r.ok B) (hB:B+5000<1000000)
  (hH:HF w D (nF rb root rt eb::nI eb zb::nK zb rb z::uf rt tm::mI T) w) (ajL:True):
  Calls Tryd.prog 64 #[Pt rb 0,S bx,S p0,S name,Pt hh 0] w fun e w'=>∃nb T' q' Rn h pad mR Hn,e=.returned (Pt nb 0)/\Sh T' q' (⟨nA,some (bx,h)⟩::Rn++R) root/\w6 nA bx Rn/\(∀r∈T',r.ok (B+5000))/\Own 9 1 (.slice pad names.length mR) names.length (names.map S) Hn/\
   HF w D (GV nb bx p0 name::uf rt (ug tm (bx++p0) (Pt nb 0))::nT h (some hh) p0 pad names.length mR::nF rb root rt eb::nI eb zb::nK zb rb (max z names.length)::(mI T'++Hn)) w':=by
 refine enter D (nF rb root rt eb::nI eb zb::nK zb rb z::uf rt tm::mI T) Tryd.func64 rfl Tryd.ntmps64 rfl rfl hH fun c hc=>?_
 subst hc;refine gz<|gD<|gF<|gC<|gz<|gD<|gB<|iw Tryd.call79 rfl rfl (fun w1 _=>WC w1 p0 oT)<|gF<|gC<|gz<|gD<|gB<|gB<|gB<|gB ?_
 refine jo (H1:=nF rb root rt eb::nI eb zb::nK zb rb z::mI T) (Hk:=[uf rt tm]) (fun v H1=>v=.tuple #[]/\∃T' q' Rn h pad mR Hn,Sh T' q' (⟨nA,some (bx,h)⟩::Rn++R) root/\w6 nA bx Rn/\(∀r∈T',r.ok (B+5000))/\Own 9 1 (.slice pad names.length mR) names.length (names.map S) Hn/\
   H1=nT h (some hh) p0 pad names.length mR::nF rb root rt eb::nI eb zb::nK zb rb (max z names.length)::(mI T'++Hn)) ?_ ?_ Tryd.call80 rfl rfl (fun w1 fa _=>?_) ?_
 ·have p:=oN [[nF rb root rt eb,nI eb zb,nK zb rb z],[uf rt tm],mI T] [0,1,2] [0,2,1] (by decide);refine List.Perm.trans (.of_eq ?_) (p.trans (.of_eq ?_))<;>simp
 ·intro e he;simp only[af] at he;rcases he with rfl|rfl|rfl|he
  ·rfl
  ·rfl
  ·rfl
  exact BP nk e he
 ·refine(aeC w1 _ T q R rb root rt eb zb z B hh bx p0 nA names Bp oT GL mM py hs Ju nk hB fa).mono fun e w' ⟨h1,T',q',Rn,h,pad,mR,Hn,h2,h3,h4,h5,h6⟩=>?_
  refine⟨_,_,h1,fun e he=>?_,h6,rfl,T',q',Rn,h,pad,mR,Hn,h2,h3,h4,h5,rfl⟩;simp only[af,aB] at he;rcases he with rfl|rfl|rfl|rfl|he|he
  ·rfl
  ·rfl
  ·rfl
  ·rfl
  ·exact BP h4 e he
  exact h5.w e he
 rintro v H1 ⟨rfl,T',q',Rn,h,pad,mR,Hn,g2,g3,g4,g5,rfl⟩;refine jb (fun w1 fa=>fa.perm aF)<|gC<|gz<|gD<|gB<|gB<|gB<|gA (iN (vs:=[(0,S bx),(1,S p0),(2,S name)]) rfl (fun w1=>aeH bx p0 name w1))<|jc (l:=[S bx,S p0,S name]) rfl rfl rfl (fun nb ti=>?_);exact gF<|gC<|gz<|gD<|gB<|gJ rfl<|gH ade rfl<|gA (gG Tryd.isAgg132 rfl (m3 (.head _)) rfl)<|gB<|gB<|gA (iR rfl rfl (by omega))<|gB<|kN (kv:=tm) Tryd.underlying132 aa rfl rfl rfl (.s .z)<|gC<|gz<|gD<|gB<|gF<|gC<|ic rfl rfl fun w' ia=>⟨nb,T',q',Rn,h,pad,mR,Hn,rfl,g2,g3,g4,g5,ia⟩
def wK (n m:Nat):NR:=
 {n,m,ng:=none,mV:=none,mP:=none,nf:=none,pre:=[],rZ:=[],kids:=[],ad:=none,cp:=0,Hs:=[],pc:=0,nP:=0,kd:=0,leaf:=false,nn:=false,f:=fun _=>none,mp:=none,kv:=[],nH:=[],Hm:=[]}
theorem aeI (m:Nat) (w:World):(Instr.build 141 #[(0,Pt m 0)]).run Tryd.prog w=.ok (.agg (wK 0 m).row.toArray) w:=by
 simp[Instr.build,Tryd.zeroValue141,Tryd.runUnderlying141,Tryd.sizeOf137,bm,bB,ah,fW,bh,bV,fj,aP,qp,Instr.fill,Cv,wK,NR.row,Nv,PO]
theorem aeJ (a rt eb:Nat) (w:World):(Instr.build 134 #[(0,Pt a 0),(1,.map (some rt)),(2,Pt eb 0)]).run Tryd.prog w=.ok (.agg #[Pt a 0,.map (some rt),Pt eb 0]) w:=by
 simp[Instr.build,Tryd.zeroValue134,Tryd.runUnderlying134,bm,Tryd.sizeOf132,Tryd.sizeOf127,qp,Instr.fill,Cv,ZJ]
theorem aeK (w:World):(Instr.build 102 #[]).run Tryd.prog w=.ok (.agg #[PO none,I 0]) w:=by
 simp[Instr.build,Tryd.zeroValue102,Instr.fill,PO];rfl
theorem aeL (z:Nat) (w:World):(Instr.build 129 #[(0,Pt z 1)]).run Tryd.prog w=.ok (.agg #[Pt z 1]) w:=by
 simp[Instr.build,Tryd.zeroValue129,Tryd.runUnderlying129,Tryd.sizeOf103,qp,Instr.fill,Cv]
theorem Lb (w:World) (eb:Nat):Calls Tryd.prog 63 #[Pt eb 0] w fun e w'=>∃rb root m rt,e=.returned (Pt rb 0)/\HF w (fun _=>False) (nF rb root rt eb::uf rt []::mI [wK root m]) w':=by
 refine enter (fun _=>False) [] Tryd.func63 rfl Tryd.ntmps63 rfl rfl (HF.start w _) fun c hc=>?_
 subst hc;refine gz<|gD<|gF<|gC<|gz<|gD<|iK fZ rfl rfl (fun m hm=>?_);refine gA (iN (vs:=[(0,Pt m 0)]) rfl (fun w1=>aeI m w1))<|jc (l:=(wK 0 m).row) rfl rfl rfl (fun root Jm=>?_);refine kV rfl (fun rt p9=>?_);refine gB<|gA (iN (vs:=[(0,Pt root 0),(1,.map (some rt)),(2,Pt eb 0)]) rfl (fun w1=>aeJ root rt eb w1))<|jc (l:=[Pt root 0,.map (some rt),Pt eb 0]) rfl rfl rfl (fun rb vO=>?_);exact gF<|gC<|ic rfl rfl fun w' ia=>⟨rb,root,m,rt,rfl,ia⟩
theorem Qc (w:World):Calls Tryd.prog 48 #[] w fun e w'=>∃rb root m rt eb zb,e=.returned (Pt zb 0)/\HF w (fun _=>False) (nF rb root rt eb::nI eb zb::nK zb rb 0::uf rt []::mI [wK root m]) w':=by
 refine enter (fun _=>False) [] Tryd.func48 rfl Tryd.ntmps48 rfl rfl (HF.start w _) fun c hc=>?_
 subst hc;refine gz<|gD<|gF<|gC<|gz<|gD<|gA (iN (vs:=[]) rfl (fun w1=>aeK w1))<|jc (l:=[PO none,I 0]) rfl rfl rfl (fun zb hzb=>?_);refine gF<|gC<|gz<|gD<|gB<|gB<|gJ rfl<|gH VI rfl<|gA (iN (vs:=[(0,Pt zb 1)]) rfl (fun w1=>aeL zb w1))<|jc (l:=[Pt zb 1]) rfl rfl rfl (fun eb AN=>?_);refine iP (fun v H2=>∃rb root m rt,v=Pt rb 0/\H2=(nF rb root rt eb::uf rt []::mI [wK root m])++[nI eb zb,Rx zb [PO none,I 0] 102]) Tryd.call63 rfl rfl (fun w1 fa=>(Lb w1 eb).mono fun e w' ⟨rb,root,m,rt,h1,h2⟩=>?_) ?_
 ·refine⟨_,_,h1,fa.o9 h2 (fun e he=>?_),rb,root,m,rt,rfl,rfl⟩;simp only[mI,ed,List.flatMap_nil,NR.mI,wK,af,aB,aC,or_false] at he;rcases he with rfl|rfl|rfl|rfl<;>rfl
 rintro v H2 ⟨rb,root,m,rt,rfl,rfl⟩;refine jb (H':=Rx zb [PO none,I 0] 102::nF rb root rt eb::nI eb zb::uf rt []::mI [wK root m]) (fun w1 fa=>fa.perm ?_) ?_
 ·have p:=oN [[nF rb root rt eb],[uf rt []],mI [wK root m],[nI eb zb],[Rx zb [PO none,I 0] 102]] [0,1,2,3,4] [4,0,3,1,2] (by decide);refine List.Perm.trans (.of_eq ?_) (p.trans (.of_eq ?_))<;>simp
 refine gJ rfl<|gH Pj rfl<|gO Tryd.sizeOf100 rfl rfl rfl .z rfl rfl<|gC<|gz<|gD<|gB<|gF<|gC<|ic rfl rfl fun w' ia=>⟨rb,root,m,rt,eb,zb,rfl,HF.perm (H:=nK zb rb 0::nF rb root rt eb::nI eb zb::uf rt []::mI [wK root m]) ia ?_⟩
 exact(bG (l₁:=[nF rb root rt eb,nI eb zb])).symm
theorem B4 (w:World) (D:Nat->Prop) (T:List NR) (q:Nat->List Tok) (R:List En) (rb root rt eb zb z B:Nat) (num:Int) (tm:KV) (bx p0 name:List UInt8) (nA:List Tok) (names:List (List UInt8)) (Bp:nh p0 none=(nA,names)) (oT:p0.head? =some 47)
  (GL:uE p0) (mM:p0.length<=1000) (py:bx.length<=1000) (hs:Sh T q R root) (Ju:∀e∈R,e.tk.length<=1000) (nk:∀r∈T,r.ok B) (hB:B+5000<1000000)
  (hH:HF w D (nF rb root rt eb::nI eb zb::nK zb rb z::uf rt tm::mI T) w):
  Calls Tryd.prog 49 #[Pt zb 0,S bx,S p0,S name,I num] w fun e w'=>∃nb T' q' Rn h hh pad mR Hn,e=.returned (Pt nb 0)/\Sh T' q' (⟨nA,some (bx,h)⟩::Rn++R) root/\w6 nA bx Rn/\(∀r∈T',r.ok (B+5000))/\Own 9 1 (.slice pad names.length mR) names.length (names.map S) Hn/\
   HF w D (GV nb bx p0 name::uf rt (ug tm (bx++p0) (Pt nb 0))::nT h (some hh) p0 pad names.length mR::nF rb root rt eb::nI eb zb::nK zb rb (max z names.length)::(mI T'++Hn++[Rx hh [I num] 3])) w':=by
 refine enter D (nF rb root rt eb::nI eb zb::nK zb rb z::uf rt tm::mI T) Tryd.func49 rfl Tryd.ntmps49 rfl rfl hH fun c hc=>?_
 subst hc;refine gz<|gD<|gF<|gC<|gz<|lJ 8 (fun w1=>w1.cell? ⟨zb,0,none⟩=some (Pt rb 0)) mixed (by kernel_rfl) (fun w1 fa=>oQ fa (m2 (.head _)) rfl) rfl rfl<|GI.p (fun _=>gM rfl) rfl<|GI.p (fun _=>gX rfl) rfl<|GI.p (fun _=>gQ Pj rfl) rfl<|GI.ld Tryd.isAgg100 rfl (fun w1 h=>h) rfl<|GI.p (fun _=>gM rfl) rfl<|GI.p (fun _=>gM rfl) rfl<|GI.p (fun _=>gM rfl) rfl<|GI.p (fun _=>gM rfl) rfl<|GI.nil<|lN dV rfl rfl (fun w1 fa=>oQ fa (m2 (.head _)) rfl) (fun w1 _=>yB w1 num) (fun hh hhh=>?_)
 refine lM (H1:=nF rb root rt eb::nI eb zb::nK zb rb z::uf rt tm::mI T) (Hk:=[Rx hh [I num] 3]) (fun v H1=>∃nb T' q' Rn h pad mR Hn,v=Pt nb 0/\Sh T' q' (⟨nA,some (bx,h)⟩::Rn++R) root/\w6 nA bx Rn/\(∀r∈T',r.ok (B+5000))/\Own 9 1 (.slice pad names.length mR) names.length (names.map S) Hn/\
   H1=GV nb bx p0 name::uf rt (ug tm (bx++p0) (Pt nb 0))::nT h (some hh) p0 pad names.length mR::nF rb root rt eb::nI eb zb::nK zb rb (max z names.length)::(mI T'++Hn)) ?_ ?_ Tryd.call64 rfl rfl ?_ (fun w1 fa _=>?_) ?_
 ·exact(aF (l₁:=[(Rx hh [I num] 3:oJ)]))
 ·intro e he;simp only[af] at he;rcases he with rfl|rfl|rfl|rfl|he
  ·rfl
  ·rfl
  ·rfl
  ·rfl
  exact BP nk e he
 ·rintro v H1 ⟨nb,T',q',Rn,h,pad,mR,Hn,rfl,g2,g3,g4,g5,rfl⟩ w1 fa;exact oQ fa (m5 (.head _)) rfl
 ·refine(La w1 _ T q R rb root rt eb zb z B hh tm bx p0 name nA names Bp oT GL mM py hs Ju nk hB fa trivial).mono fun e w' ⟨nb,T',q',Rn,h,pad,mR,Hn,h1,h2,h3,h4,h5,h6⟩=>?_
  refine⟨_,_,h1,fun e he=>?_,h6,nb,T',q',Rn,h,pad,mR,Hn,rfl,h2,h3,h4,h5,rfl⟩;simp only[af,aB] at he;rcases he with rfl|rfl|rfl|rfl|rfl|rfl|he|he
  ·rfl
  ·rfl
  ·rfl
  ·rfl
  ·rfl
  ·rfl
  ·exact BP h4 e he
  exact h5.w e he
 rintro v H1 ⟨nb,T',q',Rn,h,pad,mR,Hn,rfl,g2,g3,g4,g5,rfl⟩;exact lL (fun w1 fa=>oQ fa (m5 (.head _)) rfl) (iT rfl) rfl<|lK<|ic rfl rfl fun w' ia=>⟨nb,T',q',Rn,h,hh,pad,mR,Hn,rfl,g2,g3,g4,g5,ia⟩
end Go.Proofs.Ec
namespace Bw
open Go Go.Proofs Go.Proofs.Ec
variable {E:SH}
structure RB where
 m:List UInt8
 p:List UInt8
 nm:List UInt8
def RB.cells (r:RB):List Value:=[S r.m,S r.p,S r.nm]
structure RB.ok (r:RB):Prop where
 hd:r.p.head? =some 47
 uE:Bw.uE r.p
 pl:r.p.length<=1000
 ml:r.m.length<=1000
def JC (w:World) (ad:Option Addr) (L:List RB):Prop:=
 ∀i r,L[i]? =some r->∃b o,ad=some ⟨b,o,none⟩/\∀j v,r.cells[j]? =some v->w.cell? ⟨b,o+i*3+j,none⟩=some v
structure Rt where
 rb:RB
 num:Nat
 h:Nat
 hh:Nat
 nb:Nat
 pad:Option Addr
 mR:Nat
 Hn:SH
def Rt.tk (r:Rt):List Tok:=(nh r.rb.p none).1
def Rt.pS (r:Rt):List (List UInt8):=(nh r.rb.p none).2
def Rt.mI (r:Rt):SH:=Rx r.hh [I (r.num:Nat)] 3::GV r.nb r.rb.m r.rb.p r.rb.nm::nT r.h (some r.hh) r.rb.p r.pad r.pS.length r.mR::r.Hn
def uF:List Rt->List UInt8->List Tok->Option Nat
 |[],_,_=>none
 |r::L,m,p=>if r.tk=p/\r.rb.m=m then some r.h else uF L m p
def tm:List Rt->KV
 |[]=>[]
 |r::L=>ug (tm L) (r.rb.m++r.rb.p) (Pt r.nb 0)
structure oA (T:List NR) (q:Nat->List Tok) (R:List En) (root:Nat) (L:List Rt) (z B:Nat):Prop where
 sh:Sh T q R root
 ok:∀r∈T,r.ok B
 look:∀m p,sL R m p=uF L m p
 ES:∀e∈R,∃r∈L,e.tk<+:r.tk
 out:∀r∈L,∃e∈R,e.tk=r.tk
 own:∀r∈L,Own 9 1 (.slice r.pad r.pS.length r.mR) r.pS.length (r.pS.map S) r.Hn
 zl:∀r∈L,r.pS.length<=z
 zz:z<=1000
 rb:∀r∈L,r.rb.ok
theorem Rt.Qd {r:Rt} (h:r.rb.ok):r.tk.length<=1000:=br (EN _ _) h.pl
theorem oA.Rl {T q R root L z B} (s:oA T q R root L z B):∀e∈R,e.tk.length<=1000:=fun e he=>by
 obtain⟨r,hr,hp⟩:=s.ES e he;have:=hp.length_le;have:=Rt.Qd (s.rb r hr);omega
theorem WO {nA:List Tok} {bx:List UInt8}:∀{Rn R:List En},w6 nA bx Rn->∀m p,¬(nA=p/\bx=m)->sL (Rn++R) m p=sL R m p
 |[],R,_,m,p,_=>rfl
 |e::Rn,R,h,m,p,hn=>by
  have ih:=WO (R:=R) (fun x hx=>h x (.tail _ hx)) m p hn;simp only[aW,sL];rcases(h e (.head _)).2 with h1|⟨h',h1,h2⟩
  ·rw[h1];exact ih
  rw[h2];simp only;rw[if_neg (by rw[h1];exact hn)];exact ih
theorem oA.add {T q R root L z B} (s:oA T q R root L z B) {r:Rt} {T':List NR} {q':Nat->List Tok} {Rn:List En} (hr:r.rb.ok) (B3:Sh T' q' (⟨r.tk,some (r.rb.m,r.h)⟩::Rn++R) root) (A5:w6 r.tk r.rb.m Rn) (nk:∀x∈T',x.ok (B+5000))
  (nx:Own 9 1 (.slice r.pad r.pS.length r.mR) r.pS.length (r.pS.map S) r.Hn):oA T' q' (⟨r.tk,some (r.rb.m,r.h)⟩::Rn++R) root (r::L) (max z r.pS.length) (B+5000):={
 sh:=B3
 ok:=nk
 look m p:=by
  show sL (⟨r.tk,some (r.rb.m,r.h)⟩::(Rn++R)) m p=_;simp only[sL,uF];split
  ·rfl
  rename_i h;rw[WO A5 m p h];exact s.look m p
 ES e he:=by
  simp only[aW,af,aB] at he;rcases he with rfl|he|he
  ·exact⟨r,.head _,cU⟩
  ·exact⟨r,.head _,(A5 e he).1⟩
  obtain⟨x,hx,h⟩:=s.ES e he;exact⟨x,.tail _ hx,h⟩
 out x hx:=by
  rcases af.1 hx with rfl|hx
  ·exact⟨_,.head _,rfl⟩
  obtain⟨e,he,h⟩:=s.out x hx;exact⟨e,by simp[he],h⟩
 own x hx:=by
  rcases af.1 hx with rfl|hx
  ·exact nx
  exact s.own x hx
 zl x hx:=by
  rcases af.1 hx with rfl|hx
  ·omega
  have:=s.zl x hx;omega
 zz:=by
  have h1:=s.zz
  have h2:r.pS.length<=1000:=by
   have h3:=B0 r.rb.p none;have h4:=Rt.Qd hr;have h5:ny r.tk<=r.tk.length:=by rw[ny];exact List.length_filter_le _ _
   simp at h3;show(nh r.rb.p none).2.length <=1000;have h6:ny (nh r.rb.p none).1=ny r.tk:=rfl;omega
  omega
 rb x hx:=by
  rcases af.1 hx with rfl|hx
  ·exact hr
  exact s.rb x hx}
theorem aeM (n m:Nat):(wK n m).ok 0:=⟨.nil,.nil,fun _=>rfl,bI _,⟨fun _ h=>(by cases h),.nil⟩,bI _⟩
theorem oA.new (n m:Nat):oA [wK n m] (fun _=>[]) [] n [] 0 0:={
 sh:=Sh.empty (wK n m) rfl rfl rfl rfl rfl rfl rfl rfl rfl rfl
 ok r hr:=by rw[aj.1 hr];exact aeM n m
 look _ _:=rfl
 ES e he:=by cases he
 out r hr:=by cases hr
 own r hr:=by cases hr
 zl r hr:=by cases hr
 zz:=bM _
 rb r hr:=by cases hr}
def RH (rb root rt eb zb z:Nat) (T:List NR) (L:List Rt):SH:=nF rb root rt eb::nI eb zb::nK zb rb z::uf rt (tm L)::(mI T++L.flatMap Rt.mI)
def Rt.key (r:Rt):RB×Nat:=(r.rb,r.num)
structure St where
 n:Nat
 si:Nat
 pi:Nat
 mH:List (List UInt8)
 mT:Option Nat
inductive n6 where
 |wg (mH:List (List UInt8))
 |nO (h:Nat) (mH:List (List UInt8))
 |o7 (b:Nat) (mH:List (List UInt8))
def L8 (mT:Option Nat) (mH:List (List UInt8)):n6:=
 match mT with
 |some b=>.o7 b mH
 |none=>.wg mH
def qm (s:List UInt8):Nat:=(s.takeWhile fun c=>c !=47).length
def xd (T:List NR) (r:NR) (c:UInt8):Option Nat:=(r.kids.find? fun a=>q7 T a==c)
def nE (r:NR) (si:Nat):Nat:=if r.kd=0 then si+r.pre.length else si
def sB (r:NR) (path:List UInt8) (si:Nat) (mT:Option Nat):Option Nat:=if path.drop si=[]/\r.nn=true/\mT=none then some r.n else mT
inductive qC (T:List NR) (bx path:List UInt8):Nat->St->n6->Prop
 |Qe {r:NR} {st:St} (hr:r∈T) (hn:r.n=st.n) (hk:r.kd=0) (hp:¬r.pre<+:path.drop st.si) (h0:r.ng=none):qC T bx path 0 st (.wg st.mH)
 |Qf {r:NR} {st:St} {p:Nat} {x:n6} (hr:r∈T) (hn:r.n=st.n) (hk:r.kd=0) (hp:¬r.pre<+:path.drop st.si) (h0:r.ng=some p) (h:qC T bx path 1 {st with n:=p} x):qC T bx path 0 st x
 |nO {r:NR} {st:St} {h:Nat} (hr:r∈T) (hn:r.n=st.n) (hk:r.kd=0->r.pre<+:path.drop st.si) (he:path.drop (nE r st.si)=[]) (hh:r.nn=true) (hg:getM r.f r.kv bx=some h):qC T bx path 0 st (.nO h st.mH)
 |nf {r:NR} {st:St} {h:Nat} (hr:r∈T) (hn:r.n=st.n) (hk:r.kd=0->r.pre<+:path.drop st.si) (he:path.drop (nE r st.si)=[]) (hh:r.nn=false) (hg:r.nf=some h):qC T bx path 0 st (.nO h st.mH)
 |down {r:NR} {st:St} {c:Nat} {x:n6} (hr:r∈T) (hn:r.n=st.n) (hk:r.kd=0->r.pre<+:path.drop st.si) (he:path.drop (nE r st.si)≠[]) (hc:xd T r ((path.drop (nE r st.si)).headD 0)=some c)
   (h:qC T bx path 0 {st with n:=c,si:=nE r st.si} x):qC T bx path 0 st x
 |stay {r:NR} {st:St} {x:n6} (hr:r∈T) (hn:r.n=st.n) (hk:r.kd=0->r.pre<+:path.drop st.si) (he:path.drop (nE r st.si)=[]->(r.nn=true->getM r.f r.kv bx=none)/\(r.nn=false->r.nf=none))
   (hc:path.drop (nE r st.si)≠[]->xd T r ((path.drop (nE r st.si)).headD 0)=none) (h:qC T bx path 1 {st with si:=nE r st.si,mT:=sB r path (nE r st.si) st.mT} x):qC T bx path 0 st x
 |ng {r c:NR} {st:St} {x:n6} (hr:r∈T) (hn:r.n=st.n) (hp:r.mV=some c.n) (hc:c∈T) (hs:path.drop st.si≠[]) (hv:st.pi<st.mH.length)
   (h:qC T bx path 0 {st with n:=c.n,si:=st.si+(if c.leaf then(path.drop st.si).length else qm (path.drop st.si)),pi:=st.pi+1,mH:=st.mH.set st.pi ((path.drop st.si).take (if c.leaf then(path.drop st.si).length else qm (path.drop st.si)))} x):qC T bx path 1 st x
 |L9 {r:NR} {st:St} {x:n6} (hr:r∈T) (hn:r.n=st.n) (hp:r.mV=none\/path.drop st.si=[]) (h:qC T bx path 2 st x):qC T bx path 1 st x
 |Qg {r c:NR} {st:St} {h:Nat} (hr:r∈T) (hn:r.n=st.n) (ha:r.mP=some c.n) (hc:c∈T) (oH:c.pc=st.pi+1) (hv:st.pi<st.mH.length) (hg:getM c.f c.kv bx=some h):
   qC T bx path 2 st (.nO h (st.mH.set st.pi (path.drop st.si)))
 |Qh {r c:NR} {st:St} {h:Nat} (hr:r∈T) (hn:r.n=st.n) (ha:r.mP=some c.n) (hc:c∈T) (oH:c.pc=st.pi+1) (hv:st.pi<st.mH.length) (hg:getM c.f c.kv bx=none) (hf:c.nf=some h):
   qC T bx path 2 st (.nO h (st.mH.set st.pi (path.drop st.si)))
 |Qi {r c:NR} {st:St} (hr:r∈T) (hn:r.n=st.n) (ha:r.mP=some c.n) (hc:c∈T) (hk:c.kd=2) (oH:c.pc=st.pi+1) (hv:st.pi<st.mH.length) (hg:getM c.f c.kv bx=none) (hf:c.nf=none):
   qC T bx path 2 st (.o7 (st.mT.getD c.n) (st.mH.set st.pi []))
 |Ma {r:NR} {st:St} (hr:r∈T) (hn:r.n=st.n) (ha:r.mP=none) (hk:r.kd=0) (hs:r.pre.length<=st.si) (h0:r.ng=none):qC T bx path 2 st (L8 st.mT st.mH)
 |Qj {r:NR} {st:St} {p:Nat} {x:n6} (hr:r∈T) (hn:r.n=st.n) (ha:r.mP=none) (hk:r.kd=0) (hs:r.pre.length<=st.si) (h0:r.ng=some p) (h:qC T bx path 1 {st with n:=p,si:=st.si-r.pre.length} x):qC T bx path 2 st x
 |Ql {r:NR} {st:St} {p:Nat} {x:n6} {v:List UInt8} (hr:r∈T) (hn:r.n=st.n) (ha:r.mP=none) (hk:r.kd=1) (zG:0<st.pi) (hv:st.mH[st.pi-1]? =some v) (hs:v.length<=st.si) (h0:r.ng=some p)
   (h:qC T bx path 2 {st with n:=p,si:=st.si-v.length,pi:=st.pi-1,mH:=st.mH.set (st.pi-1) []} x):qC T bx path 2 st x
def RF (w:World) (D:Nat->Prop) (E:SH):Prop:=∀e∈E,w.heap[e.b]? =some e.k.den/\¬D e.b
theorem RF.cell {w:World} {D:Nat->Prop} (h:RF w D E) {b off:Nat} {wf:Bool} {l:List Value} {t:TypeId} {fz:Nat×Nat} {v:Value} (hm:⟨b,wf,.row l t fz⟩∈E) (hv:nth l off=some v):w.cell? ⟨b,off,none⟩=some v:=by
 have h1:=(h _ hm).1;simp only[oe.den] at h1;simp only[World.cell?,h1];rw[n8] at hv;simp[hv]
theorem RF.D {w:World} {D:Nat->Prop} (h:RF w D E) {e:oJ} (hm:e∈E):¬D e.b:=(h e hm).2
structure LB where
 b9:Nat
 ru:Nat
 ry:Nat
 rz:Nat
 b6:Nat
 rA:Nat
 pb:Nat
 z:Nat
def LB.mI (B:LB) (path:List UInt8) (sD:Option Nat) (si pi:Nat) (s:List UInt8) (mH:List (List UInt8)):SH:=
 [Rx B.b9 [PO sD] 131,Rx B.ru [I (si:Int)] 3,Rx B.ry [I (pi:Int)] 3,Rx B.rz [Sx B.pb B.z B.z] 43,Rx B.b6 [S path] 9,
  (Rx B.rA [S s] 9),Rx B.pb (mH.map S) 9]
theorem LB.w {B:LB} {path sD si pi s mH}:∀e∈B.mI path sD si pi s mH,e.w=true:=by
 intro e he;simp only[LB.mI,af,aC,or_false] at he;rcases he with rfl|rfl|rfl|rfl|rfl|rfl|rfl<;>rfl
end Bw
namespace Go.Proofs.Ec
open Go Bw
theorem aeN (w:World) (D:Nat->Prop) (B:LB) (n:Nat) (ng:Option Nat) (path pre s:List UInt8) (si pi:Nat) (mH:List (List UInt8)) (hH:HF w D (B.mI path (some n) si pi s mH) w) (h1:w.cell? ⟨n,1,none⟩=some (PO ng)) (WQ:w.cell? ⟨n,5,none⟩=some (S pre))
  (oF:w.cell? ⟨n,10,none⟩=some (.int .u8 ((0:Nat):Int))) (hD:¬D n) (ajO:si<=path.length) (su:path.length<=1000000) (Qm:pi<=1000000):
  Calls Tryd.prog 65 #[.int .u8 0,Pt B.b9 0,Pt B.ru 0,Pt B.ry 0,Pt B.rz 0,Pt B.b6 0,Pt B.rA 0] w fun e w'=>e=.returned (.tuple #[.int .u8 1,.bool ng.isSome])/\HF w D (B.mI path ng si pi s mH) w':=by
 refine enter D (B.mI path (some n) si pi s mH) Tryd.func65 rfl Tryd.ntmps65 rfl rfl hH fun c hc=>?_
 subst hc;exact gz<|gD<|gF<|gF<|gC<|gz<|gD<|gA (gG aq rfl (.head _) rfl)<|gF<|gC<|gz<|gD<|gB<|gJ rfl<|gH EB rfl<|gA (hZ aq rfl h1 hD)<|gO bm rfl rfl (by cases ng<;>rfl) .z rfl rfl<|gC<|gz<|gD<|gA (gG aq rfl (.head _) rfl)<|gA (iA aK rfl)<|gF<|gC<|gz<|gz<|gD<|gB<|gJ rfl<|gH wG rfl<|gA (hZ dc rfl oF hD)<|gA (ie rfl rfl)<|gC<|iJ rfl<|gD<|gB<|gJ rfl<|gH wG rfl<|gA (hZ dc rfl oF hD)<|iZ (v:=.int .u8 1) (jj (kd:=.u8) (i:=((0:Nat):Int)) (j:=1) rfl rfl) rfl<|gF<|gC<|gz<|gz<|gD<|gB<|gA (ie rfl rfl)<|gC<|ji rfl<|jl rfl rfl rfl fun w' ia=>⟨rfl,ia⟩
theorem aeO (w:World) (D:Nat->Prop) (B:LB) (n:Nat) (ng:Option Nat) (path pre s:List UInt8) (si pi:Nat) (mH:List (List UInt8)) (hs:pre.length<=si) (hH:HF w D (B.mI path (some n) si pi s mH) w) (h1:w.cell? ⟨n,1,none⟩=some (PO ng)) (h5:w.cell? ⟨n,5,none⟩=some (S pre))
  (oF:w.cell? ⟨n,10,none⟩=some (.int .u8 ((0:Nat):Int))) (hD:¬D n) (xU:si<=path.length) (mM:path.length<=1000000) (Qm:pi<=1000000):
  Calls Tryd.prog 65 #[.int .u8 2,Pt B.b9 0,Pt B.ru 0,Pt B.ry 0,Pt B.rz 0,Pt B.b6 0,Pt B.rA 0] w fun e w'=>e=.returned (.tuple #[.int .u8 1,.bool ng.isSome])/\HF w D (B.mI path ng (si-pre.length) pi (path.drop (si-pre.length)) mH) w':=by
 refine enter D (B.mI path (some n) si pi s mH) Tryd.func65 rfl Tryd.ntmps65 rfl rfl hH fun c hc=>?_
 subst hc;exact gz<|gD<|gF<|gF<|gC<|gz<|gD<|gA (gG aq rfl (.head _) rfl)<|gF<|gC<|gz<|gD<|gB<|gJ rfl<|gH EB rfl<|gA (hZ aq rfl h1 hD)<|gO bm rfl rfl (by cases ng<;>rfl) .z rfl rfl<|gC<|gz<|gD<|gA (gG aq rfl (.head _) rfl)<|gA (iA aK rfl)<|gF<|gC<|gz<|gz<|gD<|gB<|gJ rfl<|gH wG rfl<|gA (hZ dc rfl oF hD)<|gA (ie rfl rfl)<|gC<|iJ rfl<|gD<|gB<|gJ rfl<|gH wG rfl<|gA (hZ dc rfl oF hD)<|iZ (v:=.int .u8 1) (jj (kd:=.u8) (i:=((0:Nat):Int)) (j:=1) rfl rfl) rfl<|gF<|gC<|gz<|gz<|gD<|gB<|gA (ie rfl rfl)<|gC<|iJ rfl<|gL<|gz<|gz<|gD<|gB<|gJ rfl<|gH wG rfl<|gA (hZ dc rfl oF hD)<|gA (ie rfl rfl)<|gC<|ji rfl<|js 7 mixed (by kernel_rfl) rfl rfl<|gR (gG aY rfl (.tail _ (.head _)) rfl)<|gR (gM rfl)<|gR (gX rfl)<|gR (gQ yZ rfl)<|gR (hZ ag rfl h5 hD)<|gR (ig aa rfl)<|gR (iM (r:=((si-pre.length:Nat):Int)) rfl rfl (by omega) (by omega) (by omega))<|jt<|gO bh rfl rfl rfl (.s .z) rfl rfl<|gC<|gz<|gD<|gA (gG ag rfl (m4 (.head _)) rfl)<|gA (gG aY rfl (.tail _ (.head _)) rfl)<|gA (iX (i:=(si-pre.length)) aa rfl rfl (by omega))<|gO ah rfl rfl rfl (.s (.s (.s (.s (.s .z))))) rfl rfl<|gC<|jl rfl rfl rfl fun w' ia=>⟨rfl,ia⟩
theorem aeP (w:World) (D:Nat->Prop) (B:LB) (n:Nat) (ng:Option Nat) (path pre s:List UInt8) (si pi:Nat) (mH:List (List UInt8)) (zG:0<pi) (v:List UInt8) (hv:mH[pi-1]? =some v) (DA:mH.length=B.z) (hs:v.length<=si) (hH:HF w D (B.mI path (some n) si pi s mH) w) (h1:w.cell? ⟨n,1,none⟩=some (PO ng)) (WQ:w.cell? ⟨n,5,none⟩=some (S pre))
  (oF:w.cell? ⟨n,10,none⟩=some (.int .u8 ((1:Nat):Int))) (hD:¬D n) (xU:si<=path.length) (mM:path.length<=1000000) (B5:pi<=1000000):
  Calls Tryd.prog 65 #[.int .u8 2,Pt B.b9 0,Pt B.ru 0,Pt B.ry 0,Pt B.rz 0,Pt B.b6 0,Pt B.rA 0] w fun e w'=>e=.returned (.tuple #[.int .u8 2,.bool ng.isSome])/\HF w D (B.mI path ng (si-v.length) (pi-1) (path.drop (si-v.length)) (mH.set (pi-1) [])) w':=by
 refine enter D (B.mI path (some n) si pi s mH) Tryd.func65 rfl Tryd.ntmps65 rfl rfl hH fun c hc=>?_
 subst hc;refine gz<|gD<|gF<|gF<|gC<|gz<|gD<|gA (gG aq rfl (.head _) rfl)<|gF<|gC<|gz<|gD<|gB<|gJ rfl<|gH EB rfl<|gA (hZ aq rfl h1 hD)<|gO bm rfl rfl (by cases ng<;>rfl) .z rfl rfl<|gC<|gz<|gD<|gA (gG aq rfl (.head _) rfl)<|gA (iA aK rfl)<|gF<|gC<|gz<|gz<|gD<|gB<|gJ rfl<|gH wG rfl<|gA (hZ dc rfl oF hD)<|gA (ie rfl rfl)<|gC<|iJ rfl<|gD<|gB<|gJ rfl<|gH wG rfl<|gA (hZ dc rfl oF hD)<|iZ (v:=.int .u8 2) (jj (kd:=.u8) (i:=((1:Nat):Int)) (j:=1) rfl rfl) rfl<|gF<|gC<|gz<|gz<|gD<|gB<|gA (ie rfl rfl)<|gC<|iJ rfl<|gL<|gz<|gz<|gD<|gB<|gJ rfl<|gH wG rfl<|gA (hZ dc rfl oF hD)<|gA (ie rfl rfl)<|gC<|iJ rfl<|gz<|gD<|gA (gG aY rfl (m2 (.head _)) rfl)<|gA (iM (r:=((pi-1:Nat):Int)) rfl rfl (by omega) (by omega) (by omega))<|gO bh rfl rfl rfl (.s (.s .z)) rfl rfl<|gC<|gz<|js 7 mixed (by kernel_rfl) rfl rfl ?_;have mS:pi-1<mH.length:=(ae.1 hv).1;refine gR (gG aY rfl (.tail _ (.head _)) rfl)<|gR (gG bF rfl (m3 (.head _)) rfl)<|gR (gG aY rfl (m2 (.head _)) rfl)<|gR (ij (i:=pi-1) aE ah rfl rfl (by omega))<|gR (gG ag rfl (m6 (.head _)) (by rw[n8,aH,aT,aD,hv];rfl)) ?_;refine gR (ig aa rfl)<|gR (iM (r:=((si-v.length:Nat):Int)) rfl rfl (by omega) (by omega) (by omega))<|jt<|gO bh rfl rfl rfl (.s .z) rfl rfl<|gC<|gD<|gA (gG bF rfl (m3 (.head _)) rfl)<|gA (gG aY rfl (m2 (.head _)) rfl)<|gA (ij (i:=pi-1) aE ah rfl rfl (by omega))<|gO ah rfl rfl rfl (.s (.s (.s (.s (.s (.s .z)))))) (by rw[n8,aH,aT,aD,hv];rfl) rfl ?_;refine gC<|gz<|gD<|gA (gG ag rfl (m4 (.head _)) rfl)<|gA (gG aY rfl (.tail _ (.head _)) rfl)<|gA (iX (i:=(si-v.length)) aa rfl rfl (by omega))<|gO ah rfl rfl rfl (.s (.s (.s (.s (.s .z))))) rfl rfl<|gC<|jl rfl rfl rfl fun w' ia=>⟨rfl,?_⟩
 have es:rC (mH.map S) (0+(pi-1)*1) (S [])=(mH.set (pi-1) []).map S:=by rw[Kx,aH,aT,gr]
 unfold LB.mI;rw[<-es];exact ia
theorem aeQ (w:World) (D:Nat->Prop) (B:LB) (n:Nat) (ng:Option Nat) (path pre s:List UInt8) (si pi:Nat) (mH:List (List UInt8)) (zG:0<pi) (v:List UInt8) (hv:mH[pi-1]? =some v) (DA:mH.length=B.z) (hs:v.length<=si) (hH:HF w D (B.mI path (some n) si pi s mH) w) (h1:w.cell? ⟨n,1,none⟩=some (PO ng)) (WQ:w.cell? ⟨n,5,none⟩=some (S pre))
  (oF:w.cell? ⟨n,10,none⟩=some (.int .u8 ((2:Nat):Int))) (hD:¬D n) (xU:si<=path.length) (mM:path.length<=1000000) (B5:pi<=1000000):
  Calls Tryd.prog 65 #[.int .u8 2,Pt B.b9 0,Pt B.ru 0,Pt B.ry 0,Pt B.rz 0,Pt B.b6 0,Pt B.rA 0] w fun e w'=>e=.returned (.tuple #[.int .u8 0,.bool ng.isSome])/\HF w D (B.mI path ng (si-v.length) (pi-1) (path.drop (si-v.length)) (mH.set (pi-1) [])) w':=by
 refine enter D (B.mI path (some n) si pi s mH) Tryd.func65 rfl Tryd.ntmps65 rfl rfl hH fun c hc=>?_
 subst hc;refine gz<|gD<|gF<|gF<|gC<|gz<|gD<|gA (gG aq rfl (.head _) rfl)<|gF<|gC<|gz<|gD<|gB<|gJ rfl<|gH EB rfl<|gA (hZ aq rfl h1 hD)<|gO bm rfl rfl (by cases ng<;>rfl) .z rfl rfl<|gC<|gz<|gD<|gA (gG aq rfl (.head _) rfl)<|gA (iA aK rfl)<|gF<|gC<|gz<|gz<|gD<|gB<|gJ rfl<|gH wG rfl<|gA (hZ dc rfl oF hD)<|gA (ie rfl rfl)<|gC<|ji rfl<|gD<|gF<|gC<|gz<|gz<|gD<|gB<|gA (ie rfl rfl)<|gC<|iJ rfl<|gL<|gz<|gz<|gD<|gB<|gJ rfl<|gH wG rfl<|gA (hZ dc rfl oF hD)<|gA (ie rfl rfl)<|gC<|iJ rfl<|gz<|gD<|gA (gG aY rfl (m2 (.head _)) rfl)<|gA (iM (r:=((pi-1:Nat):Int)) rfl rfl (by omega) (by omega) (by omega))<|gO bh rfl rfl rfl (.s (.s .z)) rfl rfl<|gC<|gz<|js 7 mixed (by kernel_rfl) rfl rfl ?_;have mS:pi-1<mH.length:=(ae.1 hv).1;refine gR (gG aY rfl (.tail _ (.head _)) rfl)<|gR (gG bF rfl (m3 (.head _)) rfl)<|gR (gG aY rfl (m2 (.head _)) rfl)<|gR (ij (i:=pi-1) aE ah rfl rfl (by omega))<|gR (gG ag rfl (m6 (.head _)) (by rw[n8,aH,aT,aD,hv];rfl)) ?_;refine gR (ig aa rfl)<|gR (iM (r:=((si-v.length:Nat):Int)) rfl rfl (by omega) (by omega) (by omega))<|jt<|gO bh rfl rfl rfl (.s .z) rfl rfl<|gC<|gD<|gA (gG bF rfl (m3 (.head _)) rfl)<|gA (gG aY rfl (m2 (.head _)) rfl)<|gA (ij (i:=pi-1) aE ah rfl rfl (by omega))<|gO ah rfl rfl rfl (.s (.s (.s (.s (.s (.s .z)))))) (by rw[n8,aH,aT,aD,hv];rfl) rfl ?_;refine gC<|gz<|gD<|gA (gG ag rfl (m4 (.head _)) rfl)<|gA (gG aY rfl (.tail _ (.head _)) rfl)<|gA (iX (i:=(si-v.length)) aa rfl rfl (by omega))<|gO ah rfl rfl rfl (.s (.s (.s (.s (.s .z))))) rfl rfl<|gC<|jl rfl rfl rfl fun w' ia=>⟨rfl,?_⟩
 have es:rC (mH.map S) (0+(pi-1)*1) (S [])=(mH.set (pi-1) []).map S:=by rw[Kx,aH,aT,gr]
 unfold LB.mI;rw[<-es];exact ia
end Go.Proofs.Ec
