/- Lemmas of the walk and plain facts (JgG7 .. GtG2). -/
import Derived.Test.YtmneeannkgnbpaaDoorL1
import Derived.Test.YtmneeannkgnbpaaDoorL2
import Derived.Test.YtmneeannkgnbpaaDoorP15
import Derived.Test.YtmneeannkgnbpaaDoorP01
import Derived.Test.YtmneeannkgnbpaaDoorP12
import Derived.Laws.StructEq
set_option maxRecDepth 20000
namespace Go.Proofs
open Go Bw Gt
variable {pb mZ qb nq:Nat} {un:Bool} {Ht:SH}
def Lk (n:T0):Prop:=n.idx.length<=100000/\n.kids.length<=100000/\∀k∈n.kids,Ln k
theorem Ln.lk {n:T0} (h:Ln n):Lk n:=by
 cases h with
 |mk hp hi hf hn hk=>exact⟨hi,hn,hk⟩
theorem Lk.Bl {n:T0} (h:Lk n):Lk (Gt.Bl n):=by
 cases n with
 |node a p i w n q h2 f k=>exact⟨by simp[Gt.Bl,Tr.idx],h.2.1,h.2.2⟩
theorem acF {l:List UInt8} {c:UInt8} (h:l[0]? =some c):l.headD 0=c:=by
 cases l with
 |nil=>simp at h
 |cons a l=>simp at h;simpa using h
theorem acG {p q:List UInt8} (h:p.take q.length=q):q++p.drop q.length=p:=by conv=>rhs;rw[<-a8 q.length p,h]
theorem Ja {R:Ending->World->Prop} {w:World} {D:Nat->Prop} {vb cP cS:Nat} (qM:cP<=20000) (qt:cS<=20000):∀(g:Nat) (n:T0) (p:List UInt8) (ps:List (List UInt8×List UInt8)) (sk:List Sk) (r:n6),n7 (o6 un) cP cS g n p ps sk=some r->Lk n->p.length<=100000->(∀s∈sk,Lk s.node/\s.path.length<=100000)->ps.length<=cP->sk.length<=cS->
  yi R w D pb mZ cP Ht r->Lp R w D vb pb mZ qb nq cP cS un Ht n p ps sk
 |0,_,_,_,_,_,h,_,_,_,_,_,_=>by cases h
 |g+1,n,p,ps,sk,r,h,yl,mM,Dc,oH,ph,fin=>by
  intro nb has mN mQ Cs fr hn nQ oK pC p7 oI mU;have nn:(p.drop n.path.length).length <=100000:=by rw[aA];omega
  have Lo:∀{q:List UInt8} {s:Sk} {pg:List Sk},wC q ps.length sk=some (some (s,pg))->sk=s::pg/\q<:+s.path/\s.ny<=ps.length:=fun{q s pg} hp=>by
   cases sk with
   |nil=>cases hp
   |cons a l=>
    simp only[wC] at hp;split at hp
    ·rename_i hc;cases hp;exact⟨rfl,hc.1,hc.2⟩
    cases hp
  have O4:∀{q:List UInt8},wC q ps.length sk=some none->sk=[]:=fun{q} hp=>by
   cases sk with
   |nil=>rfl
   |cons a l=>
    simp only[wC] at hp;split at hp<;>cases hp
  have O5:∀{q:List UInt8} {s:Sk} {pg:List Sk},wC q ps.length sk=some (some (s,pg))->n7 (o6 un) cP cS g s.node s.path (ps.take s.ny) pg=some r->Lp R w D vb pb mZ qb nq cP cS un Ht s.node s.path (ps.take s.ny) pg:=fun{q s pg} hp hg=>by
   obtain⟨e,_,hc⟩:=Lo hp;subst e;have hs:=Dc s (.head _);exact Ja qM qt g _ _ _ _ r hg hs.1 hs.2 (fun x hx=>Dc x (.tail _ hx)) (by simp;omega) (by simp at ph;omega) fin
  unfold n7 at h;refine abR hn nQ oK pC p7 oI mM oH qM ph qt mU (fun mS oB c IJ hc uR=>?_) (fun O6 IJ uR=>?_) (fun uH O6 IJ uR=>?_)
  ·rw[if_pos ⟨mS,oB⟩,acF hc] at h;have Vj:=acG oB
   cases hj:idxOf c n.idx with
   |some i=>
    simp only[hj] at h
    cases qL:n.kids[i]? with
    |none=>simp only[qL] at h;cases h
    |some k=>
     simp only[qL] at h;have yf:=(yl.2.2 k (ap qL)).lk;split at h
     ·rename_i hw;split at h
      ·rename_i ve;refine abV hn nQ oK pC p7 oI nn oH qM ph qt uR (by have:=yl.1;omega) hj qL hw ve (by rw[Vj];exact mM) ?_;rw[Vj]
       exact Ja qM qt g _ _ _ _ r h yf nn (fun s hs=>by
        rcases af.1 hs with rfl|hs
        ·exact⟨yl.Bl,mM⟩
        exact Dc s hs) oH (by simp;omega) fin
      cases h
     rename_i hw;refine abU hn nQ oK pC p7 oI nn oH qM ph qt uR (by have:=yl.1;omega) hj qL (by simpa using hw) ?_
     exact Ja qM qt g _ _ _ _ r h yf nn Dc oH ph fin
   |none=>
    simp only[hj] at h;refine abX hn nQ oK pC p7 oI nn oH qM ph qt uR (by have:=yl.1;omega) hj fun sU tI=>?_
    by_cases hw:n.mm=false
    ·rw[if_pos hw] at h;by_cases ot:p.drop n.path.length≠[47]
     ·rw[if_pos ot] at h
      cases uw:wC (p.drop n.path.length) ps.length sk with
      |none=>simp only[uw] at h;cases h
      |some o=>
       cases o with
       |none=>
        simp only[uw] at h;cases h
        exact UM hn nQ oK pC p7 oI nn oH qM ph qt tI hw (.inr (O4 uw)) fin
       |some x=>
        obtain⟨s,pg⟩:=x;simp only[uw] at h;obtain⟨e,zH,r5⟩:=Lo uw;have hs:=Dc s (by rw[e];exact .head _);exact abY hn nQ oK pC p7 oI nn oH qM ph qt tI e zH r5 hs.2 hw ot (O5 uw h)
     rw[if_neg ot] at h;simp only at h;cases h;exact UM hn nQ oK pC p7 oI nn oH qM ph qt tI hw (.inl (cg ot)) fin
    rw[if_neg hw] at h;have fa:n.mm=true:=by simpa using hw
    cases qL:n.kids[n.kids.length-1]? with
    |none=>simp only[qL] at h;cases h
    |some k=>
     simp only[qL] at h;have yf:=(yl.2.2 k (ap qL)).lk;split at h
     ·cases h
     rename_i ve;have FZ:ps.length<cP:=cg fun e=>ve (.inl e)
     have Lj:2<=k.path.length:=by
      rcases cn k.path.length 2 with e|e
      ·exact absurd (.inr e) ve
      exact e
     by_cases ow:k.nt=2
     ·rw[if_pos ow] at h;refine acu hn nQ oK pC p7 oI nn oH qM ph qt tI fa qL FZ Lj yl.2.1 ow fun kb tL np fr3 hk F6 F7 og F8=>?_
      subst og;have Ex:(ps++[(k.path.drop 1,o6 un ((p.drop n.path.length).takeWhile (· ≠47)))]).length <=cP:=by simp;omega
      have F9:true=false->(ps++[(k.path.drop 1,o6 un ((p.drop n.path.length).takeWhile (· ≠47)))])=[]:=fun e=>by cases e
      by_cases ym:((p.drop n.path.length).takeWhile (· ≠47)).length <(p.drop n.path.length).length
      ·rw[if_pos ym] at h
       cases qK:k.kids with
       |nil=>
        simp only[qK] at h;cases h
        exact acC (_c:=c) hk F6 F7 pC p7 F9 nn Ex qM ph qt F8 ym qK fin
       |cons c0 cr=>
        simp only[qK] at h;exact acB (_c:=c) hk F6 F7 pC p7 F9 nn Ex qM ph qt F8 ym qK<|Ja qM qt g _ _ _ _ r h (yf.2.2 c0 (by rw[qK];exact .head _)).lk (by rw[aA];omega) Dc Ex ph fin
      rw[if_neg ym] at h
      cases hh:k.h with
      |some num=>
       rw[hh] at h;simp only[Option.isSome_some,if_true] at h;cases h
       exact acD (_c:=c) hk F6 F7 pC p7 F9 nn Ex qM ph qt F8 ym (by rw[hh];rfl) (by rw[hh];exact fin)
      |none=>
       rw[hh] at h;simp only[Option.isSome_none,c6,if_false] at h
       match qK:k.kids,h with
       |[c0],h=>
        cases h
        exact acE (_c:=c) hk F6 F7 pC p7 F9 nn Ex qM ph qt F8 ym hh qK fin
       |[],h=>
        cases h
        exact Vh (_c:=c) hk F6 F7 pC p7 F9 nn Ex qM ph qt F8 ym hh (by rw[qK];simp) fin
       |a::b::l,h=>
        cases h;exact Vh (_c:=c) hk F6 F7 pC p7 F9 nn Ex qM ph qt F8 ym hh (by rw[qK];simp) fin
     rw[if_neg ow] at h;by_cases uo:k.nt=3
     ·rw[if_pos uo] at h;cases h;exact acz hn nQ oK pC p7 oI nn oH qM ph qt tI fa qL FZ Lj yl.2.1 uo fin
     rw[if_neg uo] at h;cases h
  ·subst O6;rw[if_neg (by simp),if_pos rfl] at h
   cases hh:n.h with
   |some num=>
    rw[hh] at h;simp only[Option.isNone_some,c6,false_and,if_false,Option.isSome_some,if_true] at h;cases h
    exact ab3 (_c:=0) hn nQ oK pC p7 oI mM oH qM ph qt uR (by rw[hh];rfl) (by rw[hh];exact fin)
   |none=>
    rw[hh] at h;simp only[Option.isNone_none,true_and,Option.isSome_none,c6,if_false] at h
    have rest:(n.path=[47]\/sk=[])->(if n.path=[47]/\n.mm=true/\n.nt≠1 then some (⟨none,ps,true,[]⟩:n6)
      else if n.path=[47]/\n.nt=0 then some ⟨none,ps,true,[]⟩
      else match idxOf 47 n.idx with
      |some i=>
       match n.kids[i]? with
       |some k=>(if k.nt=3/\k.kids=[] then none else some ⟨none,ps,(decide (k.path.length=1)&&k.h.isSome)||(decide (k.nt=3)&&((k.kids.head?).map (·.h.isSome)).getD false),[]⟩)
       |none=>none
      |none=>some ⟨none,ps,false,[]⟩)=some r->GC Tryd.prog ⟨61,Tryd.f61,R,w,D⟩ 703 FQ IJ (Hq vb [(.slice none 0 0),(pV pb has),.bool false,(S [])] pb mZ ps.length cP mN qb nq sk.length cS mQ (Cs++Ht)):=fun rj h=>by
     refine ab4 (_c:=0) hn nQ oK pC p7 oI mM oH qM ph qt uR hh rj fun sU tI=>?_
     split at h
     ·rename_i rI;cases h;exact ab5 (_c:=0) hn nQ oK pC p7 oI mM oH qM ph qt tI rI fin
     rename_i rI;split at h
     ·rename_i zO;cases h;exact ab6 (_c:=0) hn nQ oK pC p7 oI mM oH qM ph qt tI rI zO fin
     rename_i zO
     cases hj:idxOf 47 n.idx with
     |none=>
      simp only[hj] at h;cases h
      exact ab7 (_c:=0) hn nQ oK pC p7 oI mM oH qM ph qt tI rI zO hj (by have:=yl.1;omega) fin
     |some i=>
      simp only[hj] at h
      cases qL:n.kids[i]? with
      |none=>simp only[qL] at h;cases h
      |some k=>
       simp only[qL] at h;split at h
       ·cases h
       rename_i uo;cases h;exact ab8 (_c:=0) hn nQ oK pC p7 oI mM oH qM ph qt tI rI zO hj qL uo (by have:=yl.1;omega) fin
    by_cases ot:n.path≠[47]
    ·rw[if_pos ot] at h
     cases uw:wC n.path ps.length sk with
     |none=>simp only[uw] at h;cases h
     |some o=>
      cases o with
      |none=>
       simp only[uw] at h
       exact rest (.inr (O4 uw)) h
      |some x=>
       obtain⟨s,pg⟩:=x;simp only[uw] at h;obtain⟨e,zH,r5⟩:=Lo uw;have hs:=Dc s (by rw[e];exact .head _);exact abZ (_c:=0) hn nQ oK pC p7 oI mM oH qM ph qt uR e zH r5 hs.2 hh ot (O5 uw h)
    rw[if_neg ot] at h;simp only at h;exact rest (.inl (cg ot)) h
  rw[if_neg uH,if_neg O6] at h;refine ab1 (_c:=0) hn nQ oK pC p7 oI mM oH qM ph qt uR fun sU tI=>?_
  by_cases pz:(decide (p=[47])||(decide (n.path=p++[47])&&n.h.isSome))=false
  ·rw[if_pos pz] at h;have ot:p≠[47]:=fun e=>by rw[decide_eq_true e,Bool.true_or] at pz;cases pz
   rw[pz] at h⊢
   cases uw:wC p ps.length sk with
   |none=>simp only[uw] at h;cases h
   |some o=>
    cases o with
    |none=>
     simp only[uw] at h;cases h
     exact UU (_c:=0) hn nQ oK pC p7 oI mM oH qM ph qt tI (.inr (.inr (O4 uw))) fin
    |some x=>
     obtain⟨s,pg⟩:=x;simp only[uw] at h;obtain⟨e,zH,r5⟩:=Lo uw;have hs:=Dc s (by rw[e];exact .head _);exact ab2 (_c:=0) hn nQ oK pC p7 oI mM oH qM ph qt tI e zH r5 hs.2 ot (O5 uw h)
  rw[if_neg pz] at h;simp only at h;cases h
  exact UU (_c:=0) hn nQ oK pC p7 oI mM oH qM ph qt tI (.inl (by
   cases hb:(decide (p=[47])||(decide (n.path=p++[47])&&n.h.isSome)) with
   |true=>rfl
   |false=>exact absurd hb pz)) fin
theorem acH (w:World) (D:Nat->Prop) {cP cS nb:Nat} {t:T0} {p:List UInt8} {mN mQ:List Value} {g:Nat} {r:n6} (ht:HT t nb Ht) (hl:Ln t) (mM:p.length<=100000) (qM:cP<=20000) (qt:cS<=20000) (nQ:mN.length=2*cP) (pC:mQ.length=3*cS)
  (ol:n7 (o6 un) cP cS g t p [] []=some r) (hH:HF w D (Rx pb [Sx mZ 0 cP] 91::Rx mZ mN 95::Rx qb [Sx nq 0 cS] 119::Rx nq mQ 159::Ht) w):
  Calls Tryd.prog 61 #[Pt nb 0,S p,Pt pb 0,Pt qb 0,.bool un] w fun e w'=>∃has tL hv,e=.returned (.agg #[hv,pV pb has,.bool r.ql,S r.full])/\tL.length=2*cP/\tL.take (2*r.ps.length)=nJ r.ps/\(has=false->r.ps=[])/\AK Ht r.h hv/\
   HF w D (Rx pb [Sx mZ r.ps.length cP] 91::Rx mZ tL 95::Ht) w':=by
 refine enter D (Rx pb [Sx mZ 0 cP] 91::Rx mZ mN 95::Rx qb [Sx nq 0 cS] 119::Rx nq mQ 159::Ht) Tryd.func61 rfl Tryd.ntmps61 rfl rfl hH fun c hc=>?_
 subst hc;refine gz<|gD<|iK Tryd.zeroValue122 rfl rfl (fun vb Oo=>?_);exact gC<|j3<|gz<|gD<|gF<|gC<|gz<|j1<|gW<|jw<|Ja qM qt g t p [] [] r ol hl.lk mM (by simp) (by simp) (by simp) (fun has tL hv w' h1 h2 h3 h4 h5=>⟨has,tL,hv,rfl,h1,h2,h3,h4,h5⟩) nb false mN mQ [] _ (ht.rd [] fun e he=>he) nQ rfl pC (fun i s hi=>by simp at hi) (fun _=>rfl) (.of rfl)
end Go.Proofs
namespace Bw
open Go Go.Proofs
variable {P:Program} {c:Cx} {n:Nat} {k:List Item} {fr:SF} {H:SH} {ops:Array Oper} {rest:List Oper} {ty t:TypeId} {pos:String} {mG:Array Edge}
theorem mw {t u s r:Nat} {v x y z:Value} (hr:c.fn.results= #[.tmp t,.tmp u,.tmp s,.tmp r]) (hv:look t fr=some v) (hx:look u fr=some x) (hy:look s fr=some y) (hz:look r fr=some z) (hR:∀w,HF c.w0 c.D H w->c.R (.returned (.tuple #[v,x,y,z])) w):GC P c n (.code .ret ::k) fr H:=
 kf (fun a w ha _=>by
  have h1:=ha.at_ t v hv;have h2:=ha.at_ u x hx;have h3:=ha.at_ s y hy;have h4:=ha.at_ r z hz
  simp[results,hr,h1,h2,h3,h4]) hR
theorem lj {T e s d:Nat} {z:Value} (hT:P.underlying T=some (.slice e)) (hs:∀w,(Go.sizeOf e).run P w=.ok s w) (_hz:∀w,(zeroValue e).run P w=.ok z w) (hd:Nat.blt d n=true)
  (hk:∀b,c.w0.heap.size<=b->G P c n k ops rest ((d,Sx b 0 0)::fr) (Rx b [] e::H)):
  G P c n k ops (⟨some d,.buildSlice T 0 #[],ty,pos,mG,none⟩::rest) fr H:=by
 intro hf a w ha hw;refine wpList_step fun K hK=>?_
 have hex:(execOp a.eval ⟨some d,.buildSlice T 0 #[],ty,pos,mG,none⟩).run P w=.ok (.value (Sx w.heap.size 0 0)) {w with heap:=w.heap.push (oe.row [] e (0,0)).den }:=by
  have h0:Array.range 0= #[]:=rfl;simp[execOp,Instr.buildSlice,underlying,hT,hs,Instr.fill,newRow,oe.den,h0]
 simp only[Region.wanted,if_true,Oper.wp,hex,Oper.upon];exact hK _ _ (hk w.heap.size hw.size hf _ _ (ha.put hd _) (hw.push (.row [] e (0,0))))
theorem mx {T e:TypeId} {i:TypeInfo} {z:Value} {x y:Operand} {d n0 cap m2:Nat} {ad mX:Option Addr} (hT:P.underlying T=some (.slice e)) (hi:P.info? e=some i) (hz:i.zero=some z)
  (hx:ev fr x=some (.slice ad n0 cap)) (hy:ev fr y=some (.slice mX 0 m2)) (hle:n0<=cap) (ajw:n0<=9223372036854775807) (hd:Nat.blt d n=true)
  (hk:G P c n k ops rest ((d,.slice ad n0 cap)::fr) H):
  G P c n k ops (⟨some d,.call ⟨.builtin .append, #[x,y], #[T,T]⟩,ty,pos,mG,none⟩::rest) fr H:=by
 intro hf a w ha hw;refine wpList_step fun K hK=>?_
 have hr:(Builtin.append_ #[T,T] ty #[.slice ad n0 cap,.slice mX 0 m2]).run P w=.ok (.slice ad n0 cap) w:=by
  have hf:(Builtin.firstCells i.size 0 (.slice mX 0 m2)).run P w=.ok #[] w:=by
   cases mX with
   |none=>exact run_firstCells_none (P:=P) w _ _ _ _
   |some b=>exact run_firstCells_some (P:=P) w i.size 0 b 0 m2 [] (by simp) (fun j v hj=>by simp at hj)
  cases ad<;>simp[Builtin.append_,run_underlying hT,Go.sizeOf,typeInfo,zeroValue,hi,hz,Builtin.lenOf,hle,hf,storeCells]
 have hex:(execOp a.eval ⟨some d,.call ⟨.builtin .append, #[x,y], #[T,T]⟩,ty,pos,mG,none⟩).run P w=.ok (.value (.slice ad n0 cap)) w:=by
  simp[execOp,resolve,invoke,builtin,ha.eval hx,ha.eval hy,hr]
 simp only[Region.wanted,if_true,Oper.wp,hex,Oper.upon];exact hK _ _ (hk hf _ _ (ha.put hd _) hw)
theorem kE {T e:Nat} {z a b:Value} (hT:P.underlying T=some (.slice e)) (hs:∀w,(Go.sizeOf e).run P w=.ok 2 w) (hz:∀w,(zeroValue e).run P w=.ok z w):BS P T e (.agg #[a,b]) [a,b]:=by
 intro w;have h1:Array.range 2= #[0,1]:=rfl;simp[Instr.buildSlice,underlying,hT,hs,hz,Instr.fill,newRow,Value.cells,h1]
theorem my {T e:Nat} {z a b c d:Value} (hT:P.underlying T=some (.slice e)) (hs:∀w,(Go.sizeOf e).run P w=.ok 4 w) (hz:∀w,(zeroValue e).run P w=.ok z w):BS P T e (.agg #[a,b,c,d]) [a,b,c,d]:=by
 intro w;have h1:Array.range 4= #[0,1,2,3]:=rfl;simp[Instr.buildSlice,underlying,hT,hs,hz,Instr.fill,newRow,Value.cells,h1]
end Bw
namespace Go.Proofs
open Go Bw Gt
variable {tb:Nat} {un:Bool} {Ht:SH}
theorem acJ (w:World) (b n cp:Nat) (vs:List Value) (qW:vs.length=n*2) (h1:∀u∈vs,u.oneCell'=true) (hn:n<=100000) (hc:∀(j:Nat) u,vs[j]? =some u->w.cell? ⟨b,j,none⟩=some u):Calls Tryd.prog 62 #[Sx b n cp] w fun e w'=>∃sv Hs,e=.returned sv/\Own 95 2 sv n vs Hs/\HF w (fun _=>False) Hs w':=by
 refine enter (fun _=>False) [] Tryd.func62 rfl Tryd.ntmps62 rfl rfl (HF.start w _) fun c hc=>?_
 subst hc;by_cases oD:n=0
 ·subst oD;have CM:vs=[]:=bw.1 (by omega);subst CM;refine gz<|gD ?_;refine gF<|gC ?_;refine gz<|gz ?_;refine gD<|gB ?_;refine gA (jL bN rfl)<|gC<|gV rfl (fun h4=>absurd h4 (by simp)) (fun h4=>?_);refine gL<|gz ?_;refine gD<|lj bN c5 Tryd.zeroValue95 rfl (fun eb AN=>?_);refine gB<|mx (i:=Tryd.t95) bN rfl rfl rfl rfl (by omega) (by omega) rfl ?_;exact gF<|gC<|ic rfl rfl fun w' ia=>⟨_,_,rfl,Own.row (xs:=[]) (spare:=[]) rfl rfl (bI _),ia⟩
 refine gz<|gD ?_;refine gF<|gC ?_;refine gz<|gz ?_;refine gD<|gB ?_;refine gA (jL bN rfl)<|gC<|gV rfl (fun h4=>absurd h4 (by simp)) (fun h4=>?_);refine gL<|gz ?_;refine gD<|lj bN c5 Tryd.zeroValue95 rfl (fun eb AN=>?_);refine gB<|jA (i:=Tryd.t95) (sz:=2) (qg:=32) bN rfl rfl rfl rfl rfl rfl rfl (Own.row (b:=eb) (cap:=0) (xs:=[]) (spare:=[]) rfl rfl (bI _)) (H':=[]) (.of_eq rfl) (fun w1 h2 j u hj=>by have:=h2.pT (hc j u hj) id;by_cases h0:j=0<;>simpa[Addr.add,h0] using this) qW h1 (by omega) (by omega) (by omega) rfl (fun ov nU oS=>?_);refine gF<|gC ?_;rw[aH] at oS;exact ic rfl rfl fun w' ia=>⟨_,_,rfl,oS,ia⟩
theorem Vk:∀(l:List (List UInt8×List UInt8)),∀u∈nJ l,u.oneCell'=true
 |[],u,h=>by cases h
 |(k,v)::l,u,h=>by
  simp only[nJ,af] at h;rcases h with rfl|rfl|h
  ·rfl
  ·rfl
  exact Vk l u h
theorem acK (w:World) (D:Nat->Prop) {nb m s:Nat} {t:T0} {p:List UInt8} {g:Nat} {r:n6} (ht:HT t nb Ht) (hl:Ln t) (mM:p.length<=100000) (hm:m<=20000) (hs:s<=20000) (sK:r.ps.length<=m) (ol:n7 (o6 un) m s g t p [] []=some r) (hH:HF w D (Rx tb (nw nb m s) 87::Ht) w):
  Calls Tryd.prog 47 #[Pt tb 0,S p,.bool un] w fun e w'=>∃hv pv Hp,e=.returned (.tuple #[hv,pv,.bool r.ql,S r.full])/\AK Ht r.h hv/\Own 95 2 pv r.ps.length (nJ r.ps) Hp/\HF w D (Rx tb (nw nb m s) 87::(Ht++Hp)) w':=by
 refine enter D (Rx tb (nw nb m s) 87::Ht) Tryd.func47 rfl Tryd.ntmps47 rfl rfl hH fun c hc=>?_
 subst hc;refine gz<|gD<|gF<|gF<|gF<|gF ?_;refine gC<|gz<|gD<|gB<|gJ rfl<|gH Kz rfl ?_;refine gA (gG fP rfl (.head _) rfl)<|lh (l:=0) (i:=Tryd.t95) (s:=2) (qg:=32) bN rfl rfl rfl rfl rfl rfl (bM _) (by omega) (by omega) rfl (fun mZ mN ajx acL=>?_);refine iK Tryd.zeroValue91 rfl rfl (fun pb zy=>?_);refine gO fD rfl rfl rfl .z rfl rfl<|gC<|gz<|gD<|gB<|gJ rfl ?_;refine gH KA rfl<|gA (gG fP rfl (m2 (.head _)) rfl)<|lh (l:=0) (i:=Tryd.t159) (s:=3) (qg:=32) cd rfl rfl rfl rfl rfl rfl (bM _) (by omega) (by omega) rfl (fun nq mQ ajy acM=>?_);refine iK Tryd.zeroValue119 rfl rfl (fun qb hqb=>?_);refine gO fV rfl rfl rfl .z rfl rfl<|gC<|hO (H':=Rx qb [Sx nq 0 s] 119::Rx nq mQ 159::Rx pb [Sx mZ 0 m] 91::Rx mZ mN 95::Rx tb (nw nb m s) 87::Ht) (fun w1 h1=>h1)<|gz<|gD<|gB ?_;refine gJ rfl<|gH Nq rfl<|gA (gG bK rfl (m4 (.head _)) rfl)<|gB<|gB<|jo (H1:=Rx pb [Sx mZ 0 m] 91::Rx mZ mN 95::Rx qb [Sx nq 0 s] 119::Rx nq mQ 159::Ht) (Hk:=[Rx tb (nw nb m s) 87]) (fun v ni=>∃has tL hv,v=.agg #[hv,pV pb has,.bool r.ql,S r.full]/\tL.length=2*m/\tL.take (2*r.ps.length)=nJ r.ps/\(has=false->r.ps=[])/\AK Ht r.h hv/\ni=(Rx pb [Sx mZ r.ps.length m] 91)::Rx mZ tL 95::Ht) ?_ (fun e0 mL=>?_) Tryd.call61 rfl rfl (fun w1 fa _=>?_) ?_
 ·have p1:=oN [[Rx qb [Sx nq 0 s] 119],[Rx nq mQ 159],[Rx pb [Sx mZ 0 m] 91],[Rx mZ mN 95],[Rx tb (nw nb m s) 87],Ht] [0,1,2,3,4,5] [2,3,0,1,5,4] (by decide);simpa using p1
 ·simp only[af] at mL;rcases mL with rfl|rfl|rfl|rfl|mL
  ·rfl
  ·rfl
  ·rfl
  ·rfl
  exact ht.w e0 mL
 ·refine(acH w1 _ ht hl mM hm hs (by rw[acL,eu]) (by rw[acM,eu]) ol fa).mono fun e w' ⟨has,tL,hv,h1,h2,h3,h4,h5,h6⟩=>⟨_,_,h1,fun e0 mL=>?_,h6,has,tL,hv,rfl,h2,h3,h4,h5,rfl⟩
  simp only[af] at mL;rcases mL with rfl|rfl|mL
  ·rfl
  ·rfl
  exact ht.w e0 mL
 rintro v ni ⟨has,tL,hv,rfl,tf,qZ,Ip,FG,rfl⟩;obtain⟨yn,yo,zP,rfl,_⟩:=FG.slice;refine iK Tryd.zeroValue122 rfl rfl (fun vb Oo=>?_);refine iO (cs:=[.slice yn yo zP,pV pb has,.bool r.ql,S r.full]) bg rfl rfl (by intro v hv;simp only[af,aC,or_false] at hv;rcases hv with rfl|rfl|rfl|rfl<;>first|rfl|exact yh _ _) .z rfl<|gC<|hO (H':=Rx vb [.slice yn yo zP,pV pb has,.bool r.ql,S r.full] 122::Rx pb [Sx mZ r.ps.length m] 91::Rx mZ tL 95::(Ht++[Rx tb (nw nb m s) 87])) (fun w1 h1=>?_) ?_
 ·exact h1
 refine gz<|gz<|gD<|gH sZ rfl<|gA (gG cj rfl (.head _) rfl)<|iZ (v:=.bool has) (Le du rfl) rfl<|gC<|hY (fun bc H'=>∃pv Hp,Own 95 2 pv r.ps.length (nJ r.ps) Hp/\Sub [(12,Pt vb 0),(7,pv)] bc/\H'=Hp++(Rx vb [.slice yn yo zP,pV pb has,.bool r.ql,S r.full] 122::Rx pb [Sx mZ r.ps.length m] 91::Rx mZ tL 95::(Ht++[Rx tb (nw nb m s) 87]))) (fun Vl=>?_) ?_
 ·refine gV rfl (fun tC=>?_) (fun tC=>?_)
  ·have zK:has=true:=tC;subst zK;refine gD<|gH sZ rfl<|gA (gG cj rfl (.head _) rfl)<|gJ rfl<|gA (gG dw rfl (.tail _ (.head _)) rfl)<|iP (fun v H2=>∃Hp,Own 95 2 v r.ps.length (nJ r.ps) Hp/\H2=Hp++(Rx vb [.slice yn yo zP,pV pb true,.bool r.ql,S r.full] 122::Rx pb [Sx mZ r.ps.length m] 91::Rx mZ tL 95::(Ht++[Rx tb (nw nb m s) 87]))) Tryd.call62 rfl rfl (fun w1 fa=>?_) ?_
   ·refine(acJ w1 mZ r.ps.length m (nJ r.ps) (by rw[Oq,eu]) (Vk _) (by omega) (fun j u hj=>?_)).mono fun e w' ⟨sv,Hs,h1,h2,h3⟩=>⟨_,_,h1,fa.o9 h3 h2.w,Hs,h2,rfl⟩
    refine oQ (b:=mZ) (off:=j) fa (m2 (.head _)) (by rw[n8,<-hj,<-qZ];rw[bP];have:=(ae.1 hj).1;rw[Oq] at this;exact this)
   rintro v H2 ⟨Hp,nx,rfl⟩;exact gF<|gC<|Vl _ _ ⟨_,Hp,nx,.of rfl,rfl⟩
  refine gL ?_;have El:has=false:=by simpa using tC
  have oT:=Ip El;exact Vl _ _ ⟨.slice none 0 0,[],by rw[oT];exact Own.nil,.of rfl,rfl⟩
 rintro bc H' ⟨pv,Hp,nx,Vm,rfl⟩;refine gN Vm ?_;clear Vm;refine hO (H':=Rx vb [.slice yn yo zP,pV pb has,.bool r.ql,S r.full] 122::(Hp++(Ht++[Rx tb (nw nb m s) 87]))) (fun w1 h1=>?_) ?_
 ·have p1:=oN [Hp,[Rx vb [.slice yn yo zP,pV pb has,.bool r.ql,S r.full] 122],[Rx pb [Sx mZ r.ps.length m] 91],[Rx mZ tL 95],Ht,[Rx tb (nw nb m s) 87]] [0,1,2,3,4,5] [2,3,1,0,4,5] (by decide);have h2:=h1.perm (H':=[Rx pb [Sx mZ r.ps.length m] 91,Rx mZ tL 95]++(Rx vb [.slice yn yo zP,pV pb has,.bool r.ql,S r.full] 122::(Hp++(Ht++[Rx tb (nw nb m s) 87])))) (by simpa using p1);exact h2.sub (aG _ _)
 refine gz<|iV mixed (by kernel_rfl)<|gK (gQ yN rfl)<|gK (gG bX rfl (.head _) rfl)<|gK (gM rfl)<|gK (gQ s6 rfl)<|gK (gG bQ rfl (.head _) rfl)<|gK (gQ KB rfl)<|gK (gG ag rfl (.head _) rfl)<|gK (iT rfl)<|gK (iT rfl)<|gK (iT rfl)<|gK (iT rfl)<|iH<|mw rfl rfl rfl rfl rfl fun w' ia=>⟨_,pv,Hp,rfl,FG,nx,?_⟩
 have p1:=oN [[Rx vb [.slice yn yo zP,pV pb has,.bool r.ql,S r.full] 122],Hp,Ht,[Rx tb (nw nb m s) 87]] [0,1,2,3] [0,3,2,1] (by decide);have h2:=ia.perm (H':=Rx vb [.slice yn yo zP,pV pb has,.bool r.ql,S r.full] 122::(Rx tb (nw nb m s) 87::(Ht++Hp))) (by simpa using p1);exact h2.sub (ai _ _)
def qk (r:n6) (pv:Value):List Value:=[I (r.h.getD 0:Nat),pv,S r.full,.bool r.ql]
theorem Vn {ps:List (List UInt8×List UInt8)} {j:Nat} {k v:List UInt8} (h:ps[j]? =some (k,v)) (l:List Value):((nJ ps++l).drop (0+j*2)).take 2=[S k,S v]:=by
 induction ps generalizing j with
 |nil=>simp at h
 |cons a ps ih=>
  obtain⟨a,b⟩:=a
  cases j with
  |zero=>simp at h;obtain⟨rfl,rfl⟩:=h;simp[nJ]
  |succ j=>
   have e:0+(j+1)*2=(0+j*2)+1+1:=by omega
   rw[e];simp only[nJ,aW,List.drop_succ_cons];exact ih (by simpa using h)
theorem acO {ps:List (List UInt8×List UInt8)} {j:Nat} {k v:List UInt8} (h:ps[j]? =some (k,v)):nJ (ps.take (j+1))=nJ (ps.take j)++[S k,S v]:=by
 rw[By h,Lc];rfl
theorem acP (f:List UInt8) (b:Bool) (w:World):(Instr.build 50 #[(2,S f),(3,.bool b)]).run Tryd.prog w=.ok (.agg #[I 0,.slice none 0 0,S f,.bool b]) w:=by
 simp[Instr.build,fu,Tryd.runUnderlying50,ah,aP,bh,Tryd.sizeOf48,qp,Instr.fill,tR,HZ]
theorem Vo (a b:List UInt8) (w:World):(Instr.build 52 #[(0,S a),(1,S b)]).run Tryd.prog w=.ok (.agg #[S a,S b]) w:=by
 simp[Instr.build,Tryd.zeroValue52,Tryd.runUnderlying52,ah,qp,Instr.fill,tR]
theorem acQ (w:World) (D:Nat->Prop) {nb m s:Nat} {t:T0} {p:List UInt8} {g:Nat} {r:n6} (ht:HT t nb Ht) (hl:Ln t) (mM:p.length<=100000) (hm:m<=20000) (hs:s<=20000) (sK:r.ps.length<=m) (ol:n7 (o6 un) m s g t p [] []=some r) (hH:HF w D (Rx tb (nw nb m s) 87::Ht) w):
  Calls Tryd.prog 33 #[Pt tb 0,S p,.bool un] w fun e w'=>∃pv Hq,e=.returned (.agg (qk r pv).toArray)/\Own 52 2 pv r.ps.length (nJ r.ps) Hq/\HF w D (Rx tb (nw nb m s) 87::(Ht++Hq)) w':=by
 refine enter D (Rx tb (nw nb m s) 87::Ht) Tryd.func33 rfl Tryd.ntmps33 rfl rfl hH fun c hc=>?_
 subst hc;refine gz<|gD<|iK (l:=[I 0,.slice none 0 0,S [],.bool false]) fu rfl rfl (fun rb vO=>?_);refine gC<|gz<|gD<|gB<|gB<|gB<|jo (H1:=Rx tb (nw nb m s) 87::Ht) (Hk:=[Rx rb [I 0,.slice none 0 0,S [],.bool false] 50]) (fun v ni=>∃hv pv Hp,v=.tuple #[hv,pv,.bool r.ql,S r.full]/\AK Ht r.h hv/\Own 95 2 pv r.ps.length (nJ r.ps) Hp/\ni=(Rx tb (nw nb m s) 87)::(Ht++Hp)) (aF (l₁:=([Rx rb [I 0,.slice none 0 0,S [],.bool false] 50]:SH))) (fun e0 mL=>?_) Tryd.call47 rfl rfl (fun w1 fa _=>?_) ?_
 ·rcases af.1 mL with rfl|mL
  ·rfl
  exact ht.w e0 mL
 ·refine(acK w1 _ ht hl mM hm hs sK ol fa).mono fun e w' ⟨hv,pv,Hp,h1,h2,h3,h4⟩=>⟨_,_,h1,fun e0 mL=>?_,h4,hv,pv,Hp,rfl,h2,h3,rfl⟩
  rcases af.1 mL with rfl|mL
  ·rfl
  rcases aB.1 mL with mL|mL
  ·exact ht.w e0 mL
  exact h3.w e0 mL
 rintro v ni ⟨hv,pv,Hp,rfl,O7,nx,rfl⟩;obtain⟨yn,yo,zP,rfl,pX⟩:=O7.slice;obtain⟨pad,Jb,rfl⟩:=nx.slice;have hlen:=nx.len;refine gB<|gA (iz rfl rfl)<|gA (iz rfl rfl)<|gA (iz rfl rfl)<|gA (iz rfl rfl)<|gF<|gF<|gF<|gF<|gC<|gz<|gD<|gB<|gB<|gA (iN (vs:=[(2,S r.full),(3,.bool r.ql)]) rfl (fun w1=>acP _ _ w1))<|iK (l:=[I 0,.slice none 0 0,S [],.bool false]) fu rfl rfl (fun fb hfb=>?_);refine iO (cs:=[I 0,.slice none 0 0,S r.full,.bool r.ql]) cQ rfl rfl (by simp[Value.oneCell']) .z rfl<|gC<|hO (H':=Rx fb [I 0,.slice none 0 0,S r.full,.bool r.ql] 50::Rx rb [I 0,.slice none 0 0,S [],.bool false] 50::([]++(Rx tb (nw nb m s) 87::(Ht++Hp)))) (fun w1 h1=>?_) ?_
 ·have p1:=oN [[Rx fb [I 0,.slice none 0 0,S r.full,.bool r.ql] 50],[Rx tb (nw nb m s) 87],Ht,Hp,[Rx rb [I 0,.slice none 0 0,S [],.bool false] 50]] [0,1,2,3,4] [0,4,1,2,3] (by decide);have h2:HF w D (Rx fb [I 0,.slice none 0 0,S r.full,.bool r.ql] 50::((Rx tb (nw nb m s) 87::(Ht++Hp))++[Rx rb [I 0,.slice none 0 0,S [],.bool false] 50])) w1:=h1;exact h2.perm (by simpa using p1)
 refine gz<|gz<|gD<|gB<|gA (iu bR rfl)<|gA (iS rfl rfl)<|gC<|hY (fun bc H'=>Sub [(6,Pt rb 0),(11,Pt fb 0),(8,.slice pad r.ps.length Jb)] bc/\H'=(Rx fb [I (r.h.getD 0:Nat),.slice none 0 0,S r.full,.bool r.ql] 50)::Rx rb [I 0,.slice none 0 0,S [],.bool false] 50::([]++(Rx tb (nw nb m s) 87::(Ht++Hp)))) (fun Vp=>?_) ?_
 ·refine gV rfl (fun tX=>?_) (fun tX=>?_)
  ·obtain⟨k,hb,Ga,e1,qD⟩:∃k hb,r.h=some k/\(Value.slice yn yo zP)=Sx hb 1 1/\(Rx hb [I (k:Int)] 3:oJ)∈Ht:=by
    rcases O7 with⟨_,h2⟩|h2
    ·cases h2;simp at tX
    exact h2
   cases e1;refine gD<|gB ?_;refine gA (ij (i:=0) bR bh rfl rfl (by omega))<|gA (gG aY rfl (.tail _ (.tail _ (.tail _ (ay _ qD)))) rfl) ?_;refine gH HW rfl<|gO bh rfl rfl rfl .z rfl rfl ?_;refine gC<|Vp _ _ ⟨.of rfl,?_⟩;rw[Ga];rfl
  refine gL ?_
  have Ga:r.h=none:=by
   rcases O7 with⟨h1,_⟩|⟨k,hb,_,h2,_⟩
   ·exact h1
   cases h2;simp at tX
  refine Vp _ _ ⟨.of rfl,?_⟩;rw[Ga];rfl
 rintro bc H' ⟨Vq,rfl⟩;refine gN Vq ?_;clear Vq;refine gz<|gz<|gD<|gB<|gA (iu bN rfl)<|gB<|gC<|gW ?_
 refine iC (fun N bc H'=>∃j kv Hq,j+N=r.ps.length/\Own 52 2 kv j (nJ (r.ps.take j)) Hq/\Sub [(6,Pt rb 0),(11,Pt fb 0),(33,.slice pad r.ps.length Jb),(34,I (r.ps.length:Nat)),(35,I (j:Nat))] bc/\H'=(Rx fb [I (r.h.getD 0:Nat),kv,S r.full,.bool r.ql] 50)::Rx rb [I 0,.slice none 0 0,S [],.bool false] 50::(Hq++(Rx tb (nw nb m s) 87::(Ht++Hp)))) r.ps.length
  ⟨0,.slice none 0 0,[],by omega,Own.nil,.of rfl,rfl⟩ ?_
 rintro N bc H' ⟨j,kv,Hq,hj,Jc,mJ,rfl⟩ ih;refine gN mJ ?_;clear mJ;refine gz<|gD<|gA (ik rfl rfl)<|gC<|gz<|gS rfl (fun yX=>?_) (fun yX=>?_)
 ·refine gL<|gz<|gW<|gz ?_;have oC:j<r.ps.length:=by omega
  obtain⟨⟨pk,wF⟩,Gb⟩:∃x,r.ps[j]? =some x:=⟨_,ao oC⟩;obtain⟨BE,xu,spare,e1,rfl⟩:=nx.at oC;cases e1;obtain⟨vW,vX,rfl⟩:=Jc.slice;refine gD<|gA (ij (i:=j) bN c5 rfl rfl oC)<|gA (ja (cs:=[S pk,S wF]) Tryd.isAgg95 c5 rfl (.tail _ (.tail _ (au _ (.tail _ (au _ (.head _)))))) (Vn Gb _) rfl)<|iK Tryd.zeroValue95 rfl rfl (fun xb zJ=>?_);refine iO (cs:=[S pk,S wF]) c5 rfl rfl (by simp[Value.oneCell']) .z rfl<|gC<|hO (H':=Rx xb [S pk,S wF] 95::Rx fb [I (r.h.getD 0:Nat),.slice vW j vX,S r.full,.bool r.ql] 50::Rx rb [I 0,.slice none 0 0,S [],.bool false] 50::(Hq++(Rx tb (nw nb m s) 87::(Ht++[Rx BE (nJ r.ps++spare) 95])))) (fun w1 h1=>?_) ?_
  ·exact h1
  refine gD<|gH HX rfl<|gA (gG Tryd.isAgg48 rfl (.tail _ (.head _)) rfl)<|gH Zw rfl<|gA (gG ag rfl (.head _) rfl)<|gH Zx rfl<|gA (gG ag rfl (.head _) rfl)<|gA (iN (vs:=[(0,S pk),(1,S wF)]) rfl (fun w1=>Vo _ _ w1))<|je (kE (a:=S pk) (b:=S wF) cY ee Tryd.zeroValue52) rfl rfl (fun sb vm=>?_);refine jA (i:=Tryd.t52) (sz:=2) (qg:=32) cY rfl rfl rfl rfl rfl rfl rfl Jc (H':=Rx sb [S pk,S wF] 52::Rx xb [S pk,S wF] 95::Rx fb [I (r.h.getD 0:Nat),.slice vW j vX,S r.full,.bool r.ql] 50::Rx rb [I 0,.slice none 0 0,S [],.bool false] 50::(Rx tb (nw nb m s) 87::(Ht++[Rx BE (nJ r.ps++spare) 95]))) ?_ (vf (vs:=[S pk,S wF]) (r:=[]) (.head _)) rfl (by simp[Value.oneCell']) (by omega) (by omega) (by omega) rfl (fun ov Jd oS=>?_)
  ·have p1:=oN [[Rx sb [S pk,S wF] 52],[Rx xb [S pk,S wF] 95],[Rx fb [I (r.h.getD 0:Nat),.slice vW j vX,S r.full,.bool r.ql] 50],[Rx rb [I 0,.slice none 0 0,S [],.bool false] 50],Hq,(Rx tb (nw nb m s) 87::(Ht++[Rx BE (nJ r.ps++spare) 95]))] [0,1,2,3,4,5] [4,0,1,2,3,5] (by decide);simpa using p1
  refine gH HX rfl<|gO Tryd.sizeOf48 rfl rfl (Own.Cw oS) (.s (.s .z)) rfl rfl<|gC<|il<|gD<|gA (iy j (by omega))<|gB<|gC<|hO (H':=Rx fb [I (r.h.getD 0:Nat),ov,S r.full,.bool r.ql] 50::Rx rb [I 0,.slice none 0 0,S [],.bool false] 50::(Jd++(Rx tb (nw nb m s) 87::(Ht++[Rx BE (nJ r.ps++spare) 95])))) (fun w1 h1=>?_) (ih (N-1) _ _ (by omega) ⟨j+1,ov,Jd,by omega,by rw[acO Gb];exact oS,.of rfl,rfl⟩);have h2:HF w D ((Rx sb [S pk,S wF] 52::Rx xb [S pk,S wF] 95::Rx fb [I (r.h.getD 0:Nat),ov,S r.full,.bool r.ql] 50::Rx rb [I 0,.slice none 0 0,S [],.bool false] 50::(Rx tb (nw nb m s) 87::(Ht++[Rx BE (nJ r.ps++spare) 95])))++Jd) w1:=h1;have p1:=oN [[Rx sb [S pk,S wF] 52],[Rx xb [S pk,S wF] 95],[Rx fb [I (r.h.getD 0:Nat),ov,S r.full,.bool r.ql] 50],[Rx rb [I 0,.slice none 0 0,S [],.bool false] 50],(Rx tb (nw nb m s) 87::(Ht++[Rx BE (nJ r.ps++spare) 95])),Jd] [0,1,2,3,4,5] [0,1,2,3,5,4] (by decide);have h3:=h2.perm (H':=[Rx sb [S pk,S wF] 52,Rx xb [S pk,S wF] 95]++(Rx fb [I (r.h.getD 0:Nat),ov,S r.full,.bool r.ql] 50::Rx rb [I 0,.slice none 0 0,S [],.bool false] 50::(Jd++(Rx tb (nw nb m s) 87::(Ht++[Rx BE (nJ r.ps++spare) 95]))))) (by simpa using p1);exact h3.sub (aG _ _)
 refine ir rfl<|gz ?_;have uz:j=r.ps.length:=by omega
 subst uz;rw[b8] at Jc;obtain⟨vW,vX,rfl⟩:=Jc.slice;refine gD<|gA (ja (cs:=[I (r.h.getD 0:Nat),.slice vW r.ps.length vX,S r.full,.bool r.ql]) Tryd.isAgg50 cQ rfl (.head _) rfl rfl)<|iO (cs:=[I (r.h.getD 0:Nat),.slice vW r.ps.length vX,S r.full,.bool r.ql]) cQ rfl rfl (by simp[Value.oneCell']) (.s .z) rfl<|gC<|jv (cs:=[I (r.h.getD 0:Nat),.slice vW r.ps.length vX,S r.full,.bool r.ql]) rfl Tryd.isAgg50 cQ rfl (.tail _ (.head _)) rfl fun w' ia=>⟨.slice vW r.ps.length vX,Hq,rfl,Jc,?_⟩
 have h1:HF w D (Rx fb [I (r.h.getD 0:Nat),.slice vW r.ps.length vX,S r.full,.bool r.ql] 50::Rx rb [I (r.h.getD 0:Nat),.slice vW r.ps.length vX,S r.full,.bool r.ql] 50::(Hq++(Rx tb (nw nb m s) 87::(Ht++Hp)))) w':=ia;have p1:=oN [[Rx fb [I (r.h.getD 0:Nat),.slice vW r.ps.length vX,S r.full,.bool r.ql] 50],[Rx rb [I (r.h.getD 0:Nat),.slice vW r.ps.length vX,S r.full,.bool r.ql] 50],Hq,[Rx tb (nw nb m s) 87],Ht,Hp] [0,1,2,3,4,5] [0,1,5,3,4,2] (by decide);have h2:=h1.perm (H':=(Rx fb [I (r.h.getD 0:Nat),.slice vW r.ps.length vX,S r.full,.bool r.ql] 50::Rx rb [I (r.h.getD 0:Nat),.slice vW r.ps.length vX,S r.full,.bool r.ql] 50::Hp)++(Rx tb (nw nb m s) 87::(Ht++Hq))) (by simpa using p1);exact h2.sub (aG _ _)
theorem acR (w:World) (D:Nat->Prop) {nb m s c1 c2 c3 c4:Nat} {t:T0} {p:List UInt8} {g:Nat} {r:n6} {z4:List Value} (ht:HT t nb Ht) (hl:Ln t) (mM:p.length<=100000) (hm:m<=20000) (hs:s<=20000) (sK:r.ps.length<=m) (hz:z4.length=4) (ol:n7 (o6 un) m s g t p [] []=some r) (hH:HF w D (Rx c1 [Pt tb 0] 67::Rx c2 [S p] 9::Rx c3 [.bool un] 4::Rx c4 z4 50::Rx tb (nw nb m s) 87::Ht) w):
  Calls Tryd.prog 32 #[Pt c1 0,Pt c2 0,Pt c3 0,Pt c4 0] w fun e w'=>∃pv Hq,e=.returned (.tuple #[])/\Own 52 2 pv r.ps.length (nJ r.ps) Hq/\HF w D (Rx c1 [Pt tb 0] 67::Rx c2 [S p] 9::Rx c3 [.bool un] 4::Rx c4 (qk r pv) 50::Rx tb (nw nb m s) 87::(Ht++Hq)) w':=by
 refine enter D (Rx c1 [Pt tb 0] 67::Rx c2 [S p] 9::Rx c3 [.bool un] 4::Rx c4 z4 50::Rx tb (nw nb m s) 87::Ht) Tryd.func32 rfl Tryd.ntmps32 rfl rfl hH fun c hc=>?_
 subst hc;refine gD<|gA (gG Tryd.isAgg67 rfl (.head _) rfl)<|gA (gG ag rfl (.tail _ (.head _)) rfl)<|gA (gG bQ rfl (m2 (.head _)) rfl)<|jo (H1:=Rx tb (nw nb m s) 87::Ht) (Hk:=[Rx c1 [Pt tb 0] 67,Rx c2 [S p] 9,Rx c3 [.bool un] 4,Rx c4 z4 50]) (fun v ni=>∃pv Hq,v=.agg (qk r pv).toArray /\Own 52 2 pv r.ps.length (nJ r.ps) Hq/\ni=(Rx tb (nw nb m s) 87)::(Ht++Hq)) (aF (l₁:=([Rx c1 [Pt tb 0] 67,Rx c2 [S p] 9,Rx c3 [.bool un] 4,Rx c4 z4 50]:SH))) (fun e0 mL=>?_) Tryd.call33 rfl rfl (fun w1 fa _=>?_) ?_
 ·rcases af.1 mL with rfl|mL
  ·rfl
  exact ht.w e0 mL
 ·refine(acQ w1 _ ht hl mM hm hs sK ol fa).mono fun e w' ⟨pv,Hq,h1,h2,h3⟩=>⟨_,_,h1,fun e0 mL=>?_,h3,pv,Hq,rfl,h2,rfl⟩
  rcases af.1 mL with rfl|mL
  ·rfl
  rcases aB.1 mL with mL|mL
  ·exact ht.w e0 mL
  exact h2.w e0 mL
 rintro v ni ⟨pv,Hq,rfl,nx,rfl⟩;exact jb (H':=Rx c1 [Pt tb 0] 67::Rx c2 [S p] 9::Rx c3 [.bool un] 4::Rx c4 z4 50::Rx tb (nw nb m s) 87::(Ht++Hq)) (fun w1 h1=>h1.perm (aF (l₂:=([Rx c1 [Pt tb 0] 67,Rx c2 [S p] 9,Rx c3 [.bool un] 4,Rx c4 z4 50]:SH))))<|iO (cs:=qk r pv) cQ rfl rfl (by intro v hv;simp only[qk,af,aC,or_false] at hv;rcases hv with rfl|rfl|rfl|rfl<;>first|rfl|exact Own.Cw nx) (.s (.s (.s .z))) (by rw[hz];rfl)<|gC<|jq rfl fun w' ia=>⟨pv,Hq,rfl,nx,ia⟩
inductive yp:List n6->List Value->SH->Prop
 |nil:yp [] [] []
 |snoc {rs:List n6} {cells:List Value} {H Hq:SH} {r:n6} {pv:Value} (h:yp rs cells H) (ho:Own 52 2 pv r.ps.length (nJ r.ps) Hq):yp (rs++[r]) (cells++qk r pv) (H++Hq)
theorem yp.w {rs cells H} (h:yp rs cells H):∀e∈H,e.w=true:=by
 induction h with
 |nil=>intro e he;cases he
 |snoc h ho ih=>
  intro e he;rcases aB.1 he with he|he
  ·exact ih e he
  exact ho.w e he
theorem Vr:∀(rs:List (List Tok)) (t t':T0) (f:F) (k:Nat),TS t f->(∀r∈rs,Gt.Good r)->rO t (rs.map lg) k=.inl t'->∃f',TS t' f'
 |[],t,t',f,k,h,_,e=>by cases e;exact⟨f,h⟩
 |r::rs,t,t',f,k,h,hg,e=>by
  simp only[aX,rO] at e;by_cases ha:Ap f r
  ·obtain⟨t2,h1,h2⟩:=(Eh h (hg r (.head _)) (k+1)).1 ha;rw[h1] at e;exact Vr rs t2 t' _ (k+1) h2 (fun x hx=>hg x (.tail _ hx)) e
  rw[(Eh h (hg r (.head _)) (k+1)).2 ha] at e;cases e
theorem Vt {l:List (List Tok)} (h:∀r∈l,(lg r).length <=20000):oU l<=20000:=by
 have key:∀(l:List (List Tok)) (m:Nat),m<=20000->(∀r∈l,(lg r).length <=20000)->l.foldl (fun m r=>max m ((lg r).count 58+(lg r).count 42)) m<=20000:=by
  intro l
  induction l with
  |nil=>intro m hm _;exact hm
  |cons r l ih=>
   intro m hm hl;refine ih _ (Nat.max_le.2 ⟨hm,?_⟩) fun x hx=>hl x (.tail _ hx)
   have h1:=hl r (.head _)
   have h2:∀s:List UInt8,s.count 58+s.count 42<=s.length:=by
    intro s
    induction s with
    |nil=>simp
    |cons a s qz=>
     rw[dZ,dZ,aI];by_cases e1:a=58
     ·subst e1;simp;omega
     by_cases e2:a=42
     ·subst e2;simp;omega
     simp[e1,e2];omega
   have:=h2 (lg r);omega
 exact key l 0 (by omega) h
theorem acS {l:List (List Tok)} (h:∀r∈l,(lg r).length <=20000):oY l<=20000:=by
 have key:∀(l:List (List Tok)) (m:Nat),m<=20000->(∀r∈l,(lg r).length <=20000)->l.foldl (fun m r=>max m ((lg r).count 47)) m<=20000:=by
  intro l
  induction l with
  |nil=>intro m hm _;exact hm
  |cons r l ih=>
   intro m hm hl;refine ih _ (Nat.max_le.2 ⟨hm,?_⟩) fun x hx=>hl x (.tail _ hx)
   have h1:=hl r (.head _);have:=eB (a:=(47:UInt8)) (l:=lg r);omega
 exact key l 0 (by omega) h
theorem Vu (w:World) (rs:List (List Tok)) (sv:Value) (hg:∀r∈rs,Gt.Good r) (hl:∀r∈rs,(lg r).length <=20000) (oE:∀r∈rs,∀c∈lg r,c≠92) (hn:rs.length<=1000000) (pe:vq w sv (rs.map lg)) (ps:List (List UInt8)) (pv:Value) (Ey:vq w pv ps) (mM:∀p∈ps,p.length<=100000) (xE:ps.length<=100000) (un:Bool) (Gc:∀t,rO new (rs.map lg) 0=.inl t->∀p∈ps,∃g r,n7 (o6 un) (oU rs) (oY rs) g t p [] []=some r/\r.ps.length<=oU rs):Calls Tryd.prog 12 #[sv,pv,.bool un] w fun e w'=>(∃j,rO new (rs.map lg) 0=.inr j/\e=.returned (.tuple #[.slice none 0 0,.bool false])/\HF w (fun _=>False) [] w')\/(∃t rr fv cells Hf Hq,rO new (rs.map lg) 0=.inl t/\rr.length=ps.length/\(∀(i:Nat) p r,ps[i]? =some p->rr[i]? =some r->∃g,n7 (o6 un) (oU rs) (oY rs) g t p [] []=some r)/\e=.returned (.tuple #[fv,.bool true])/\Own 50 4 fv rr.length cells Hf/\yp rr cells Hq/\HF w (fun _=>False) (Hf++Hq) w'):=by
 refine enter (fun _=>False) [] Tryd.func12 rfl Tryd.ntmps12 rfl rfl (HF.start w _) fun c hc=>?_
 subst hc;have hmP:=Vt hl;have hmS:=acS hl;refine gz<|gD<|jc (l:=[.bool un]) rfl rfl rfl (fun c3 AD=>?_);refine gF<|gF<|gC<|gz<|gD<|gB<|iP (fun v H2=>∃(zQ:Nat) (rf:Int),v=.tuple #[Pt zQ 0,I rf]/\((∃t nb Hn,rO new (rs.map lg) 0=.inl t/\rf= -1/\HT t nb Hn/\H2=(Rx zQ (nw nb (oU rs) (oY rs)) 87::Hn)++[Rx c3 [.bool un] 4])\/(∃j:Nat,rO new (rs.map lg) 0=.inr j/\rf=j/\H2=[Rx c3 [.bool un] 4]))) Tryd.call29 rfl rfl (fun w1 fa=>(K5 w1 rs sv hg hl oE hn (pe.old fa)).mono fun e w' h=>?_) ?_
 ·rcases h with⟨t,tb,nb,Hn,h1,h2,h3,h4⟩|⟨j,tb,h1,h2,h3⟩
  ·refine⟨_,_,h2,fa.o9 h4 (fun e0 mL=>?_),tb,-1,rfl,.inl ⟨t,nb,Hn,h1,rfl,h3,rfl⟩⟩;rcases af.1 mL with rfl|mL
   ·rfl
   exact h3.w e0 mL
  exact⟨_,_,h2,fa.o9 h3 (by simp),tb,(j:Int),rfl,.inr ⟨j,h1,rfl,rfl⟩⟩
 rintro v H2 ⟨tb,rf,rfl,hJ⟩;refine gB<|gA (iz rfl rfl)<|gA (iz rfl rfl)<|iK Tryd.zeroValue67 rfl rfl (fun c1 oV=>?_);refine gO Tryd.sizeOf67 rfl rfl rfl .z rfl rfl<|gF<|gC<|hO (H':=Rx c1 [Pt tb 0] 67::H2) (fun w1 h1=>h1)<|gz<|gz<|gD<|gB<|gA (jJ rfl rfl)<|gC<|gS rfl (fun Dd=>?_) (fun Dd=>?_)
 ·refine gz ?_
  obtain⟨j,vt,rfl,rfl⟩:∃j:Nat,rO new (rs.map lg) 0=.inr j/\rf=j/\H2=[Rx c3 [.bool un] 4]:=by
   rcases hJ with⟨t,nb,Hn,h1,h2,_⟩|h
   ·omega
   exact h
  exact gD<|gF<|gF<|gC<|jl rfl rfl rfl fun w' ia=>.inl ⟨j,vt,rfl,ia.sub (ar _)⟩
 refine gL<|gz ?_
 obtain⟨t,nb,Hn,vt,rfl,zR,rfl⟩:∃t nb Hn,rO new (rs.map lg) 0=.inl t/\rf= -1/\HT t nb Hn/\H2=(Rx tb (nw nb (oU rs) (oY rs)) 87::Hn)++[Rx c3 [.bool un] 4]:=by
  rcases hJ with h|⟨j,h1,h2,_⟩
  ·exact h
  omega
 obtain⟨f0,pz⟩:=Vr rs new t _ 0 (.inl ⟨rfl,rfl⟩) hg vt;have ti:=NB.all (rs.map lg) new 0 t NB.new (fun r hr=>by obtain⟨x,hx,rfl⟩:=aZ.1 hr;exact⟨hl x hx,oE x hx⟩) vt;have yl:=Ln.of pz ti;refine hO (H':=Rx c1 [Pt tb 0] 67::Rx c3 [.bool un] 4::Rx tb (nw nb (oU rs) (oY rs)) 87::Hn) (fun w1 h1=>h1.perm ?_) ?_
 ·have p1:=oN [[Rx c1 [Pt tb 0] 67],[Rx tb (nw nb (oU rs) (oY rs)) 87],Hn,[Rx c3 [.bool un] 4]] [0,1,2,3] [0,3,1,2] (by decide);simpa using p1
 refine gD<|gA (gG Tryd.isAgg67 rfl (.head _) rfl)<|jo (H1:=Rx tb (nw nb (oU rs) (oY rs)) 87::Hn) (Hk:=[Rx c1 [Pt tb 0] 67,Rx c3 [.bool un] 4]) (fun v ni=>v=.tuple #[]/\∃nC,HT t nb nC/\ni=(Rx tb (nw nb (oU rs) (oY rs)) 87)::nC) (aF (l₁:=([Rx c1 [Pt tb 0] 67,Rx c3 [.bool un] 4]:SH))) (fun e0 mL=>?_) Tryd.call30 rfl rfl (fun w1 fa _=>?_) ?_
 ·rcases af.1 mL with rfl|mL
  ·rfl
  exact zR.w e0 mL
 ·refine(Oi w1 _ yl ti zR fa).mono fun e w' ⟨h1,nC,h2,h3⟩=>⟨_,_,h1,fun e0 mL=>?_,h3,rfl,nC,h2,rfl⟩
  rcases af.1 mL with rfl|mL
  ·rfl
  exact h2.w e0 mL
 rintro v ni ⟨rfl,vp,qQ,rfl⟩;refine gC<|gz<|gz<|hO (H':=Rx c1 [Pt tb 0] 67::Rx c3 [.bool un] 4::Rx tb (nw nb (oU rs) (oY rs)) 87::(vp++([]++[]))) (fun w1 h1=>h1.perm ?_) ?_
 ·have p1:=oN [[Rx tb (nw nb (oU rs) (oY rs)) 87],vp,[Rx c1 [Pt tb 0] 67],[Rx c3 [.bool un] 4]] [0,1,2,3] [2,3,0,1] (by decide);simpa using p1
 obtain⟨pad,Jb,rfl,acV⟩:=Ey;refine gD<|gB<|gA (iu aE rfl)<|gB<|gC<|gW ?_
 refine iC (fun N bc H'=>∃(j:Nat) (rr:List n6) (fv:Value) (cells:List Value) (Ht Hf Hq:SH),j+N=ps.length/\rr.length=j/\(∀(i:Nat) p r,ps[i]? =some p->rr[i]? =some r->∃g,n7 (o6 un) (oU rs) (oY rs) g t p [] []=some r)/\HT t nb Ht/\Own 50 4 fv j cells Hf/\yp rr cells Hq/\Sub [(8,Pt c1 0),(5,Pt c3 0),(6,fv),(22,.slice pad ps.length Jb),(23,I (ps.length:Nat)),(24,I (j:Nat))] bc/\H'=(Rx c1 [Pt tb 0] 67)::Rx c3 [.bool un] 4::Rx tb (nw nb (oU rs) (oY rs)) 87::(Ht++(Hf++Hq))) ps.length
  ⟨0,[],.slice none 0 0,[],vp,[],[],by omega,rfl,fun i p r _ h=>by simp at h,qQ,Own.nil,.nil,.of rfl,rfl⟩ ?_
 rintro N bc H' ⟨j,rr,fv,cells,Ht,Hf,Hq,hj,hrr,ol,ht,nx,De,mJ,rfl⟩ ih;refine gN mJ ?_;clear mJ;refine gz<|gD<|gA (ik rfl rfl)<|gC<|gz<|gS rfl (fun BF=>?_) (fun BF=>?_)
 ·refine gL<|gz<|gW<|gz ?_;have oC:j<ps.length:=by omega
  obtain⟨p,Gb⟩:=gx oC;have Gd:=ap Gb;obtain⟨lb,lo,rfl,AI⟩:=acV j p Gb;obtain⟨g,r,Je,sK⟩:=Gc t vt p Gd;refine gD<|gA (ij (i:=j) aE ah rfl rfl oC) ?_;rw[aT];refine gA (hZ (v:=S p) ag rfl AI id)<|iK ck rfl rfl (fun c2 oc=>?_);refine gO ah rfl rfl rfl .z rfl rfl<|gC<|gz<|gD<|iK (l:=[I 0,.slice none 0 0,S [],.bool false]) fu rfl rfl (fun c4 hc4=>?_);refine gC<|gz<|gz<|hO (H':=(Rx c1 [Pt tb 0] 67::Rx c2 [S p] 9::Rx c3 [.bool un] 4::Rx c4 [I 0,.slice none 0 0,S [],.bool false] 50::Rx tb (nw nb (oU rs) (oY rs)) 87::Ht)++(Hf++Hq)) (fun w1 h1=>?_) ?_
  ·have h2:HF w (fun _=>False) (Rx c4 [I 0,.slice none 0 0,S [],.bool false] 50::Rx c2 [S p] 9::Rx c1 [Pt tb 0] 67::Rx c3 [.bool un] 4::Rx tb (nw nb (oU rs) (oY rs)) 87::(Ht++(Hf++Hq))) w1:=h1;have p1:=oN [[Rx c4 [I 0,.slice none 0 0,S [],.bool false] 50],[Rx c2 [S p] 9],[Rx c1 [Pt tb 0] 67],[Rx c3 [.bool un] 4],[Rx tb (nw nb (oU rs) (oY rs)) 87],Ht,Hf,Hq] [0,1,2,3,4,5,6,7] [2,1,3,0,4,5,6,7] (by decide);exact h2.perm (by simpa using p1)
  refine gD<|gA (kH (vs:=[Pt c1 0,Pt c2 0,Pt c3 0,Pt c4 0]) rfl)<|iP (fun v H2=>∃t1,v=.bool t1/\(t1=false/\∃r6 vy,Own 52 2 r6 r.ps.length (nJ r.ps) vy/\H2=(Rx c1 [Pt tb 0] 67::Rx c2 [S p] 9::Rx c3 [.bool un] 4::Rx c4 (qk r r6) 50::Rx tb (nw nb (oU rs) (oY rs)) 87::(Ht++vy))++(Hf++Hq))) Tryd.call31 rfl rfl (fun w1 fa=>?_) ?_
  ·refine(UB 32 #[Pt c1 0,Pt c2 0,Pt c3 0,Pt c4 0] Tryd.call32 w1 w (fun _=>False) _ fa (fun t1 H2=>(t1=false/\∃r6 vy,Own 52 2 r6 r.ps.length (nJ r.ps) vy/\H2=(Rx c1 [Pt tb 0] 67::Rx c2 [S p] 9::Rx c3 [.bool un] 4::Rx c4 (qk r r6) 50::Rx tb (nw nb (oU rs) (oY rs)) 87::(Ht++vy))++(Hf++Hq))) (fun b w2 FA tA=>?_)).mono fun e w' ⟨t1,H2,h1,h2,h3⟩=>⟨_,_,h1,h3,t1,rfl,h2⟩
   have qZ:List.Perm (Rx b [.bool false] 4::((Rx c1 [Pt tb 0] 67::Rx c2 [S p] 9::Rx c3 [.bool un] 4::Rx c4 [I 0,.slice none 0 0,S [],.bool false] 50::Rx tb (nw nb (oU rs) (oY rs)) 87::Ht)++(Hf++Hq)):SH) ((Rx c1 [Pt tb 0] 67::Rx c2 [S p] 9::Rx c3 [.bool un] 4::Rx c4 [I 0,.slice none 0 0,S [],.bool false] 50::Rx tb (nw nb (oU rs) (oY rs)) 87::Ht)++(Rx b [.bool false] 4::(Hf++Hq))):=(bG (l₁:=(Rx c1 [Pt tb 0] 67::Rx c2 [S p] 9::Rx c3 [.bool un] 4::Rx c4 [I 0,.slice none 0 0,S [],.bool false] 50::Rx tb (nw nb (oU rs) (oY rs)) 87::Ht))).symm;have hh:=tA.perm qZ;have nj:=bS.1 hh.nd
   have K6:∀e0∈((Rx c1 [Pt tb 0] 67::Rx c2 [S p] 9::Rx c3 [.bool un] 4::Rx c4 [I 0,.slice none 0 0,S [],.bool false] 50::Rx tb (nw nb (oU rs) (oY rs)) 87::Ht):SH),e0.w=true:=fun e0 mL=>by
    simp only[af] at mL;rcases mL with rfl|rfl|rfl|rfl|rfl|mL<;>first|rfl|exact ht.w e0 mL
   refine(acR w2 (fun b=>∃e∈((Rx c1 [Pt tb 0] 67::Rx c2 [S p] 9::Rx c3 [.bool un] 4::Rx c4 [I 0,.slice none 0 0,S [],.bool false] 50::Rx tb (nw nb (oU rs) (oY rs)) 87::Ht):SH),e.b=b) ht yl (mM p Gd) hmP hmS sK rfl Je (hh.loc (fun e he=>ay _ he) nj.1)).mono fun e w' ⟨r6,vy,h1,h2,h3⟩=>?_
   refine⟨_,?_,.inl ⟨_,h1,rfl,r6,vy,h2,rfl⟩⟩
   have h5:=tA.back qZ K6 (fun e0 mL=>by
    simp only[af,aB] at mL
    rcases mL with rfl|rfl|rfl|rfl|rfl|mL|mL<;>first|rfl|exact ht.w e0 mL|exact h2.w e0 mL) h3
   exact h5.perm (bG (l₁:=(Rx c1 [Pt tb 0] 67::Rx c2 [S p] 9::Rx c3 [.bool un] 4::Rx c4 (qk r r6) 50::Rx tb (nw nb (oU rs) (oY rs)) 87::(Ht++vy))))
  rintro v H2 ⟨t1,rfl,rfl,r6,vy,vZ,rfl⟩;refine gC<|iJ rfl<|gL<|gD<|gB<|gA (ja (b:=c4) (off:=0) (s:=4) (wf:=true) (l:=qk r r6) (T:=50) (fz:=(0,0)) (cs:=qk r r6) Tryd.isAgg50 cQ rfl (by simp) rfl rfl)<|je (my (a:=I (r.h.getD 0:Nat)) (b:=r6) (c:=S r.full) (d:=.bool r.ql) cJ cQ fu) rfl rfl (fun sb vm=>?_);refine jA (i:=Tryd.t50) (sz:=4) (qg:=56) cJ rfl rfl rfl rfl rfl rfl rfl nx (H':=(Rx sb (qk r r6) 50::Rx c1 [Pt tb 0] 67::Rx c2 [S p] 9::Rx c3 [.bool un] 4::Rx c4 (qk r r6) 50::Rx tb (nw nb (oU rs) (oY rs)) 87::(Ht++(vy++Hq)))) ?_ (vf (vs:=qk r r6) (r:=[]) (.head _)) rfl (by intro u hu;simp only[qk,af,aC,or_false] at hu;rcases hu with rfl|rfl|rfl|rfl<;>first|rfl|exact Own.Cw vZ) (by omega) (by omega) (by omega) rfl (fun fv2 Jf oS=>?_)
  ·have p1:=oN [[Rx sb (qk r r6) 50],[Rx c1 [Pt tb 0] 67],[Rx c2 [S p] 9],[Rx c3 [.bool un] 4],[Rx c4 (qk r r6) 50],[Rx tb (nw nb (oU rs) (oY rs)) 87],Ht,vy,Hf,Hq] [0,1,2,3,4,5,6,7,8,9] [8,0,1,2,3,4,5,6,7,9] (by decide);have p2:List.Perm (Rx sb (qk r r6) 50::((Rx c1 [Pt tb 0] 67::Rx c2 [S p] 9::Rx c3 [.bool un] 4::Rx c4 (qk r r6) 50::Rx tb (nw nb (oU rs) (oY rs)) 87::(Ht++vy))++(Hf++Hq))) (Hf++(Rx sb (qk r r6) 50::Rx c1 [Pt tb 0] 67::Rx c2 [S p] 9::Rx c3 [.bool un] 4::Rx c4 (qk r r6) 50::Rx tb (nw nb (oU rs) (oY rs)) 87::(Ht++(vy++Hq)))):=by simpa using p1
   exact p2
  refine gF<|gC<|il<|gD<|gA (iy j (by omega))<|gB<|gC<|hO (H':=Rx c1 [Pt tb 0] 67::Rx c3 [.bool un] 4::Rx tb (nw nb (oU rs) (oY rs)) 87::(Ht++(Jf++(Hq++vy)))) (fun w1 h1=>?_) (ih (N-1) _ _ (by omega) ⟨j+1,rr++[r],fv2,cells++qk r r6,Ht,Jf,Hq++vy,by omega,by simp;omega,fun i p2 r2 hi rT=>?_,ht,oS,.snoc De vZ,.of rfl,rfl⟩)
  ·have h2:HF w (fun _=>False) ((Rx sb (qk r r6) 50::Rx c1 [Pt tb 0] 67::Rx c2 [S p] 9::Rx c3 [.bool un] 4::Rx c4 (qk r r6) 50::Rx tb (nw nb (oU rs) (oY rs)) 87::(Ht++(vy++Hq)))++Jf) w1:=h1;have p1:=oN [[Rx sb (qk r r6) 50],[Rx c1 [Pt tb 0] 67],[Rx c2 [S p] 9],[Rx c3 [.bool un] 4],[Rx c4 (qk r r6) 50],[Rx tb (nw nb (oU rs) (oY rs)) 87],Ht,vy,Hq,Jf] [0,1,2,3,4,5,6,7,8,9] [0,2,4,1,3,5,6,9,8,7] (by decide);have h3:=h2.perm (H':=[Rx sb (qk r r6) 50,Rx c2 [S p] 9,Rx c4 (qk r r6) 50]++(Rx c1 [Pt tb 0] 67::Rx c3 [.bool un] 4::Rx tb (nw nb (oU rs) (oY rs)) 87::(Ht++(Jf++(Hq++vy))))) (by simpa using p1);exact h3.sub (aG _ _)
  rcases cn i rr.length with h|h
  ·rw[ak h] at rT;exact ol i p2 r2 hi rT
  have xy:=(ae.1 rT).1;simp at xy;have wU:i=j:=by omega
  subst wU;rw[bO h] at rT;have e0:i-rr.length=0:=by omega
  rw[e0] at rT;simp at rT;subst rT;rw[Gb] at hi;cases hi;exact⟨g,Je⟩
 refine ir rfl<|gz<|gD<|gB<|gF<|gF<|gC ?_;have uz:j=ps.length:=by omega
 refine jl rfl rfl rfl fun w' ia=>.inr ⟨t,rr,fv,cells,Hf,Hq,vt,by omega,ol,rfl,by rw[hrr];exact nx,De,?_⟩
 exact ia.sub (.cons _ (.cons _ (.cons _ (aG _ _))))
end Go.Proofs
namespace Go.Proofs
open Go Bw
theorem acY (d:Nat) (a c:List UInt8) (w:World):(Op.equalIn (d+1) 9 (S a) (S c)).run Tryd.prog w=.ok (decide (a=c)) w:=by
 simp[Op.equalIn,underlying,aa];rw[df,decide_eq_true_iff];show(a.toArray==c.toArray)=true<->a=c;simp
theorem Vv (a c:List UInt8) (w:World):(Op.equalIn 9999 9 (S a) (S c)).run Tryd.prog w=.ok (decide (a=c)) w:=acY 9998 a c w
theorem acZ (a b c d:List UInt8) (w:World):(Op.equalIn 10000 52 (.agg #[S a,S b]) (.agg #[S c,S d])).run Tryd.prog w=.ok (decide (a=c)&&decide (b=d)) w:=by
 have e:Tryd.prog.underlying 52=some (.struct (Tryd.prog.fieldsOf 52)):=by kernel_rfl
 rw[show(10000:Nat)=9999+1 from rfl,run_equalIn_agg w 9999 52 _ _ e (by kernel_rfl)];have hf:Tryd.prog.fieldsOf 52= #[{name:= "Name",type:=9,offset:=0,embedded:=false,tag:= "",pkgPath:= "",byteOffset:=0},{name:= "Value",type:=9,offset:=1,embedded:=false,tag:= "",pkgPath:= "",byteOffset:=16}]:=by kernel_rfl
 have hp:∀(xs:Array Value) (i:Nat) (v:Value) (w:World),xs[i]? =some v->(part 9 xs i).run Tryd.prog w=.ok v w:=fun xs i v w h=>by
  simp[part,ag,h]
 rw[hf];simp only[Op.eqFields];simp[hp _ _ _ _ (show(#[S a,S b]:Array Value)[0]? =some (S a) from rfl),hp _ _ _ _ (show(#[S c,S d]:Array Value)[0]? =some (S c) from rfl),hp _ _ _ _ (show(#[S a,S b]:Array Value)[1]? =some (S b) from rfl),hp _ _ _ _ (show(#[S c,S d]:Array Value)[1]? =some (S d) from rfl),Vv];by_cases h1:a=c<;>by_cases h2:b=d<;>simp[h1,h2]
variable {c:Cx} {n:Nat} {fr:SF} {H:SH} {ty t u:TypeId} {x y:Operand}
theorem mz {a b d e:List UInt8} (hx:ev fr x=some (.agg #[S a,S b])) (hy:ev fr y=some (.agg #[S d,S e])):nB Tryd.prog c n (.binOp .neq 52 x y u) ty fr H (.bool (!(decide (a=d)&&decide (b=e)))):=by
 intro a1 w ha hw dst pos mG g;simp[execOp,ha.eval hx,ha.eval hy,run_eqGuard_agg (P:=Tryd.prog) w .neq 52 x y _ _ (by kernel_rfl),run_neq_struct,acZ]
end Go.Proofs
namespace Go.Proofs
open Go Bw Gt
variable {sv:Value}
def O8 (w:World) (sv:Value) (l:List (List UInt8×List UInt8)):Prop:=∃ad cp,sv=.slice ad l.length cp/\∀(j:Nat) x,l[j]? =some x->∃b o,ad=some ⟨b,o,none⟩/\w.cell? ⟨b,o+j*2,none⟩=some (S x.1)/\w.cell? ⟨b,o+j*2+1,none⟩=some (S x.2)
theorem O9:∀{l:List (List UInt8×List UInt8)} {j:Nat} {x},l[j]? =some x->(nJ l)[j*2]? =some (S x.1)/\(nJ l)[j*2+1]? =some (S x.2)
 |[],j,x,h=>by simp at h
 |(k,v)::l,0,x,h=>by simp at h;subst h;simp[nJ]
 |(k,v)::l,j+1,x,h=>by
  have:=O9 (l:=l) (j:=j) (by simpa using h);have e1:(j+1)*2=j*2+1+1:=by omega
  rw[e1];simpa[nJ] using this
theorem Own.Vw {w0 w:World} {D:Nat->Prop} {H Hs:SH} {e:Nat} {l:List (List UInt8×List UInt8)} (ho:Own e 2 sv l.length (nJ l) Hs) (hw:HF w0 D H w) (mU:∀x∈Hs,x∈H):O8 w sv l:=by
 generalize hn:l.length=n at ho;generalize hx:nJ l=xs at ho
 cases ho with
 |nil=>exact⟨none,0,by rw[hn],fun j x hj=>by have:=(ae.1 hj).1;omega⟩
 | @row b n cap xs spare h1 h2 h3=>
  subst hx;refine⟨some ⟨b,0,none⟩,cap,by rw[hn],fun j x hj=>⟨b,0,rfl,?_,?_⟩⟩
  ·have:=(O9 hj).1;exact oQ hw (mU _ (.head _)) (by rw[n8,aH,ak (ae.1 this).1];exact this)
  have:=(O9 hj).2;exact oQ hw (mU _ (.head _)) (by rw[n8,aH,ak (ae.1 this).1];exact this)
theorem AO {w:World} {b o:Nat} {x y:Value} (h1:w.cell? ⟨b,o,none⟩=some x) (h2:w.cell? ⟨b,o+1,none⟩=some y):∀(j:Nat) v,[x,y][j]? =some v->w.cell? ⟨b,o+j,none⟩=some v:=fun j v hj=>by
 match j,hj with
 |0,hj=>simp at hj;subst hj;exact h1
 |1,hj=>simp at hj;subst hj;exact h2
 |j+2,hj=>simp at hj
theorem ac0 (w:World) (la lb:List (List UInt8×List UInt8)) (a b:Value) (ha:O8 w a la) (hb:O8 w b lb) (Df:la.length<=1000000) (yO:lb.length<=1000000):Calls Tryd.prog 26 #[a,b] w fun e w'=>e=.returned (.bool (decide (la=lb)))/\HF w (fun _=>False) [] w':=by
 refine enter (fun _=>False) [] Tryd.func26 rfl Tryd.ntmps26 rfl rfl (HF.start w _) fun c hc=>?_
 subst hc;obtain⟨ada,cpa,rfl,qS⟩:=ha;obtain⟨adb,cpb,rfl,rF⟩:=hb;refine gz<|gD<|gF<|gC<|gz<|gz<|gD<|gB<|gA (iu cY rfl)<|gB<|gA (iu cY rfl)<|gA (iF rfl rfl)<|gC<|gV rfl (fun oF=>?_) (fun oF=>?_)
 ·refine gz<|gD<|gF<|gC<|ic rfl rfl fun w' ia=>⟨?_,ia⟩
  have mW:la.length≠lb.length:=by simp at oF;omega
  rw[decide_eq_false fun e=>mW (by rw[e])]
 refine gL<|gz<|gz ?_;have AP:la.length=lb.length:=by simp at oF;omega
 refine gD<|gB<|gA (iu cY rfl)<|gB<|gC<|gW ?_
 refine iC (fun N bc H'=>∃j,j+N=la.length/\la.take j=lb.take j/\Sub [(0,.slice ada la.length cpa),(1,.slice adb lb.length cpb),(12,I (la.length:Nat)),(13,I (j:Nat))] bc/\H'=[]) la.length
  ⟨0,by omega,rfl,.of rfl,rfl⟩ ?_
 rintro N bc H' ⟨j,hj,oB,mJ,rfl⟩ ih;refine gN mJ ?_;clear mJ;refine gz<|gD<|gA (ik rfl rfl)<|gC<|gz<|gS rfl (fun xY=>?_) (fun xY=>?_)
 ·refine gL<|gz<|gW<|gz<|gD<|gB<|gF<|gC<|gz ?_;have Vx:j<la.length:=by omega
  obtain⟨⟨ka,va⟩,tJ⟩:∃x,la[j]? =some x:=⟨_,ao Vx⟩;obtain⟨⟨kb,vb⟩,zJ⟩:∃x,lb[j]? =some x:=gx (by omega);obtain⟨ba,oa,rfl,yn,yo⟩:=qS j _ tJ;obtain⟨bb,ob,rfl,sd,sf⟩:=rF j _ zJ;refine iV mixed (by kernel_rfl)<|gK (gM rfl)<|gK (gM rfl)<|gK (ij (i:=j) cY ee rfl rfl Vx)<|gK (ju (cs:=[S ka,S va]) Tryd.isAgg52 ee rfl (AO yn yo) rfl id)<|gK (gM rfl)<|gK (gM rfl)<|gK (ij (i:=j) cY ee rfl rfl (by omega))<|gK (ju (cs:=[S kb,S vb]) Tryd.isAgg52 ee rfl (AO sd sf) rfl id)<|gK (mz rfl rfl)<|iH<|gV rfl (fun qu=>?_) (fun qu=>?_)
  ·refine gz<|gD<|gF<|gC<|ic rfl rfl fun w' ia=>⟨?_,ia⟩
   have mW:¬la=lb:=fun e=>by
    subst e;rw[tJ] at zJ;cases zJ;simp at qu
   rw[decide_eq_false mW]
  refine gL<|il<|gD<|gA (iy j (by omega))<|gB<|gC ?_;have Vy:ka=kb/\va=vb:=by simpa using qu
  refine ih (N-1) _ _ (by omega) ⟨j+1,by omega,?_,.of rfl,rfl⟩;rw[By tJ,By zJ,oB,Vy.1,Vy.2]
 refine ir rfl<|gz<|gD<|gF<|gC ?_;have uz:j=la.length:=by omega
 refine ic rfl rfl fun w' ia=>⟨?_,ia⟩
 have he:la=lb:=by
  rw[uz,b8,AP,b8] at oB;exact oB
 rw[decide_eq_true he]
end Go.Proofs
namespace Gt
open Gs Tr
theorem Vz (u:List UInt8->List UInt8) (cP cS:Nat):∀(f:Nat) (n:T0) (p:List UInt8) (ps:List (List UInt8×List UInt8)) (sk:List Sk) (r:n6),n7 u cP cS f n p ps sk=some r->n7 u cP cS (f+1) n p ps sk=some r
 |0,_,_,_,_,_,h=>by cases h
 |f+1,n,p,ps,sk,r,h=>by
  have ih:=Vz u cP cS f
  unfold n7 at h
  unfold n7
  split at h
  ·rename_i h1
   rw[if_pos h1]
   split at h
   ·rename_i i hi
    try simp only[hi]
    split at h
    ·rename_i k hk
     try simp only[hk]
     split at h
     ·rename_i hw
      rw[if_pos hw]
      split at h
      ·rename_i hr
       rw[if_pos hr];exact ih _ _ _ _ _ h
      cases h
     rename_i hw
     rw[if_neg hw];exact ih _ _ _ _ _ h
    cases h
   rename_i hi
   try simp only[hi]
   split at h
   ·rename_i hw
    rw[if_pos hw]
    split at h
    ·rename_i hp
     try simp only[hp]
     exact ih _ _ _ _ _ h
    ·rename_i hp
     try simp only[hp]
     exact h
    cases h
   rename_i hw
   rw[if_neg hw]
   split at h
   ·cases h
   rename_i k hk
   try simp only[hk]
   split at h
   ·cases h
   rename_i hr
   rw[if_neg hr]
   split at h
   ·rename_i h2;rw[if_pos h2];split at h
    ·rename_i mS;rw[if_pos mS];split at h
     ·rename_i c cr qK
      try simp only[qK]
      exact ih _ _ _ _ _ h
     rename_i qK
     try simp only[qK]
     exact h
    rename_i mS;rw[if_neg mS];exact h
   rename_i h2;rw[if_neg h2];exact h
  rename_i h1;rw[if_neg h1];split at h
  ·rename_i h2;rw[if_pos h2];split at h
   ·rename_i hp
    try simp only[hp]
    exact ih _ _ _ _ _ h
   ·cases h
   rename_i hp
   try simp only[hp]
   exact h
  rename_i h2;rw[if_neg h2];split at h
  ·rename_i hp
   try simp only[hp]
   exact ih _ _ _ _ _ h
  ·rename_i hp
   try simp only[hp]
   exact h
  cases h
theorem VA {u:List UInt8->List UInt8} {cP cS f:Nat} (g:Nat) {n p ps sk r} (h:n7 u cP cS f n p ps sk=some r):n7 u cP cS (f+g) n p ps sk=some r:=by
 induction g with
 |zero=>exact h
 |succ g ih=>exact Vz u cP cS _ _ _ _ _ _ ih
theorem Pa {u:List UInt8->List UInt8} {cP cS f g:Nat} {n p ps sk r r'} (h:n7 u cP cS f n p ps sk=some r) (h':n7 u cP cS g n p ps sk=some r'):r=r':=by
 have h1:=VA g h;have h2:=VA f h';rw[eF] at h2;rw[h1] at h2;exact bp h2
end Gt
