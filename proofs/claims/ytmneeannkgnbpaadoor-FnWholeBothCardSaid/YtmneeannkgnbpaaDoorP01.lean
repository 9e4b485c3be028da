/- Lemmas of the walk and plain facts (BwBuf .. BwShort). -/
import Derived.Test.YtmneeannkgnbpaaDoorL1
import Derived.Test.YtmneeannkgnbpaaDoorP00
import Derived.Lib.Buffer
import Derived.Lib.OthersKept
import Derived.Lib.UnsafeStr
import Derived.Laws.Tables
import Derived.OrdersHeld
set_option maxRecDepth 20000
namespace Bw
open Go
variable {P:Program} {c:Cx} {n:Nat} {k:List Item} {fr:SF} {H:SH} {ops:Array Oper} {rest:List Oper} {ty:TypeId} {pos:String} {mG:Array Edge}
theorem iP {g:FuncId} {xs:List Operand} {vs:List Value} {pj:Array TypeId} {d:Nat} (J:Value->SH->Prop) (hg:∀(args:Array Value) w,(callFunc g args).run P w=.ok (.enter g args) w) (he:rN fr xs=some vs)
  (hd:Nat.blt d n=true) (hc:∀w,HF c.w0 c.D H w->Calls P g vs.toArray w (fun e w'=>∃v H',e=.returned v/\HF c.w0 c.D H' w'/\J v H'))
  (hk:∀v H',J v H'->G P c n k ops rest ((d,v)::fr) H'):
  G P c n k ops (⟨some d,.call ⟨.value (.func g),xs.toArray,pj⟩,ty,pos,mG,none⟩::rest) fr H:=by
 intro hf a w ha hw;refine wpList_step fun K' Bf=>?_
 simp only[Region.wanted,if_true,Oper.wp,Cr ha hg he,Oper.upon];refine(hc w hw).mono fun e w' ⟨v,H',vJ,h1,h2⟩=>?_
 subst vJ;exact Bf _ _ (hk v H' h2 hf _ _ (ha.put hd v) h1)
theorem hY {i:Item} (J:SF->SH->Prop) (h1:(∀bc H',J bc H'->GC P c n k bc H')->GC P c n (i::k) fr H) (h2:∀bc H',J bc H'->GC P c n k bc H'):GC P c n (i::k) fr H:=h1 h2
theorem iC {x:Code} (J:Nat->SF->SH->Prop) (N:Nat) (h0:J N fr H)
  (step:∀N fr H,J N fr H->(∀M bc H',M<N->J M bc H'->GC P c n (.inLoop x::k) bc H')->GC P c n (.code x::.inLoop x::k) fr H):GC P c n (.code (.loop x)::k) fr H:=by
 have key:∀M N,N<=M->∀fr H,J N fr H->GC P c n (.code x::.inLoop x::k) fr H:=by
  intro M
  induction M with
  |zero=>exact fun N hN fr H hJ=>step N fr H hJ fun M _ _ hM _=>by omega
  |succ M ih=>exact fun N hN fr H hJ=>step N fr H hJ fun M' bc H' hM Zm=>jx (ih M' (by omega) bc H' Zm)
 exact jw (key N N (bI _) fr H h0)
abbrev bC (l:List UInt8):List Value:=Lib.byteCells l
theorem zp (a b:List UInt8):bC (a++b)=bC a++bC b:=by simp[bC,Lib.byteCells]
theorem xT (a:List UInt8):(bC a).length =a.length:=by simp[bC,Lib.byteCells]
theorem Zn (a:List UInt8):∀v∈bC a,v.oneCell'=true:=by
 intro v hv;simp only[bC,Lib.byteCells,aZ] at hv;obtain⟨x,_,rfl⟩:=hv;rfl
inductive rD (T e:TypeId) (N b:Nat) (bs:List UInt8):SH->Prop
 |nil {lr:Int} (hb:N<=b) (h:bs=[]):rD T e N b bs [Rx b [.slice none 0 0,.int .i64 0,.int .i8 lr] T]
 |row {lr:Int} {g cap:Nat} {spare:List Value} (hb:N<=b) (hg:N<=g) (mW:b≠g) (hle:bs.length<=cap) (hm:cap<=maxLen) (hc:(bC bs++spare).length =cap):
   rD T e N b bs [Rx b [Sx g bs.length cap,.int .i64 0,.int .i8 lr] T,Rx g (bC bs++spare) e]
theorem rD.is {T e N b:Nat} {bs:List UInt8} {HB:SH} {w0 D w} (h:rD T e N b bs HB) (hw:HF w0 D (HB++H) w):Lib.IsBuffer T e N b (bC bs) w:=by
 cases h with
 |nil hb he=>
  subst he
  refine⟨hb,_,_,hw.has _ (.head _),World.ownsRow_nil _ _ _ _,by simp[Value.ownBlock]⟩
 |row hb hg mW hle hm hc=>
  rename_i lr g cap spare;have HL:=hw.has (Rx g (bC bs++spare) e) (by simp);refine⟨hb,_,_,hw.has (Rx b [Sx g bs.length cap,.int .i64 0,.int .i8 lr] T) (by simp),?_,by simp[Value.ownBlock];exact fun h=>mW h.symm⟩;refine⟨by simp,.inr ⟨g,cap,_,by rw[xT],hg,HL,by rw[xT];exact hle,hm,by simpa using hc,by simp⟩⟩
theorem rD.of {T e N b:Nat} {bs:List UInt8} {w:World} (h:Lib.IsBuffer T e N b (bC bs) w):∃HB,rD T e N b bs HB/\(∀x∈HB,w.heap[x.b]? =some x.k.den)/\HB.Pairwise (fun x y=>x.b≠y.b):=by
 obtain⟨hb,v,lr,Nd,⟨_,hv⟩,mW⟩:=h;rcases hv with⟨rfl,h0⟩|⟨g,cap,sD,rfl,hg,HL,hle,hm,rM,oB⟩
 ·refine⟨_,.nil (lr:=lr) hb (bw.1 (by rw[xT] at h0;exact h0)),?_,List.pairwise_singleton _ _⟩;intro x hx;simp only[aj] at hx;subst hx;exact Nd
 have wq:sD.toList=bC bs++sD.toList.drop (bC bs).length :=by
  conv=>lhs;rw[<-a8 (bC bs).length sD.toList]
  rw[<-oB];congr 1;simp
 have SC:b≠g:=fun e=>mW (by simp[Value.ownBlock,e])
 refine⟨_,.row (lr:=lr) (g:=g) (cap:=cap) (spare:=sD.toList.drop (bC bs).length) hb hg SC (by rw[xT] at hle;exact hle) hm (by rw[<-wq];simpa using rM),?_,?_⟩
 ·intro x hx;simp only[af,aC,or_false] at hx;rcases hx with rfl|rfl
  ·rw[xT] at Nd;exact Nd
  simp only[oe.den];rw[<-wq];simpa using HL
 exact cA.2 ⟨fun y hy=>by simp only[aj] at hy;subst hy;exact SC,List.pairwise_singleton _ _⟩
theorem rD.ge {T e N b:Nat} {bs:List UInt8} {HB:SH} (h:rD T e N b bs HB):∀x∈HB,N<=x.b:=by
 cases h with
 |nil hb _=>intro x hx;simp only[aj] at hx;subst hx;exact hb
 |row hb hg _ _ _ _=>
  intro x hx;simp only[af,aC,or_false] at hx;rcases hx with rfl|rfl
  ·exact hb
  exact hg
def Bg (e:TypeId) (N:Nat) (H:SH):Prop:=∀x∈H,x.b<N\/∀c fz,x.k.den≠ .cells c e fz
theorem Bg.cons {e N:Nat} {x:oJ} {H:SH} (h1:x.b<N\/∀c fz,x.k.den≠ .cells c e fz) (h:Bg e N H):Bg e N (x::H):=fun y hy=>by
 rcases af.1 hy with rfl|hy
 ·exact h1
 exact h y hy
theorem Bg.nil {e N:Nat}:Bg e N []:=fun _ h=>by cases h
theorem rD.kept {T e b:Nat} {bs HM:List UInt8} {HB:SH} {w0 D w w'} (hB:rD T e w0.heap.size b bs HB) (hw:HF w0 D (HB++H) w) (hn:Bg e w0.heap.size H) (h1:Lib.IsBuffer T e w0.heap.size b (bC HM) w')
  (h2:RowKit.Below w0.heap.size w w') (h3:Lib.OthersKept e (some b) w w'):∃xp,rD T e w0.heap.size b HM xp/\HF w0 D (xp++H) w':=by
 obtain⟨xp,b1,b2,b3⟩:=rD.of h1
 have sW:∀x∈H,x.b≠b:=by
  have:=bS.1 hw.nd;intro x hx e
  have qD:∃y∈HB,y.b=b:=by cases hB with
   |nil _ _=>exact⟨_,.head _,rfl⟩
   |row _ _ _ _ _ _=>exact⟨_,.head _,rfl⟩
  obtain⟨y,hy,rfl⟩:=qD;exact this.2.2 y hy x hx e.symm
 have SD:∀x∈H,w'.heap[x.b]? =some x.k.den:=by
  intro x hx;have h:=hw.has x (au _ hx);rcases hn x hx with mS|nN
  ·rw[h2.block _ mS];exact h
  exact h3 x.b _ h (fun e=>sW x hx (bp e)) nN
 refine⟨xp,b1,br hw.size h2.size,fun i hi hD=>?_,fun x hx=>?_,fun x hx M5=>?_,?_,h2.tape.trans hw.tape,h2.os.trans hw.os,h2.output.trans hw.output⟩
 ·rw[h2.block i hi];exact hw.frame i hi hD
 ·rcases aB.1 hx with hx|hx
  ·exact b2 x hx
  exact SD x hx
 ·rcases aB.1 hx with hx|hx
  ·exact .inr (b1.ge x hx)
  exact hw.wr x (au _ hx) M5
 refine bS.2 ⟨b3,(bS.1 hw.nd).2.1,fun x hx y hy e=>?_⟩;have Bh:=SD y hy;have Bi:=b1.ge x hx;rcases hn y hy with mS|nN
 ·omega
 cases b1 with
 |nil _ _=>
  simp only[aj] at hx;subst hx
  exact sW y hy e.symm
 |row _ _ _ _ _ _=>
  simp only[af,aC,or_false] at hx;rcases hx with rfl|rfl
  ·exact sW y hy e.symm
  have SE:=b2 _ (.tail _ (.head _));rw[e,Bh] at SE;exact nN _ _ (bp SE)
def SG (P:Program) (f:FuncId) (T e:TypeId):Prop:=
 ∀(B b:Nat) (bs:List Value) (s:ByteArray) (w:World),Lib.IsBuffer T e B b bs w->B<=w.heap.size->(∀v∈bs,v.oneCell'=true)->bs.length+s.size<=140737488355328->
  Calls P f #[.pointer (some ⟨b,0,none⟩),.string s] w fun e' w'=>e'=.returned (.tuple #[.int .i64 s.size,.nilIface])/\Lib.IsBuffer T e B b (bs++Lib.byteCells s.data.toList) w'/\RowKit.Below B w w'/\Lib.OthersKept e (some b) w w'
theorem jf {f T e:Nat} (HA:SG P f T e) (hg:∀(args:Array Value) w,(callFunc f args).run P w=.ok (.enter f args) w) {x y:Operand} {b:Nat} {bs s:List UInt8} {HB:SH} {pj:Array TypeId} {d:Nat} (hx:ev fr x=some (Pt b 0)) (hy:ev fr y=some (S s))
  (hd:Nat.blt d n=true) (hB:rD T e c.w0.heap.size b bs HB) (hn:Bg e c.w0.heap.size H) (hl:bs.length+s.length<=140737488355328)
  (hk:∀xp,rD T e c.w0.heap.size b (bs++s) xp->G P c n k ops rest ((d,.tuple #[.int .i64 s.length,.nilIface])::fr) (xp++H)):
  G P c n k ops (⟨some d,.call ⟨.value (.func f), #[x,y],pj⟩,ty,pos,mG,none⟩::rest) fr (HB++H):=by
 refine iP (xs:=[x,y]) (vs:=[Pt b 0,S s]) (fun v H'=>v=.tuple #[.int .i64 s.length,.nilIface]/\∃xp,rD T e c.w0.heap.size b (bs++s) xp/\H'=xp++H) hg (by simp[rN,hx,hy]) hd (fun w hw=>?_) (fun v H' ⟨h1,xp,h2,h3⟩=>?_)
 ·refine(HA c.w0.heap.size b (bC bs) ⟨s.toArray⟩ w (hB.is hw) hw.size (Zn bs) (by rw[xT];simpa[ByteArray.size] using hl)).mono fun e' w' ⟨h1,h2,h3,h4⟩=>?_
  have HN:Lib.IsBuffer T e c.w0.heap.size b (bC (bs++s)) w':=by rw[zp];simpa using h2
  obtain⟨xp,b1,b2⟩:=hB.kept hw hn HN h3 h4;exact⟨_,_,h1,b2,by simp[ByteArray.size],xp,b1,rfl⟩
 subst h1;subst h3;exact hk xp h2
def SJ (P:Program) (f:FuncId) (T e:TypeId):Prop:=
 ∀(B b:Nat) (l:List UInt8) (w:World),Lib.IsBuffer T e B b (Lib.byteCells l) w->Calls P f #[.pointer (some ⟨b,0,none⟩)] w fun e' w'=>e'=.returned (.string ⟨l.toArray⟩)/\∃n,w'=w.drewN n
theorem HF.Zo {w:World} (n:Nat):HF w (fun _=>False) [] (w.drewN n):=(HF.start w _).drewN n
theorem Zp {f T e b:Nat} {bs:List UInt8} {HB:SH} (hs:SJ P f T e) (hB:rD T e c.w0.heap.size b bs HB):∀w,HF c.w0 c.D (HB++H) w->Calls P f #[Pt b 0] w (fun e w'=>e=.returned (S bs)/\HF w (fun _=>False) [] w'):=
 fun w hw=>(hs c.w0.heap.size b bs w (hB.is hw)).mono fun e' w' ⟨h1,n,h2⟩=>⟨h1,by rw[h2];exact HF.Zo n⟩
variable {P:Program} {c:Cx} {n:Nat} {k:List Item} {fr:SF} {H:SH} {ops:Array Oper} {rest:List Oper} {ty:TypeId} {pos:String} {mG:Array Edge}
theorem HF.setRow {w0 D w} (h:HF w0 D H w) {i b:Nat} {l l':List Value} {t:TypeId} {fz:Nat×Nat} (hi:At i ⟨b,true,.row l t fz⟩ H):HF w0 D (sV (.row l' t fz) i H) (w.setRow b l'.toArray):=by
 have hb:=h.has _ hi.mem;refine h.pM hi rfl (.row l' t fz) (by simp[World.setRow]) ?_ (fun x hx=>?_) rfl rfl rfl
 ·simp only[oe.den] at hb⊢;simp[World.setRow,dR,hb]
 simp only at hx;simp only[World.setRow];rw[dR,if_neg (fun e=>hx e.symm)]
theorem iO {t:TypeId} {x y:Operand} {b i:Nat} {l cs:List Value} {T:TypeId} (hs:∀w,(Go.sizeOf t).run P w=.ok cs.length w) (hx:ev fr x=some (Pt b 0)) (hy:ev fr y=some (.agg cs.toArray)) (h1:∀v∈cs,v.oneCell'=true)
  (hi:At i (Rx b l T) H) (hl:l.length=cs.length) (hk:G P c n k ops rest fr (sV (.row cs T (0,0)) i H)):G P c n k ops (⟨none,.store t x y,ty,pos,mG,none⟩::rest) fr H:=by
 refine kg (fun a w ha hw=>⟨w.setRow b cs.toArray,?_,hw.setRow hi⟩) hk;have hb:=hw.has _ hi.mem;simp only[oe.den] at hb;have hr:=run_storeCells_from (P:=P) b T cs 0 l.toArray w hb (by simp[hl]) h1;simp only[fU,cv] at hr;simp[execOp,ha.eval hx,ha.eval hy,Instr.storeAt,Instr.sureAddr,storeVar,hs,Value.cells,hr]
end Bw
namespace Go.Proofs

end Go.Proofs
namespace Bw
open Go
variable {P:Program} {c:Cx} {n:Nat} {k:List Item} {fr:SF} {H:SH} {ops:Array Oper} {rest:List Oper} {ty:TypeId} {pos:String} {mG:Array Edge}
theorem HF.loc {w0 D w} {H H1:SH} (h:HF w0 D H w) (hs:∀e∈H1,e∈H) (hn:H1.Pairwise (fun x y=>x.b≠y.b)):HF w (fun b=>∃e∈H1,e.b=b) H1 w:=
 ⟨bI _,fun _ _ _=>rfl,fun e he=>h.has e (hs e he),fun e he _=>.inl ⟨e,he,rfl⟩,hn,rfl,rfl,rfl⟩
theorem HF.back {w0 D w w'} {H H1 Hk ni:SH} (h:HF w0 D H w) (hp:H.Perm (H1++Hk)) (ha:∀e∈H1,e.w=true) (DW:∀e∈ni,e.w=true) (h1:HF w (fun b=>∃e∈H1,e.b=b) ni w'):HF w0 D (ni++Hk) w':=by
 have hh:=h.perm hp;have nj:=bS.1 hh.nd;refine hh.after h1 (aG _ _) (fun b ⟨e,he,hb⟩=>hb▸hh.wr e (ay _ he) (ha e he)) (fun e he ⟨x,hx,hb⟩=>nj.2.2 x hx e he hb) (fun e he x hx hb=>?_);rcases h1.wr e he (DW e he) with⟨y,hy,h2⟩|h2
 ·exact nj.2.2 y hy x hx (h2.trans hb)
 have:=hh.lt (au H1 hx);omega
theorem jo {H1 Hk:SH} {g:FuncId} {xs:List Operand} {vs:List Value} {pj:Array TypeId} {d:Nat} (J:Value->SH->Prop) (hp:H.Perm (H1++Hk)) (ha:∀e∈H1,e.w=true)
  (hg:∀(args:Array Value) w,(callFunc g args).run P w=.ok (.enter g args) w) (he:rN fr xs=some vs) (hd:Nat.blt d n=true)
  (hc:∀w,HF w (fun b=>∃e∈H1,e.b=b) H1 w->(∀e∈Hk,w.heap[e.b]? =some e.k.den/\¬∃x∈H1,x.b=e.b)->
   Calls P g vs.toArray w (fun e w'=>∃v ni,e=.returned v/\(∀x∈ni,x.w=true)/\HF w (fun b=>∃e∈H1,e.b=b) ni w'/\J v ni))
  (hk:∀v ni,J v ni->G P c n k ops rest ((d,v)::fr) (ni++Hk)):
  G P c n k ops (⟨some d,.call ⟨.value (.func g),xs.toArray,pj⟩,ty,pos,mG,none⟩::rest) fr H:=by
 refine iP (fun v H'=>∃ni,J v ni/\H'=ni++Hk) hg he hd (fun w hw=>?_) (fun v H' ⟨ni,h1,h2⟩=>h2▸hk v ni h1);have hh:=hw.perm hp;have nj:=bS.1 hh.nd;refine(hc w (hh.loc (fun e he=>ay _ he) nj.1) (fun e he=>⟨hh.has e (au _ he),fun⟨x,hx,hb⟩=>nj.2.2 x hx e he hb⟩)).mono fun e w' ⟨v,ni,h1,h2,h3,h4⟩=>?_
 exact⟨v,_,h1,hw.back hp ha h2 h3,ni,h4,rfl⟩
theorem jH {kb:oe} {g:FuncId} {xs:List Operand} {vs:List Value} {pj:Array TypeId} {d:Nat}
  (hg:∀(args:Array Value) w,(callFunc g args).run P w=.ok (.enter g args) w) (he:rN fr xs=some vs) (hd:Nat.blt d n=true)
  (hc:∀w,HF c.w0 c.D H w->Calls P g vs.toArray w (fun e w'=>∃b,e=.returned (Pt b 0)/\HF w (fun _=>False) [⟨b,true,kb⟩] w'))
  (hk:∀b,c.w0.heap.size<=b->G P c n k ops rest ((d,Pt b 0)::fr) (⟨b,true,kb⟩::H)):
  G P c n k ops (⟨some d,.call ⟨.value (.func g),xs.toArray,pj⟩,ty,pos,mG,none⟩::rest) fr H:=by
 refine iP (fun v H'=>∃b,c.w0.heap.size<=b/\v=Pt b 0/\H'=⟨b,true,kb⟩::H) hg he hd (fun w hw=>?_) (fun v H' ⟨b,h0,h1,h2⟩=>h1▸h2▸hk b h0);refine(hc w hw).mono fun e w' ⟨b,h1,h2⟩=>?_
 refine⟨_,_,h1,hw.o9 h2 (fun e he=>by simp only[aj] at he;subst he;rfl),b,?_,rfl,rfl⟩;have:=(h2.wr _ (.head _) rfl).resolve_left id;exact br hw.size this
theorem Own.w {e sz:Nat} {v:Value} {n:Nat} {xs:List Value} {H:SH} (h:Own e sz v n xs H):∀x∈H,x.w=true:=by
 cases h with
 |nil=>intro e he;cases he
 |row _ _ _=>intro e he;simp only[aj] at he;subst he;rfl
theorem Nf {α:Type} {T:List α} {r:α} (h:r∈T):∃T0,T.Perm (r::T0):=by
 obtain⟨a,b,rfl⟩:=eR h;exact⟨a++b,bG⟩
theorem j7 {P:Program} {t:TypeId} {x y z:Operand} {l l':List UInt8} {i j:Nat} {kd DQ:IntKind} (hU:P.underlying t=some .string) (hx:ev fr x=some (S l)) (hy:ev fr y=some (.int kd (i:Int))) (hz:ev fr z=some (.int DQ (j:Int))) (hi:i<=j) (hj:j<=l.length)
  (e:(l.take j).drop i=l'):nB P c n (.slice t x (some y) (some z) none) ty fr H (S l'):=
 e▸kG hU hx hy hz hi hj
theorem oN {α:Type} (L:List (List α)) (i j:List Nat) (h:i.isPerm j=true):((i.map fun k=>L.getD k []).flatten).Perm ((j.map fun k=>L.getD k []).flatten):=
 ((List.isPerm_iff.1 h).map _).flatten
variable {P:Program} {c:Cx} {n:Nat} {k:List Item} {fr:SF} {H:SH} {ops:Array Oper} {rest tail:List Oper} {ty:TypeId} {pos:String} {mG:Array Edge} {S:World->Prop}
def HO (md:Region.Mode) (ops:Array Oper):Nat->Nat->Array Bool->Bool
 |0,_,listed=>(Region.ready md ops listed).isEmpty
 |t+1,k,listed=>(match Region.ready md ops listed with|[j]=>Nat.beq j k|_=>false)&&HO md ops t (k+1) (listed.setIfInBounds k true)
def Kv (md:Region.Mode) (ops:Array Oper):Nat->Nat->Nat->Array Bool->Bool
 |0,t,k,listed=>HO md ops t k listed
 |h+1,t,k,listed=>Region.free md ops listed k&&(Region.ready md ops listed).contains k&&Kv md ops h t (k+1) (listed.setIfInBounds k true)
def Bj (P:Program) (ops:Array Oper) (Q:Exit->Act->World->Prop) (S:World->Prop):List Oper->Act->World->Prop
 |[],a,w=>Q .normal a w
 |o::rest,a,w=>if Region.wanted o (yielded ops a.tmps) then o.wp P a w (fun a' w'=>S w'/\Bj P ops Q S rest a' w') Q else S w/\Bj P ops Q S rest (a.put o.dst undef) w
def Ng (P:Program) (ops:Array Oper) (Q:Exit->Act->World->Prop) (S:World->Prop) (tail:List Oper):List Oper->Act->World->Prop
 |[],a,w=>Bj P ops Q S tail a w
 |o::rest,a,w=>∃v,YieldsIf P ops S o v a/\Ng P ops Q S tail rest (a.put o.dst v) w
theorem SK {Q:Exit->Act->World->Prop} {md:Region.Mode}:∀(l:List Oper) (k:Nat) (listed:Array Bool) (a:Act) (w:World),(∀j,l[j]? =ops[k+j]?)->HO md ops l.length k listed=true->Bj P ops Q S l a w->wpAnyH P md ops Q S l.length listed a w
 |[],k,listed,a,w,hl,hB,h=>⟨by simpa[HO] using hB,h⟩
 |o::l,k,listed,a,w,hl,hB,h=>by
  have h0:ops[k]? =some o:=by simpa using(hl 0).symm
  simp only[aI,HO,cG] at hB;obtain⟨hr,HH⟩:=hB
  have xn:Region.ready md ops listed=[k]:=by
   split at hr
   ·rename_i j e;rw[e,dQ hr]
   cases hr
  refine wpAnyH_all xn (by simp) fun i hi=>?_
  rw[aj.1 hi]
  have step:∀a' w',Bj P ops Q S l a' w'->wpAnyH P md ops Q S l.length (listed.setIfInBounds k true) a' w':=fun a' w' hh=>
   SK l (k+1) _ a' w' (fun j=>by have:=hl (j+1);simpa[eL,eF 1 j] using this) HH hh
  unfold wpOp;simp only[h0];simp only[Bj] at h;split
  ·rename_i hw;rw[if_pos hw] at h;exact .inl (Oper.wp_mono (fun a' w' hh=>⟨hh.1,step a' w' hh.2⟩) h)
  rename_i hw;rw[if_neg hw] at h;exact⟨h.1,step _ _ h.2⟩
theorem SL {Q:Exit->Act->World->Prop} {md:Region.Mode} (hQ:∀ch a a' w,a'.defers=a.defers->Q (.panic ch) a w->Q (.panic ch) a' w) (yK:Region.noSelect ops=true):
  ∀(l:List Oper) (k:Nat) (listed:Array Bool) (a:Act) (w:World),(∀j,(l++tail)[j]? =ops[k+j]?)->Kv md ops l.length tail.length k listed=true->S w->Ng P ops Q S tail l a w->wpAnyH P md ops Q S (l.length+tail.length) listed a w
 |[],k,listed,a,w,hl,hB,hS,h=>by simpa using SK tail k listed a w (by simpa using hl) hB h
 |o::l,k,listed,a,w,hl,hB,hS,h=>by
  have h0:ops[k]? =some o:=by simpa using(hl 0).symm
  simp only[aI,Kv,cG] at hB;obtain⟨⟨hf,hr⟩,HH⟩:=hB;obtain⟨v,hy,hh⟩:=h;have:=SL hQ yK l (k+1) _ _ _ (fun j=>by have:=hl (j+1);simpa[eL,eF 1 j] using this) HH hS hh;rw[show(o::l).length +tail.length=(l.length+tail.length)+1 by simp;omega];refine wpAnyH_take h0 yK hf hr (fun ch a' w' hq=>?_) hy hS this;exact hQ ch (a'.put o.dst v) a' w' (by cases o.dst<;>rfl) hq
def GH (P:Program) (c:Cx) (n:Nat) (k:List Item) (ops:Array Oper) (S:World->Prop) (l:List Oper) (fr:SF) (H:SH):Prop:=
 P.funcs[c.f]? =some c.fn->∀a w,Fr n fr a->HF c.w0 c.D H w->Bj P ops (Qk P c k) S l a w
def GI (P:Program) (c:Cx) (n:Nat) (k:List Item) (ops:Array Oper) (S:World->Prop) (tail l:List Oper) (fr:SF) (H:SH):Prop:=
 P.funcs[c.f]? =some c.fn->∀a w,Fr n fr a->HF c.w0 c.D H w->Ng P ops (Qk P c k) S tail l a w
theorem lJ {id:Nat} {l:List Oper} (m:Nat) (S:World->Prop) (hm:P.follows .mixedOrders =true) (hB:(Region.noSelect l.toArray&&Kv .any l.toArray (l.take m).length (l.drop m).length 0 (Array.replicate l.toArray.size false))=true)
  (hS:∀w,HF c.w0 c.D H w->S w) {hd tl:List Oper} (h1:l.take m=hd) (h2:l.drop m=tl) (h:GI P c n k l.toArray S tl hd fr H):GC P c n (.code (.region id l.toArray true)::k) fr H:=by
 subst h1;subst h2;intro hf a w ha hw;refine xk.of_wp hf (wp_region_held (S:=S) hm ?_);simp only[cG] at hB;have ia:=hw.drew (w.drawn+1);have:=SL (P:=P) (Q:=Qk P c k) (S:=S) (md:=.any) (tail:=l.drop m) (fun ch a a' w hd hq=>⟨hd.trans hq.1,hq.2⟩) hB.1 (l.take m) 0 (Array.replicate l.toArray.size false) a _ (fun j=>by rw[a8];simp) hB.2 (hS _ ia) (h hf a _ ha ia);rw[<-ax,a8] at this;simpa using this
theorem GI.nil (h:GH P c n k ops S tail fr H):GI P c n k ops S tail [] fr H:=fun hf a w ha hw=>h hf a w ha hw
theorem GI.v {op:Op} {v:Value} {d:Nat} (hv:∀a w,Fr n fr a->S w->∀dst pos mG g,(execOp a.eval ⟨dst,op,ty,pos,mG,g⟩).run P w=.ok (.value v) w) (hd:Nat.blt d n=true) (hk:GI P c n k ops S tail rest ((d,v)::fr) H):
  GI P c n k ops S tail (⟨some d,op,ty,pos,mG,none⟩::rest) fr H:=by
 intro hf a w ha hw;exact⟨v,.inl ⟨by simp[Region.wanted],fun w' hS=>hv a w' ha hS _ _ _ _⟩,hk hf _ _ (ha.put hd v) hw⟩
theorem GI.p {op:Op} {v:Value} {d:Nat} (hv:∀(w0:World),nB P ⟨c.f,c.fn,c.R,w0,fun _=>False⟩ n op ty fr [] v) (hd:Nat.blt d n=true) (hk:GI P c n k ops S tail rest ((d,v)::fr) H):
  GI P c n k ops S tail (⟨some d,op,ty,pos,mG,none⟩::rest) fr H:=
 GI.v (fun a w ha _ dst pos mG g=>hv w a w ha (HF.start w _) dst pos mG g) hd hk
theorem GI.ld {t:TypeId} {x:Operand} {d b off:Nat} {v:Value} (hA:∀w,(isAgg t).run P w=.ok false w) (h:ev fr x=some (Pt b off)) (hc:∀w,S w->w.cell? ⟨b,off,none⟩=some v) (hd:Nat.blt d n=true)
  (hk:GI P c n k ops S tail rest ((d,v)::fr) H):GI P c n k ops S tail (⟨some d,.load t x,ty,pos,mG,none⟩::rest) fr H:=
 GI.v (fun a w ha hS dst pos mG g=>by simp[execOp,ha.eval h,Instr.loadAt,Instr.sureAddr,loadVar,hA,run_load,hc w hS]) hd hk
theorem lK (h:GC P c n k fr H):GH P c n k ops S [] fr H:=fun hf a w ha hw=>h hf a w ha hw
theorem lL {op:Op} {v:Value} {d:Nat} (hS:∀w,HF c.w0 c.D H w->S w) (hv:nB P c n op ty fr H v) (hd:Nat.blt d n=true) (hk:GH P c n k ops S rest ((d,v)::fr) H):GH P c n k ops S (⟨some d,op,ty,pos,mG,none⟩::rest) fr H:=by
 intro hf a w ha hw;simp only[Bj,Region.wanted,if_true,Oper.wp,hv a w ha hw,Oper.upon];exact⟨hS w hw,hk hf _ _ (ha.put hd v) hw⟩
theorem kX {g:FuncId} {xs:List Operand} {vs:List Value} {pj:Array TypeId} {d:Nat} (J:Value->SH->Prop) (hg:∀(args:Array Value) w,(callFunc g args).run P w=.ok (.enter g args) w) (he:rN fr xs=some vs)
  (hd:Nat.blt d n=true) (hS:∀v H',J v H'->∀w,HF c.w0 c.D H' w->S w) (hc:∀w,HF c.w0 c.D H w->Calls P g vs.toArray w (fun e w'=>∃v H',e=.returned v/\HF c.w0 c.D H' w'/\J v H'))
  (hk:∀v H',J v H'->GH P c n k ops S rest ((d,v)::fr) H'):
  GH P c n k ops S (⟨some d,.call ⟨.value (.func g),xs.toArray,pj⟩,ty,pos,mG,none⟩::rest) fr H:=by
 intro hf a w ha hw;simp only[Bj,Region.wanted,if_true,Oper.wp,Cr ha hg he,Oper.upon];refine(hc w hw).mono fun e w' ⟨v,H',vJ,h1,h2⟩=>?_
 subst vJ;exact⟨hS v H' h2 _ h1,hk v H' h2 hf _ _ (ha.put hd v) h1⟩
theorem lM {H1 Hk:SH} {g:FuncId} {xs:List Operand} {vs:List Value} {pj:Array TypeId} {d:Nat} (J:Value->SH->Prop) (hp:H.Perm (H1++Hk)) (ha:∀e∈H1,e.w=true)
  (hg:∀(args:Array Value) w,(callFunc g args).run P w=.ok (.enter g args) w) (he:rN fr xs=some vs) (hd:Nat.blt d n=true) (hS:∀v ni,J v ni->∀w,HF c.w0 c.D (ni++Hk) w->S w)
  (hc:∀w,HF w (fun b=>∃e∈H1,e.b=b) H1 w->(∀e∈Hk,w.heap[e.b]? =some e.k.den/\¬∃x∈H1,x.b=e.b)->
   Calls P g vs.toArray w (fun e w'=>∃v ni,e=.returned v/\(∀x∈ni,x.w=true)/\HF w (fun b=>∃e∈H1,e.b=b) ni w'/\J v ni))
  (hk:∀v ni,J v ni->GH P c n k ops S rest ((d,v)::fr) (ni++Hk)):
  GH P c n k ops S (⟨some d,.call ⟨.value (.func g),xs.toArray,pj⟩,ty,pos,mG,none⟩::rest) fr H:=by
 refine kX (fun v H'=>∃ni,J v ni/\H'=ni++Hk) hg he hd (fun v H' ⟨ni,h1,h2⟩=>h2▸hS v ni h1) (fun w hw=>?_) (fun v H' ⟨ni,h1,h2⟩=>h2▸hk v ni h1);have hh:=hw.perm hp;have nj:=bS.1 hh.nd;refine(hc w (hh.loc (fun e he=>ay _ he) nj.1) (fun e he=>⟨hh.has e (au _ he),fun⟨x,hx,hb⟩=>nj.2.2 x hx e he hb⟩)).mono fun e w' ⟨v,ni,h1,h2,h3,h4⟩=>?_
 exact⟨v,_,h1,hw.back hp ha h2 h3,ni,h4,rfl⟩
theorem lN {kb:oe} {g:FuncId} {xs:List Operand} {vs:List Value} {pj:Array TypeId} {d:Nat}
  (hg:∀(args:Array Value) w,(callFunc g args).run P w=.ok (.enter g args) w) (he:rN fr xs=some vs) (hd:Nat.blt d n=true) (hS:∀w,HF c.w0 c.D H w->S w)
  (hc:∀w,HF c.w0 c.D H w->Calls P g vs.toArray w (fun e w'=>∃b,e=.returned (Pt b 0)/\HF w (fun _=>False) [⟨b,true,kb⟩] w'))
  (hk:∀b,c.w0.heap.size<=b->GH P c n k ops S rest ((d,Pt b 0)::fr) (⟨b,true,kb⟩::H)):
  GH P c n k ops S (⟨some d,.call ⟨.value (.func g),xs.toArray,pj⟩,ty,pos,mG,none⟩::rest) fr H:=by
 refine kX (fun v H'=>∃b,c.w0.heap.size<=b/\v=Pt b 0/\H'=⟨b,true,kb⟩::H) hg he hd (fun v H' ⟨b,_,_,h2⟩ w hw=>hS w ((h2▸hw).sub (ai _ _))) (fun w hw=>?_) (fun v H' ⟨b,h0,h1,h2⟩=>h1▸h2▸hk b h0);refine(hc w hw).mono fun e w' ⟨b,h1,h2⟩=>?_
 refine⟨_,_,h1,hw.o9 h2 (fun e he=>by simp only[aj] at he;subst he;rfl),b,?_,rfl,rfl⟩;have:=(h2.wr _ (.head _) rfl).resolve_left id;exact br hw.size this
variable {P:Program} {c:Cx} {n:Nat} {k:List Item} {fr:SF} {H:SH} {ops:Array Oper} {ty:TypeId} {pos:String} {mG:Array Edge} {S:World->Prop} {nv:Nat} {listed:Array Bool}
def GA (P:Program) (c:Cx) (n:Nat) (k:List Item) (ops:Array Oper) (S:World->Prop) (nv:Nat) (listed:Array Bool) (fr:SF) (H:SH):Prop:=
 P.funcs[c.f]? =some c.fn->∀a w,Fr n fr a->HF c.w0 c.D H w->wpAnyH P .any ops (Qk P c k) S nv listed a w
def GB (P:Program) (c:Cx) (n:Nat) (k:List Item) (ops:Array Oper) (S:World->Prop) (nv:Nat) (listed:Array Bool) (o:Oper) (fr:SF) (H:SH):Prop:=
 P.funcs[c.f]? =some c.fn->∀a w,Fr n fr a->HF c.w0 c.D H w->if Region.wanted o (yielded ops a.tmps)=true then o.wp P a w (fun a' w'=>S w'/\wpAnyH P .any ops (Qk P c k) S nv listed a' w') (Qk P c k) else S w/\wpAnyH P .any ops (Qk P c k) S nv listed (a.put o.dst undef) w
theorem jM {id:Nat} {l:List Oper} (S:World->Prop) (hm:P.follows .mixedOrders =true) (h:GA P c n k l.toArray S l.toArray.size (Array.replicate l.toArray.size false) fr H):GC P c n (.code (.region id l.toArray true)::k) fr H:=
 fun hf a _w ha hw=>xk.of_wp hf (wp_region_held (S:=S) hm (h hf a _ ha (hw.drew _)))
theorem kY {i d:Nat} {op:Op} {v:Value} (hi:ops[i]? =some ⟨some d,op,ty,pos,mG,none⟩) (hB:(Region.noSelect ops&&Region.free .any ops listed i&&(Region.ready .any ops listed).contains i)=true)
  (hS:∀w,HF c.w0 c.D H w->S w) (hv:∀a w,Fr n fr a->S w->∀dst pos mG g,(execOp a.eval ⟨dst,op,ty,pos,mG,g⟩).run P w=.ok (.value v) w) (hd:Nat.blt d n=true)
  (h:GA P c n k ops S nv (listed.setIfInBounds i true) ((d,v)::fr) H):GA P c n k ops S (nv+1) listed fr H:=by
 intro hf a w ha hw;simp only[cG] at hB;exact wpAnyH_take hi hB.1.1 hB.1.2 hB.2 (fun ch a' w' hq=>⟨hq.1,hq.2⟩) (.inl ⟨by simp[Region.wanted],fun w' HP=>hv a w' ha HP _ _ _ _⟩) (hS w hw) (h hf _ _ (ha.put hd v) hw)
theorem lO (i:Nat) {d:Nat} {op:Op} {v:Value} (hi:ops[i]? =some ⟨some d,op,ty,pos,mG,none⟩) (hB:(Region.noSelect ops&&Region.free .any ops listed i&&(Region.ready .any ops listed).contains i)=true)
  (hS:∀w,HF c.w0 c.D H w->S w) (hv:∀(w0:World),nB P ⟨c.f,c.fn,c.R,w0,fun _=>False⟩ n op ty fr [] v) (hd:Nat.blt d n=true)
  (h:GA P c n k ops S nv (listed.setIfInBounds i true) ((d,v)::fr) H):GA P c n k ops S (nv+1) listed fr H:=
 kY hi hB hS (fun a w ha _ dst pos mG g=>hv w a w ha (HF.start w _) dst pos mG g) hd h
theorem lP (i:Nat) {d:Nat} {t:TypeId} {x:Operand} {b off:Nat} {v:Value} (hi:ops[i]? =some ⟨some d,.load t x,ty,pos,mG,none⟩) (hB:(Region.noSelect ops&&Region.free .any ops listed i&&(Region.ready .any ops listed).contains i)=true)
  (hS:∀w,HF c.w0 c.D H w->S w) (hA:∀w,(isAgg t).run P w=.ok false w) (hx:ev fr x=some (Pt b off)) (hc:∀w,S w->w.cell? ⟨b,off,none⟩=some v) (hd:Nat.blt d n=true)
  (h:GA P c n k ops S nv (listed.setIfInBounds i true) ((d,v)::fr) H):GA P c n k ops S (nv+1) listed fr H:=
 kY hi hB hS (fun a w ha hS dst pos mG g=>by simp[execOp,ha.eval hx,Instr.loadAt,Instr.sureAddr,loadVar,hA,run_load,hc w hS]) hd h
theorem iQ (i:Nat) {o:Oper} (hi:ops[i]? =some o) (hr:(match Region.ready .any ops listed with|[j]=>Nat.beq j i|_=>false)=true) (h:GB P c n k ops S nv (listed.setIfInBounds i true) o fr H):GA P c n k ops S (nv+1) listed fr H:=by
 have xn:Region.ready .any ops listed=[i]:=by
  split at hr
  ·rename_i j e;rw[e,dQ hr]
  cases hr
 intro hf a w ha hw;refine wpAnyH_all xn (by simp) fun j hj=>?_
 rw[aj.1 hj];have:=h hf a w ha hw;unfold wpOp;simp only[hi];split
 ·rename_i ia;rw[if_pos ia] at this;exact .inl this
 rename_i ia;rw[if_neg ia] at this;exact this
theorem jQ (i i2:Nat) {o o2:Oper} (hi:ops[i]? =some o) (Kw:ops[i2]? =some o2) (hr:(match Region.ready .any ops listed with|[j,j2]=>Nat.beq j i&&Nat.beq j2 i2|_=>false)=true)
  (h:GB P c n k ops S nv (listed.setIfInBounds i true) o fr H) (h2:GB P c n k ops S nv (listed.setIfInBounds i2 true) o2 fr H):GA P c n k ops S (nv+1) listed fr H:=by
 have xn:Region.ready .any ops listed=[i,i2]:=by
  split at hr
  ·rename_i j j2 e;simp only[cG] at hr;rw[e,dQ hr.1,dQ hr.2]
  cases hr
 intro hf a w ha hw;refine wpAnyH_all xn (by simp) fun j hj=>?_
 have key:∀(j:Nat) (o:Oper),ops[j]? =some o->GB P c n k ops S nv (listed.setIfInBounds j true) o fr H->wpOp P ops (Qk P c k) j (fun a' w'=>S w'/\wpAnyH P .any ops (Qk P c k) S nv (listed.setIfInBounds j true) a' w') a w:=by
  intro j o ho hb;have:=hb hf a w ha hw;unfold wpOp;simp only[ho];split
  ·rename_i ia;rw[if_pos ia] at this;exact .inl this
  rename_i ia;rw[if_neg ia] at this;exact this
 rcases af.1 hj with rfl|hj
 ·exact key _ _ hi h
 rw[aj.1 hj];exact key _ _ Kw h2
theorem jz (hr:Region.ready .any ops listed=[]) (h:GC P c n k fr H):GA P c n k ops S nv listed fr H:=fun hf a w ha hw=>wpAnyH_done hr (h hf a w ha hw) nv
theorem lQ {bc:SF} (hs:Sub bc fr) (h:GA P c n k ops S nv listed bc H):GA P c n k ops S nv listed fr H:=fun hf a w ha hw=>h hf a w (ha.sub hs) hw
theorem lR {H':SH} (hs:∀w,HF c.w0 c.D H w->HF c.w0 c.D H' w) (h:GA P c n k ops S nv listed fr H'):GA P c n k ops S nv listed fr H:=fun hf a w ha hw=>h hf a w ha (hs w hw)
theorem kK {op:Op} {d:Nat} {A:Type} {H':A->SH} {v:A->Value} (hr:∀a w,Fr n fr a->HF c.w0 c.D H w->∃x w',(execOp a.eval ⟨some d,op,ty,pos,mG,none⟩).run P w=.ok (.value (v x)) w'/\HF c.w0 c.D (H' x) w') (hS:∀x w,HF c.w0 c.D (H' x) w->S w)
  (hd:Nat.blt d n=true) (hk:∀x,GA P c n k ops S nv listed ((d,v x)::fr) (H' x)):GB P c n k ops S nv listed ⟨some d,op,ty,pos,mG,none⟩ fr H:=by
 intro hf a w ha hw;obtain⟨x,w',h1,h2⟩:=hr a w ha hw;simp only[Region.wanted,if_true,Oper.wp,h1,Oper.upon];exact⟨hS x _ h2,hk x hf _ _ (ha.put hd _) h2⟩
theorem jk {op:Op} {v:Value} {d:Nat} (hv:nB P c n op ty fr H v) (hS:∀w,HF c.w0 c.D H w->S w) (hd:Nat.blt d n=true) (hk:GA P c n k ops S nv listed ((d,v)::fr) H):GB P c n k ops S nv listed ⟨some d,op,ty,pos,mG,none⟩ fr H:=
 kK (A:=Unit) (H':=fun _=>H) (v:=fun _=>v) (fun a w ha hw=>⟨(),w,hv a w ha hw _ _ _ _,hw⟩) (fun _=>hS) hd (fun _=>hk)
theorem jY {op:Op} {d:Nat} {kb:oe} {v:Nat->Value} (hr:∀a w,Fr n fr a->HF c.w0 c.D H w->(execOp a.eval ⟨some d,op,ty,pos,mG,none⟩).run P w=.ok (.value (v w.heap.size)) {w with heap:=w.heap.push kb.den})
  (hS:∀w,HF c.w0 c.D H w->S w) (hd:Nat.blt d n=true) (hk:∀b,GA P c n k ops S nv listed ((d,v b)::fr) (⟨b,true,kb⟩::H)):GB P c n k ops S nv listed ⟨some d,op,ty,pos,mG,none⟩ fr H:=
 kK (A:=Nat) (H':=fun b=>⟨b,true,kb⟩::H) (v:=v) (fun a w ha hw=>⟨_,_,hr a w ha hw,hw.push kb⟩) (fun _b w hw=>hS w (hw.sub (ai _ _))) hd hk
theorem kZ {kb:oe} {g:FuncId} {xs:List Operand} {vs:List Value} {pj:Array TypeId} {d:Nat} (hg:∀(args:Array Value) w,(callFunc g args).run P w=.ok (.enter g args) w) (he:rN fr xs=some vs) (hd:Nat.blt d n=true) (hS:∀w,HF c.w0 c.D H w->S w)
  (hc:∀w,HF c.w0 c.D H w->Calls P g vs.toArray w (fun e w'=>∃b,e=.returned (Pt b 0)/\HF w (fun _=>False) [⟨b,true,kb⟩] w'))
  (hk:∀b,GA P c n k ops S nv listed ((d,Pt b 0)::fr) (⟨b,true,kb⟩::H)):
  GB P c n k ops S nv listed ⟨some d,.call ⟨.value (.func g),xs.toArray,pj⟩,ty,pos,mG,none⟩ fr H:=by
 intro hf a w ha hw;simp only[Region.wanted,if_true,Oper.wp,Cr ha hg he,Oper.upon];refine(hc w hw).mono fun e w' ⟨b,h1,h2⟩=>?_
 subst h1;have h3:=hw.o9 h2 (fun e he=>by simp only[aj] at he;subst he;rfl);exact⟨hS w' (h3.sub (ai _ _)),hk b hf _ _ (ha.put hd _) h3⟩
theorem jR {g:FuncId} {xs:List Operand} {vs:List Value} {pj:Array TypeId} {d:Nat} (J:Value->SH->Prop) (hg:∀(args:Array Value) w,(callFunc g args).run P w=.ok (.enter g args) w) (he:rN fr xs=some vs) (hd:Nat.blt d n=true)
  (hS:∀v H',J v H'->∀w,HF c.w0 c.D H' w->S w) (hc:∀w,HF c.w0 c.D H w->Calls P g vs.toArray w (fun e w'=>∃v H',e=.returned v/\HF c.w0 c.D H' w'/\J v H'))
  (hk:∀v H',J v H'->GA P c n k ops S nv listed ((d,v)::fr) H'):
  GB P c n k ops S nv listed ⟨some d,.call ⟨.value (.func g),xs.toArray,pj⟩,ty,pos,mG,none⟩ fr H:=by
 intro hf a w ha hw;simp only[Region.wanted,if_true,Oper.wp,Cr ha hg he,Oper.upon];refine(hc w hw).mono fun e w' ⟨v,H',vJ,h1,h2⟩=>?_
 subst vJ;exact⟨hS v H' h2 _ h1,hk v H' h2 hf _ _ (ha.put hd v) h1⟩
variable {P:Program} {c:Cx} {n:Nat} {k:List Item} {fr:SF} {H:SH} {ops:Array Oper} {ty:TypeId} {pos:String} {mG:Array Edge} {S:World->Prop} {nv:Nat} {listed:Array Bool}
theorem SM {T e sz qg:Nat} {i:TypeInfo} {z:Value} {x y:Operand} {sv:Value} {n0:Nat} {xs vs:List Value} {Hs H':SH} {ad:Addr} {m mc d:Nat}
  (hT:P.underlying T=some (.slice e)) (hi:P.info? e=some i) (hz:i.zero=some z) (rM:i.size=sz) (zo:i.bytes=qg) (xR:z.cells.size=sz)
  (hx:ev fr x=some sv) (hy:ev fr y=some (.slice (some ad) m mc)) (nx:Own e sz sv n0 xs Hs) (sO:H.Perm (Hs++H'))
  (xS:∀w,HF c.w0 c.D H w->∀j u,vs[j]? =some u->w.cell? (ad.add j)=some u) (qW:vs.length=m*sz) (h1:∀u∈vs,u.oneCell'=true) (hm:0<m) (r9:(n0+m)*qg<=140737488355328) (xo:n0+m<=9223372036854775807)
  (a:Act) (w:World) (ha:Fr n fr a) (hw:HF c.w0 c.D H w):
  ∃sC nX w',Own e sz sC (n0+m) (xs++vs) nX/\(execOp a.eval ⟨some d,.call ⟨.builtin .append, #[x,y], #[T,T]⟩,ty,pos,mG,none⟩).run P w=.ok (.value sC) w'/\HF c.w0 c.D (H'++nX) w':=by
 subst rM;subst zo
 have hex:∀v w',(Builtin.append_ #[T,T] ty #[sv,.slice (some ad) m mc]).run P w=.ok v w'->(execOp a.eval ⟨some d,.call ⟨.builtin .append, #[x,y], #[T,T]⟩,ty,pos,mG,none⟩).run P w=.ok (.value v) w':=by
  intro v w' hr;simp[execOp,resolve,invoke,builtin,ha.eval hx,ha.eval hy,hr]
 cases nx with
 |nil=>
  have oD:0+m=m:=aH m;have hr:=run_append_nil (P:=P) w T ty e i z hT hi hz ad m mc vs qW (xS w hw) hm (by omega) (by rw[oD] at r9;omega);have hH:HF c.w0 c.D H' w:=hw.perm (by simpa using sO);have hp:=((hH.drew (w.drawn+1)).push (.row (vs++(Builtin.zeroCells z.cells (grownCap w m 0 e-m)).toList) e (0,0)));refine⟨Sx w.heap.size m (grownCap w m 0 e),[Rx w.heap.size (vs++(Builtin.zeroCells z.cells (grownCap w m 0 e-m)).toList) e],_,?_,hex _ _ hr,HF.perm ?_ (cO _ _).symm⟩
  ·rw[oD,cv];have hle:m<=grownCap w m 0 e:=by simp[grownCap,Question.cut]
   refine .row qW ?_ hle;simp[HI,xR,qW,<-dI];rw[fI hle]
  have e3:(vs++(Builtin.zeroCells z.cells (grownCap w m 0 e-m)).toList).toArray =vs.toArray++Builtin.zeroCells z.cells (grownCap w m 0 e-m):=by simp
  simp only[oe.den,e3] at hp
  exact hp
 |row hn hc hle=>
  rename_i b cap spare;have fa:HF c.w0 c.D (Rx b (xs++spare) e::H') w:=hw.perm sO;have hb:=fa.has _ (.head _);simp only[oe.den] at hb;by_cases ve:n0+m<=cap
  ·have HJ:n0*i.size+vs.length<=(xs++spare).toArray.size :=by
    rw[eY,hc,qW,<-dI];exact gn _ ve
   have hr:=run_append_room (P:=P) w T ty e i hT hi b n0 cap (xs++spare).toArray hb ad m mc vs qW (xS w hw) h1 ve HJ;have e1:(xs++spare).take (n0*i.size)=xs:=by rw[<-hn];simp
   have e2:((xs++spare).toArray.toList.take (n0*i.size)++vs++(xs++spare).toArray.toList.drop (n0*i.size+vs.length))=(xs++vs)++(xs++spare).drop (n0*i.size+vs.length):=by
    simp only[e1]
   rw[e2] at hr;refine⟨Sx b (n0+m) cap,[Rx b ((xs++vs)++(xs++spare).drop (n0*i.size+vs.length)) e],_,?_,hex _ _ hr,HF.perm (SB fa) (cO _ _).symm⟩;refine .row ?_ ?_ ve
   ·simp[hn,qW,dI]
   have:(xs++spare).length =cap*i.size:=hc;have h3:n0*i.size+vs.length<=(xs++spare).length :=by simpa using HJ
   simp only[ax,aA] at*;omega
  have hr:=run_append_grow (P:=P) w T ty e i z hT hi hz ⟨b,0,none⟩ n0 cap xs hn (fun j v hj=>by
    have:=oQ fa (off:=j) (v:=v) (.head _) (by rw[n8,ak (ae.1 hj).1];exact hj);by_cases h0:j=0
    ·subst h0;simpa[Addr.add] using this
    simpa[Addr.add,h0] using this) ad m mc vs qW (xS w hw) (by omega) (by omega) (growslice_fits (by omega) r9)
  have hH:HF c.w0 c.D H' w:=fa.sub (ai _ _);have hp:=((hH.drew (w.drawn+1)).push (.row ((xs++vs)++(Builtin.zeroCells z.cells (grownCap w (n0+m) cap e-(n0+m))).toList) e (0,0)));refine⟨Sx w.heap.size (n0+m) (grownCap w (n0+m) cap e),[Rx w.heap.size ((xs++vs)++(Builtin.zeroCells z.cells (grownCap w (n0+m) cap e-(n0+m))).toList) e],_,?_,hex _ _ hr,HF.perm ?_ (cO _ _).symm⟩
  ·have HK:n0+m<=grownCap w (n0+m) cap e:=by simp[grownCap,Question.cut]
   refine .row (by simp[hn,qW,dI]) ?_ HK;simp only[ax,Array.length_toList,HI,xR,hn,qW];rw[<-dI,<-dI,fI HK]
  have e3:((xs++vs)++(Builtin.zeroCells z.cells (grownCap w (n0+m) cap e-(n0+m))).toList).toArray =xs.toArray++vs.toArray++Builtin.zeroCells z.cells (grownCap w (n0+m) cap e-(n0+m)):=by simp
  simp only[oe.den,e3] at hp;exact hp
theorem kL {T e sz qg:Nat} {i:TypeInfo} {z:Value} {x y:Operand} {sv:Value} {n0:Nat} {xs vs:List Value} {Hs H':SH} {ad:Addr} {m mc d:Nat}
  (hT:P.underlying T=some (.slice e)) (hi:P.info? e=some i) (hz:i.zero=some z) (rM:i.size=sz) (zo:i.bytes=qg) (xR:z.cells.size=sz)
  (hx:ev fr x=some sv) (hy:ev fr y=some (.slice (some ad) m mc)) (nx:Own e sz sv n0 xs Hs) (sO:H.Perm (Hs++H'))
  (xS:∀w,HF c.w0 c.D H w->∀j u,vs[j]? =some u->w.cell? (ad.add j)=some u) (qW:vs.length=m*sz) (h1:∀u∈vs,u.oneCell'=true) (hm:0<m) (r9:(n0+m)*qg<=140737488355328) (xo:n0+m<=9223372036854775807)
  (hS:∀w,HF c.w0 c.D H' w->S w) (hd:Nat.blt d n=true)
  (hk:∀sC nX,Own e sz sC (n0+m) (xs++vs) nX->GA P c n k ops S nv listed ((d,sC)::fr) (H'++nX)):
  GB P c n k ops S nv listed ⟨some d,.call ⟨.builtin .append, #[x,y], #[T,T]⟩,ty,pos,mG,none⟩ fr H:=by
 refine kK (A:={p:Value×SH//Own e sz p.1 (n0+m) (xs++vs) p.2}) (H':=fun p=>H'++p.1.2) (v:=fun p=>p.1.1) (fun a w ha hw=>?_) (fun p w hw=>hS w (hw.sub (cL _ _))) hd (fun p=>hk _ _ p.2);obtain⟨sC,nX,w',g1,g2,g3⟩:=SM (d:=d) (ty:=ty) (pos:=pos) (mG:=mG) hT hi hz rM zo xR hx hy nx sO xS qW h1 hm r9 xo a w ha hw;exact⟨⟨(sC,nX),g1⟩,w',g2,g3⟩
theorem lS {op:Op} {H':SH} (hr:∀a w,Fr n fr a->HF c.w0 c.D H w->∃w',(execOp a.eval ⟨none,op,ty,pos,mG,none⟩).run P w=.ok .skip w'/\HF c.w0 c.D H' w') (hS:∀w,HF c.w0 c.D H' w->S w)
  (hk:GA P c n k ops S nv listed fr H'):GB P c n k ops S nv listed ⟨none,op,ty,pos,mG,none⟩ fr H:=by
 intro hf a w ha hw;obtain⟨w',h1,h2⟩:=hr a w ha hw;simp only[Region.wanted,if_true,Oper.wp,h1,Oper.upon];exact⟨hS _ h2,hk hf _ _ ha h2⟩
theorem jK {t:TypeId} {x y:Operand} {v:Value} {b off i:Nat} {l:List Value} {T:TypeId} {fz:Nat×Nat} (hs:∀w,(Go.sizeOf t).run P w=.ok 1 w) (hx:ev fr x=some (Pt b off)) (hy:ev fr y=some v)
  (h1:v.oneCell'=true) (hi:At i ⟨b,true,.row l T fz⟩ H) (hc:(nth l off).isSome =true) (hf:(Nat.ble fz.1 off&&Nat.blt off fz.2)=false) (hS:∀w,HF c.w0 c.D (sV (.row (rC l off v) T fz) i H) w->S w)
  (hk:GA P c n k ops S nv listed fr (sV (.row (rC l off v) T fz) i H)):GB P c n k ops S nv listed ⟨none,.store t x y,ty,pos,mG,none⟩ fr H:=by
 refine lS (fun a w ha hw=>⟨w.setCell ⟨b,off,none⟩ v,?_,hw.setCell hi v⟩) hS hk;obtain⟨u,hu⟩:=b7.1 hc;have vI:=oQ hw hi.mem hu;have DR:=M7 hw hi.mem (off:=off);rw[Sv hf] at DR;have DT:v.cells= #[v]:=by cases v<;>first|rfl|(simp[Value.oneCell'] at h1)
 have mO:=run_store P w ⟨b,off,none⟩ v .plain h1;simp only[vI,DR] at mO;simp[execOp,ha.eval hx,ha.eval hy,Instr.storeAt,Instr.sureAddr,storeVar,DT,hs,storeCells,Addr.add,mO]
theorem kM {T e d:Nat} {x:Operand} {v:Value} {vs:List Value} (hb:BS P T e v vs) (hx:ev fr x=some v) (hS:∀w,HF c.w0 c.D H w->S w) (hd:Nat.blt d n=true)
  (hk:∀b,GA P c n k ops S nv listed ((d,Sx b 1 1)::fr) (Rx b vs e::H)):GB P c n k ops S nv listed ⟨some d,.buildSlice T 1 #[(0,x)],ty,pos,mG,none⟩ fr H:=by
 refine jY (kb:=.row vs e (0,0)) (v:=fun b=>Sx b 1 1) (fun a w ha hw=>?_) hS hd hk;simp[execOp,ha.eval hx,hb w,oe.den]
variable {P:Program} {c:Cx} {n:Nat} {k:List Item} {fr:SF} {H:SH} {ops:Array Oper} {ty:TypeId} {pos:String} {mG:Array Edge} {S:World->Prop} {nv:Nat} {listed:Array Bool}
theorem k7 {i d j t:Nat} {b:Bool} {op:Op} {v:Value} (hi:ops[i]? =some ⟨some d,op,ty,pos,mG,some (j,b)⟩) (hj:(ops[j]?).bind (·.dst)=some t) (hb:look t fr=some (.bool b)) (hB:(Region.noSelect ops&&Region.free .any ops listed i&&(Region.ready .any ops listed).contains i)=true)
  (hS:∀w,HF c.w0 c.D H w->S w) (hv:∀a w,Fr n fr a->S w->∀dst pos mG g,(execOp a.eval ⟨dst,op,ty,pos,mG,g⟩).run P w=.ok (.value v) w) (hd:Nat.blt d n=true)
  (h:GA P c n k ops S nv (listed.setIfInBounds i true) ((d,v)::fr) H):GA P c n k ops S (nv+1) listed fr H:=by
 intro hf a w ha hw;simp only[cG] at hB;have hy:yielded ops a.tmps j=some b:=by simp[yielded,hj,ha.at_ t _ hb]
 exact wpAnyH_take hi hB.1.1 hB.1.2 hB.2 (fun ch a' w' hq=>⟨hq.1,hq.2⟩) (.inl ⟨by simp[Region.wanted,hy],fun w' HP=>hv a w' ha HP _ _ _ _⟩) (hS w hw) (h hf _ _ (ha.put hd v) hw)
theorem lT (i:Nat) {d j t:Nat} {b:Bool} {op:Op} {v:Value} (hi:ops[i]? =some ⟨some d,op,ty,pos,mG,some (j,b)⟩) (hj:(ops[j]?).bind (·.dst)=some t) (hb:look t fr=some (.bool b)) (hB:(Region.noSelect ops&&Region.free .any ops listed i&&(Region.ready .any ops listed).contains i)=true)
  (hS:∀w,HF c.w0 c.D H w->S w) (hv:∀(w0:World),nB P ⟨c.f,c.fn,c.R,w0,fun _=>False⟩ n op ty fr [] v) (hd:Nat.blt d n=true)
  (h:GA P c n k ops S nv (listed.setIfInBounds i true) ((d,v)::fr) H):GA P c n k ops S (nv+1) listed fr H:=
 k7 hi hj hb hB hS (fun a w ha _ dst pos mG g=>hv w a w ha (HF.start w _) dst pos mG g) hd h
theorem lU (i:Nat) {d j t b' off:Nat} {b:Bool} {HQ:TypeId} {x:Operand} {v:Value} (hi:ops[i]? =some ⟨some d,.load HQ x,ty,pos,mG,some (j,b)⟩) (hj:(ops[j]?).bind (·.dst)=some t) (hb:look t fr=some (.bool b)) (hB:(Region.noSelect ops&&Region.free .any ops listed i&&(Region.ready .any ops listed).contains i)=true)
  (hS:∀w,HF c.w0 c.D H w->S w) (hA:∀w,(isAgg HQ).run P w=.ok false w) (hx:ev fr x=some (Pt b' off)) (hc:∀w,S w->w.cell? ⟨b',off,none⟩=some v) (hd:Nat.blt d n=true)
  (h:GA P c n k ops S nv (listed.setIfInBounds i true) ((d,v)::fr) H):GA P c n k ops S (nv+1) listed fr H:=
 k7 hi hj hb hB hS (fun a w ha hS dst pos mG g=>by simp[execOp,ha.eval hx,Instr.loadAt,Instr.sureAddr,loadVar,hA,run_load,hc w hS]) hd h
theorem k8 (hS:∀w,HF c.w0 c.D H w->S w) (h:(∀w,HF c.w0 c.D H w->S w)->GA P c n k ops S nv listed fr H):GA P c n k ops S nv listed fr H:=h hS
theorem im (i:Nat) {d:Nat} {op:Op} {v:Value} (hi:ops[i]? =some ⟨some d,op,ty,pos,mG,none⟩) (hS:∀w,HF c.w0 c.D H w->S w) (hv:∀{w0:World},nB P ⟨c.f,c.fn,c.R,w0,fun _=>False⟩ n op ty fr [] v)
  (h:GA P c n k ops S nv (listed.setIfInBounds i true) ((d,v)::fr) H) (hB:(Region.noSelect ops&&Region.free .any ops listed i&&(Region.ready .any ops listed).contains i)=true:=by kernel_rfl) (hd:Nat.blt d n=true:=by exact rfl):GA P c n k ops S (nv+1) listed fr H:=
 lO i hi hB hS (fun _=>hv) hd h
theorem iY (i:Nat) {d j t:Nat} {b:Bool} {op:Op} {v:Value} (hi:ops[i]? =some ⟨some d,op,ty,pos,mG,some (j,b)⟩) (hS:∀w,HF c.w0 c.D H w->S w) (hv:∀{w0:World},nB P ⟨c.f,c.fn,c.R,w0,fun _=>False⟩ n op ty fr [] v)
  (h:GA P c n k ops S nv (listed.setIfInBounds i true) ((d,v)::fr) H) (hj:(ops[j]?).bind (·.dst)=some t:=by exact rfl) (hb:look t fr=some (.bool b):=by exact rfl) (hB:(Region.noSelect ops&&Region.free .any ops listed i&&(Region.ready .any ops listed).contains i)=true:=by kernel_rfl) (hd:Nat.blt d n=true:=by exact rfl):GA P c n k ops S (nv+1) listed fr H:=
 lT i hi hj hb hB hS (fun _=>hv) hd h
theorem jE (i:Nat) {d:Nat} {t:TypeId} {x:Operand} {b off:Nat} {v:Value} (hi:ops[i]? =some ⟨some d,.load t x,ty,pos,mG,none⟩) (hS:∀w,HF c.w0 c.D H w->S w) (hA:∀w,(isAgg t).run P w=.ok false w) (hx:ev fr x=some (Pt b off)) (hc:∀w,S w->w.cell? ⟨b,off,none⟩=some v)
  (h:GA P c n k ops S nv (listed.setIfInBounds i true) ((d,v)::fr) H) (hB:(Region.noSelect ops&&Region.free .any ops listed i&&(Region.ready .any ops listed).contains i)=true:=by kernel_rfl) (hd:Nat.blt d n=true:=by exact rfl):GA P c n k ops S (nv+1) listed fr H:=
 lP i hi hB hS hA hx hc hd h
theorem jI (i:Nat) {d j t b' off:Nat} {b:Bool} {HQ:TypeId} {x:Operand} {v:Value} (hi:ops[i]? =some ⟨some d,.load HQ x,ty,pos,mG,some (j,b)⟩) (hS:∀w,HF c.w0 c.D H w->S w) (hA:∀w,(isAgg HQ).run P w=.ok false w) (hx:ev fr x=some (Pt b' off)) (hc:∀w,S w->w.cell? ⟨b',off,none⟩=some v)
  (h:GA P c n k ops S nv (listed.setIfInBounds i true) ((d,v)::fr) H) (hj:(ops[j]?).bind (·.dst)=some t:=by exact rfl) (hb:look t fr=some (.bool b):=by exact rfl) (hB:(Region.noSelect ops&&Region.free .any ops listed i&&(Region.ready .any ops listed).contains i)=true:=by kernel_rfl) (hd:Nat.blt d n=true:=by exact rfl):GA P c n k ops S (nv+1) listed fr H:=
 lU i hi hj hb hB hS hA hx hc hd h
end Bw
namespace Bw
open Go Go.Proofs
variable {fr:SF} {ops:Array Oper} {rest:List Oper}
theorem iI {P:Program} {c:Cx} {n:Nat} {k:List Item} {H:SH} {o:Oper} {j t d:Nat} {want:Bool} (hg:o.guard=some (j,want)) (wO:o.dst=some d) (hj:(ops[j]?).bind (·.dst)=some t) (hb:look t fr=some undef) (hd:Nat.blt d n=true)
  (hk:GQ P c n k ops rest ((d,undef)::fr) H):GQ P c n k ops (o::rest) fr H:=by
 intro hf a ha;refine wpQuiet_step fun K hK=>?_
 have hy:yielded ops a.tmps j=none:=by simp[yielded,hj,ha.at_ t _ hb,undef]
 have qn:Region.wanted o (yielded ops a.tmps)=false:=by simp[Region.wanted,hg,hy]
 simp only[qn,wO];exact hK _ (hk hf _ (ha.put hd undef))
theorem jF {P:Program} {c:Cx} {n:Nat} {H:SH} {ty t e:TypeId} {x y:Operand} {ad:Option Addr} {len cp i s:Nat} {kd:IntKind} (hU:P.underlying t=some (.slice e)) (hs:∀w,(Go.sizeOf e).run P w=.ok s w) (hx:ev fr x=some (.slice ad len cp)) (hy:ev fr y=some (.int kd (i:Int))) (hi:i<=cp):
  nB P c n (.slice t x none (some y) none) ty fr H (.slice ad i cp):=by
 intro a w ha hw dst pos mG g;simp[execOp,ha.eval hx,ha.eval hy,Instr.sliceAt,Instr.slice,underlying,hU,Instr.sliceBounds,Instr.sliceBound,asIntOf,hi,hs];intro _;cases ad<;>simp[Addr.add]
end Bw
namespace Bw
open Go
variable {P:Program} {c:Cx} {n:Nat} {k:List Item} {fr:SF} {H:SH} {ops:Array Oper} {rest:List Oper} {ty t:TypeId} {pos:String} {mG:Array Edge} {S0:World->Prop} {nv:Nat} {listed:Array Bool}
theorem drop_cons {α:Type} {l:List α} {i:Nat} {x:α} (h:l[i]? =some x):l.drop i=x::l.drop (i+1):=by
 obtain⟨h1,h2⟩:=ae.1 h;rw[bl h1,h2]
theorem lV {P:Program} {c:Cx} {n:Nat} {k:List Item} {fr:SF} {H:SH} {ops:Array Oper} {S0:World->Prop} {nv:Nat} {listed:Array Bool} (J:SF->SH->Prop) (l':Array Bool) (SN:Nat) (hk:∀bc H',J bc H'->GA P c n k ops S0 SN l' bc H')
  (h:(∀bc H' l,l=l'->J bc H'->GA P c n k ops S0 SN l bc H')->GA P c n k ops S0 nv listed fr H):GA P c n k ops S0 nv listed fr H:=
 h fun bc H' _ e hj=>e▸hk bc H' hj
theorem lW {P:Program} {c:Cx} {n:Nat} {k:List Item} {fr:SF} {H:SH} {ops:Array Oper} {rest:List Oper} {o:Oper} {j t d:Nat} {want:Bool} (hg:o.guard=some (j,want)) (wO:o.dst=some d) (hj:(ops[j]?).bind (·.dst)=some t) (hb:look t fr=some undef) (hd:Nat.blt d n=true)
  (hk:G P c n k ops rest ((d,undef)::fr) H):G P c n k ops (o::rest) fr H:=by
 intro hf a w ha hw;refine wpList_step fun K hK=>?_
 have hy:yielded ops a.tmps j=none:=by simp[yielded,hj,ha.at_ t _ hb,undef]
 have qn:Region.wanted o (yielded ops a.tmps)=false:=by simp[Region.wanted,hg,hy]
 simp only[qn,wO];exact hK _ _ (hk hf _ _ (ha.put hd undef) hw)
theorem Own.le {e sz n n' cp:Nat} {ad:Option Addr} {xs:List Value} {Hs:SH} (h:Own e sz (.slice ad n cp) n' xs Hs):n<=cp:=by
 generalize hv:Value.slice ad n cp=v at h
 cases h with
 |nil=>cases hv;exact bI _
 |row _ _ hle=>cases hv;exact hle
theorem Nh {P:Program} {c:Cx} {n:Nat} {op:Op} {ty:TypeId} {fr:SF} {H:SH} {i j:List UInt8} (h:i=j) (hv:nB P c n op ty fr H (.bool (!decide (i=j)))):nB P c n op ty fr H (.bool false):=by rw[decide_eq_true h] at hv;exact hv
theorem Ni {P:Program} {c:Cx} {n:Nat} {op:Op} {ty:TypeId} {fr:SF} {H:SH} {i j:Int} (h:i=j) (hv:nB P c n op ty fr H (.bool (!decide (i=j)))):nB P c n op ty fr H (.bool false):=by rw[decide_eq_true h] at hv;exact hv
theorem Kx:∀(l:List Value) (i:Nat) (v:Value),rC l i v=l.set i v
 |[],_,_=>by simp[rC]
 |_::_,0,_=>by simp[rC]
 |a::l,i+1,v=>by simp[rC,Kx l i v]
theorem kn {P:Program} {c:Cx} {n:Nat} {k:List Item} {fr:SF} {H:SH} {ops:Array Oper} {rest:List Oper} {ty:TypeId} {pos:String} {mG:Array Edge}
  {H1 Hk:SH} {g:FuncId} {x:Operand} {xs:List Operand} {vs cs:List Value} {pj:Array TypeId} {d:Nat} (J:Value->SH->Prop) (hp:H.Perm (H1++Hk)) (ha:∀e∈H1,e.w=true)
  (hg:∀(args:Array Value) w,(callFunc g args).run P w=.ok (.enter g args) w) (hx:ev fr x=some (.func (.func g) #[] cs.toArray)) (he:rN fr xs=some vs) (hd:Nat.blt d n=true)
  (hc:∀w,HF c.w0 c.D H w->HF w (fun b=>∃e∈H1,e.b=b) H1 w->
   Calls P g (vs++cs).toArray w (fun e w'=>∃v ni,e=.returned v/\(∀x∈ni,x.w=true)/\HF w (fun b=>∃e∈H1,e.b=b) ni w'/\J v ni))
  (hk:∀v ni,J v ni->G P c n k ops rest ((d,v)::fr) (ni++Hk)):
  G P c n k ops (⟨some d,.call ⟨.value x,xs.toArray,pj⟩,ty,pos,mG,none⟩::rest) fr H:=by
 intro hf a w Ao hw;refine wpList_step fun K' Bf=>?_
 simp only[Region.wanted,if_true,Oper.wp,Sw Ao hg hx he,Oper.upon];have hh:=hw.perm hp;have nj:=bS.1 hh.nd;refine(hc w hw (hh.loc (fun e he=>ay _ he) nj.1)).mono fun e w' ⟨v,ni,h1,h2,h3,h4⟩=>?_
 subst h1;exact Bf _ _ (hk v ni h4 hf _ _ (Ao.put hd v) (hw.back hp ha h2 h3))
theorem Own.SO {e sz b n cap:Nat} {xs ys sp:List Value} (h:Own e sz (Sx b n cap) n xs [Rx b (xs++sp) e]) (hl:ys.length=xs.length):Own e sz (Sx b n cap) n ys [Rx b (ys++sp) e]:=by
 generalize hH:([Rx b (xs++sp) e]:SH)=Hs at h
 cases h with
 |row hn hc hle=>
  simp only[aM,oJ.mk.injEq,oe.row.injEq,List.append_cancel_left_eq,and_true,true_and] at hH;subst hH;exact .row (hl.trans hn) (by rw[ax,hl,<-ax];exact hc) hle
section
variable {P:Program} {c:Cx} {n:Nat} {k:List Item} {fr:SF} {H:SH} {ops:Array Oper} {rest:List Oper} {ty:TypeId} {pos:String} {mG:Array Edge}
theorem gB {x:Operand} {v:Value} {d:Nat} (hk:G P c n k ops rest ((d,v)::fr) H) (h:ev fr x=some v:=by exact rfl) (hd:Nat.blt d n=true:=by exact rfl):G P c n k ops (⟨some d,.move x,ty,pos,mG,none⟩::rest) fr H:=iZ (gM h) hd hk
theorem gF {x:Operand} {v:Value} {d:Nat} (hk:G P c n k ops rest ((d,v)::fr) H) (h:ev fr x=some v:=by exact rfl) (hd:Nat.blt d n=true:=by exact rfl):G P c n k ops (⟨some d,.assign x,ty,pos,mG,none⟩::rest) fr H:=iZ (iT h) hd hk
theorem gE {o:Oper} {j t d:Nat} {b want:Bool} (hk:G P c n k ops rest ((d,undef)::fr) H) (hg:o.guard=some (j,want):=by exact rfl) (wO:o.dst=some d:=by exact rfl) (hj:(ops[j]?).bind (·.dst)=some t:=by exact rfl) (hb:look t fr=some (.bool b):=by exact rfl) (mW:(b==want)=false:=by exact rfl) (hd:Nat.blt d n=true:=by exact rfl):G P c n k ops (o::rest) fr H:=lv hg wO hj hb mW hd hk
theorem gT {x y z:Operand} {v:Value} {d:Nat} (hk:G P c n k ops rest ((d,v)::fr) H) (hx:ev fr x=some (.bool true):=by exact rfl) (h:ev fr y=some v:=by exact rfl) (hd:Nat.blt d n=true:=by exact rfl):G P c n k ops (⟨some d,.pick x y z,ty,pos,mG,none⟩::rest) fr H:=iZ (iL hx h) hd hk
theorem hG {x y z:Operand} {v:Value} {d:Nat} (hk:G P c n k ops rest ((d,v)::fr) H) (hx:ev fr x=some (.bool false):=by exact rfl) (h:ev fr z=some v:=by exact rfl) (hd:Nat.blt d n=true:=by exact rfl):G P c n k ops (⟨some d,.pick x y z,ty,pos,mG,none⟩::rest) fr H:=iZ (iD hx h) hd hk
theorem gU {x:Operand} {v:Value} {d j t:Nat} {b:Bool} (hk:G P c n k ops rest ((d,v)::fr) H) (hj:(ops[j]?).bind (·.dst)=some t:=by exact rfl) (hb:look t fr=some (.bool b):=by exact rfl) (h:ev fr x=some v:=by exact rfl) (hd:Nat.blt d n=true:=by exact rfl):G P c n k ops (⟨some d,.move x,ty,pos,mG,some (j,b)⟩::rest) fr H:=kT hj hb (gM h) hd hk
theorem gH {t:TypeId} {x:Operand} {i o b off d:Nat} (hF:FF P t i o) (h:ev fr x=some (Pt b off)) (hk:G P c n k ops rest ((d,Pt b (off+o))::fr) H) (hd:Nat.blt d n=true:=by exact rfl):G P c n k ops (⟨some d,.fieldAddr t x i,ty,pos,mG,none⟩::rest) fr H:=iZ (gQ hF h) hd hk
theorem gJ {x:Operand} {b off d:Nat} (h:ev fr x=some (Pt b off)) (hk:G P c n k ops rest ((d,Pt b off)::fr) H) (hd:Nat.blt d n=true:=by exact rfl):G P c n k ops (⟨some d,.nilCheck x,ty,pos,mG,none⟩::rest) fr H:=iZ (gX h) hd hk
theorem gA {op:Op} {v:Value} {d:Nat} (hv:nB P c n op ty fr H v) (hk:G P c n k ops rest ((d,v)::fr) H) (hd:Nat.blt d n=true:=by exact rfl):G P c n k ops (⟨some d,op,ty,pos,mG,none⟩::rest) fr H:=iZ hv hd hk
theorem gI {op:Op} {v:Value} {d j t:Nat} {b:Bool} (hv:nB P c n op ty fr H v) (hk:G P c n k ops rest ((d,v)::fr) H) (hj:(ops[j]?).bind (·.dst)=some t:=by exact rfl) (hb:look t fr=some (.bool b):=by exact rfl) (hd:Nat.blt d n=true:=by exact rfl):G P c n k ops (⟨some d,op,ty,pos,mG,some (j,b)⟩::rest) fr H:=kT hj hb hv hd hk
theorem gK {op:Op} {v:Value} {d:Nat} (hv:nB P c n op ty fr H v) (hk:GQ P c n k ops rest ((d,v)::fr) H) (hd:Nat.blt d n=true:=by exact rfl):GQ P c n k ops (⟨some d,op,ty,pos,mG,none⟩::rest) fr H:=lB hv hd hk
theorem gY {op:Op} {v:Value} {d j t:Nat} {b:Bool} (hv:nB P c n op ty fr H v) (hk:GQ P c n k ops rest ((d,v)::fr) H) (hj:(ops[j]?).bind (·.dst)=some t:=by exact rfl) (hb:look t fr=some (.bool b):=by exact rfl) (hd:Nat.blt d n=true:=by exact rfl):GQ P c n k ops (⟨some d,op,ty,pos,mG,some (j,b)⟩::rest) fr H:=lC hj hb hv hd hk
theorem gR {tail:List Oper} {op:Op} {v:Value} {d:Nat} (hv:nB P c n op ty fr H v) (hk:GS P c n k ops tail rest ((d,v)::fr) H) (hd:Nat.blt d n=true:=by exact rfl):GS P c n k ops tail (⟨some d,op,ty,pos,mG,none⟩::rest) fr H:=lG hv hd hk
theorem gP {o:Oper} {j t d:Nat} {b want:Bool} (hk:GQ P c n k ops rest ((d,undef)::fr) H) (hg:o.guard=some (j,want):=by exact rfl) (wO:o.dst=some d:=by exact rfl) (hj:(ops[j]?).bind (·.dst)=some t:=by exact rfl) (hb:look t fr=some (.bool b):=by exact rfl) (mW:(b==want)=false:=by exact rfl) (hd:Nat.blt d n=true:=by exact rfl):GQ P c n k ops (o::rest) fr H:=lD hg wO hj hb mW hd hk
theorem iv {o:Oper} {j t d:Nat} {want:Bool} (hk:G P c n k ops rest ((d,undef)::fr) H) (hg:o.guard=some (j,want):=by exact rfl) (wO:o.dst=some d:=by exact rfl) (hj:(ops[j]?).bind (·.dst)=some t:=by exact rfl) (hb:look t fr=some undef:=by exact rfl) (hd:Nat.blt d n=true:=by exact rfl):G P c n k ops (o::rest) fr H:=lW hg wO hj hb hd hk
theorem Sub.of {l fr:SF} (h:(l.map fun p=>Bw.look p.1 fr)=l.map fun p=>some p.2):Sub l fr:=by
 induction l with
 |nil=>exact .nil
 |cons p l ih=>simp only[aX,aM] at h;exact .cons h.1 (ih h.2)
end
section
variable {α:Type} {x a b c d e f g h:α} {l:List α}
theorem m2 (m:x∈l):x∈a::b::l:=.tail _ (.tail _ m)
theorem m3 (m:x∈l):x∈a::b::c::l:=.tail _ (m2 m)
theorem m4 (m:x∈l):x∈a::b::c::d::l:=.tail _ (m3 m)
theorem m5 (m:x∈l):x∈a::b::c::d::e::l:=.tail _ (m4 m)
theorem m6 (m:x∈l):x∈a::b::c::d::e::f::l:=.tail _ (m5 m)
theorem m7 (m:x∈l):x∈a::b::c::d::e::f::g::l:=.tail _ (m6 m)
end
end Bw
