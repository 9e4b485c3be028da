/- Lemmas of the walk and plain facts (JeE3 .. JeTab2). -/
import Derived.Test.YtmneeannkgnbpaaDoorL1
import Derived.Test.YtmneeannkgnbpaaDoorL2
import Derived.Test.YtmneeannkgnbpaaDoorP19
import Derived.Test.YtmneeannkgnbpaaDoorP01
import Derived.Test.YtmneeannkgnbpaaDoorShelf
set_option maxRecDepth 20000
namespace Go.Proofs.Ec
open Go Bw
def rW:Nat->List UInt8
 |0=>[67,79,78,78,69,67,84]
 |1=>[68,69,76,69,84,69]
 |2=>[71,69,84]
 |3=>[72,69,65,68]
 |4=>[79,80,84,73,79,78,83]
 |5=>[80,65,84,67,72]
 |6=>[80,79,83,84]
 |7=>[80,82,79,80,70,73,78,68]
 |8=>[80,85,84]
 |9=>[84,82,65,67,69]
 |10=>[82,69,80,79,82,84]
 |_=>[]
theorem adh (i:Nat):(rW i).length <=8:=by
 unfold rW;split<;>simp
def Dk:List UInt8:=[79,80,84,73,79,78,83]
def hp (f:Nat->Option Nat) (l:List Nat):List UInt8:=Dk++(l.filter fun i=>(f i).isSome).flatMap fun i=>[44,32]++rW i
theorem Dl {f:Nat->Option Nat} {i:Nat} (l:List Nat) (h:(f i).isSome =true):hp f l++[44,32]++rW i=hp f (l++[i]):=by simp[hp,h]
theorem VN {f:Nat->Option Nat} {i:Nat} {s:List UInt8} (l:List Nat) (h:(f i).isSome =true) (hs:s=[44,32]++rW i):hp f l++s=hp f (l++[i]):=by simp[hp,h,hs]
theorem AU {f:Nat->Option Nat} {i:Nat} (l:List Nat) (h:(f i).isSome =false):hp f l=hp f (l++[i]):=by simp[hp,h]
theorem VP (f:Nat->Option Nat):∀l:List Nat,(hp f l).length <=7+10*l.length
 |[]=>by simp[hp,Dk]
 |i::l=>by
  have:=VP f l;have h2:=adh i;simp only[hp,ax,List.filter_cons] at*;split
  ·simp only[ed,ax,aI,cm] at*;omega
  simp only[aI] at*;omega
def BN (f:Nat->Option Nat) (kv:AL) (nH:List UInt8):Prop:=
 ∃ks:List (List UInt8),ks.Perm (kv.map (·.1))/\nH=hp f [0,1,2,3,5,6,7,8,9,10]++ks.flatMap fun k=>[44,32]++k
theorem tY:SG Tryd.prog 91 184 5:=fun B b bs s w h1 h2 h3 h4=>Tryd.Buffer_WriteString_k B b bs s w h1 h2 h3 h4
theorem adi:SJ Tryd.prog 92 184 5:=fun B b l w h=>Tryd.Buffer_String B b l w h
theorem VQ (kv:AL) (hk:∀p∈kv,p.1.length<=1000):∀ks:List (List UInt8),(∀k∈ks,k.length<=1000)->(ks.flatMap fun k=>[44,32]++k).length <=1002*ks.length
 |[],_=>by simp
 |k::r,h=>by
  have:=VQ kv hk r (fun x hx=>h x (dW _ hx));have h2:=h k (.head _);simp only[ed,ax,aI,cm] at*;omega
theorem adj (w:World) (m:Nat) (f:Nat->Option Nat) (mp:Option Nat) (kv:AL) (nH:List UInt8) (hm:w.heap[m]? =some (.cells (sE f mp nH).toArray 150 (0,0))) (qJ:uK w mp kv)
  (hk:∀p∈kv,p.1.length<=1000) (qh:kv.length<=1000000):
  Calls Tryd.prog 89 #[Pt m 0] w fun e w'=>e=.returned (.tuple #[])/\∃xG,BN f kv xG/\HF w (fun b=>b=m) [Rx m (sE f mp xG) 150] w':=by
 have py:m<w.heap.size:=(dK.1 hm).1;have LH:HF w (fun b=>b=m) [Rx m (sE f mp nH) 150] w:=(HF.start w _).add hm (fun _=>.inl rfl) (fun _ h=>by cases h);refine enter (fun b=>b=m) [Rx m (sE f mp nH) 150] Tryd.func89 rfl Tryd.ntmps89 rfl rfl LH fun c hc=>?_
 subst hc;refine gz<|gD<|iK Tryd.zeroValue184 rfl rfl (fun b hb=>?_);refine gF<|gC<|gN (bc:=[(0,Pt m 0),(2,Pt b 0)]) (.of rfl) ?_;have oD:Bg 5 w.heap.size [Rx m (sE f mp nH) 150]:=.cons (.inl py) .nil;have VS:rD 184 5 w.heap.size b [] [Rx b [.slice none 0 0,.int .i64 0,.int .i8 0] 184]:=.nil hb rfl;generalize Pu:[(Rx m (sE f mp nH) 150:oJ)]=Hm at oD;have nM:∀HB:SH,(Rx m (sE f mp nH) 150:oJ)∈HB++Hm:=fun HB=>by subst Pu;exact au _ (.head _)
 have te:=VP f;have K:∀l s:List UInt8,l.length<=107->s.length<=10->l.length+s.length<=140737488355328:=fun l s h1 h2=>by omega
 refine gz<|gD<|gB<|jf (HB:=[Rx b [.slice none 0 0,.int .i64 0,.int .i8 0] 184]) (s:=Dk) tY cF rfl rfl rfl VS oD (by decide) (fun HB hB=>?_);refine gC<|gN (bc:=[(0,Pt m 0),(2,Pt b 0)]) (.of rfl) ?_
 replace hB:rD 184 5 w.heap.size b (hp f []) HB:=hB
 clear VS hb;refine gz<|hY (fun bc H'=>Sub [(0,Pt m 0),(2,Pt b 0)] bc/\∃HB,rD 184 5 w.heap.size b (hp f [0]) HB/\H'=HB++Hm) (fun J=>?_) ?_
 ·refine gz<|gD<|gB<|gJ rfl<|gH Lu rfl<|gA (gG aO rfl (nM HB) rfl)<|gA (iA aJ rfl)<|gC<|gV rfl (fun h=>?_) (fun h=>?_)
  ·refine gz<|gD<|gB<|jf (s:=[44,32]) tY cF rfl rfl rfl hB oD (K _ _ (br (te _) (by decide)) (by decide)) (fun Dm wa=>?_);refine gC<|gD<|gB<|jf (s:=rW 0) tY cF rfl rfl rfl wa oD (by have:=te [];simp only[ax,aI,cm,rW] at*;omega) (fun tZ ua=>?_);exact gC<|J _ _ ⟨.of rfl,tZ,(Dl [] h)▸ua,rfl⟩
  exact gL<|J _ _ ⟨.of rfl,HB,(AU [] h)▸hB,rfl⟩
 clear hB HB;rintro bc H' ⟨hs,HB,hB,rfl⟩;refine gN hs ?_;clear hs;refine gz<|hY (fun bc H'=>Sub [(0,Pt m 0),(2,Pt b 0)] bc/\∃HB,rD 184 5 w.heap.size b (hp f [0,1]) HB/\H'=HB++Hm) (fun J=>?_) ?_
 ·refine gz<|gD<|gB<|gJ rfl<|gH Lv rfl<|gA (gG aO rfl (nM HB) rfl)<|gA (iA aJ rfl)<|gC<|gV rfl (fun h=>?_) (fun h=>?_)
  ·refine gz<|gD<|gB<|jf (s:=[44,32]) tY cF rfl rfl rfl hB oD (K _ _ (br (te _) (by decide)) (by decide)) (fun Dm wa=>?_);refine gC<|gD<|gB<|jf (s:=rW 1) tY cF rfl rfl rfl wa oD (by have:=te [0];simp only[ax,aI,cm,rW] at*;omega) (fun tZ ua=>?_);exact gC<|J _ _ ⟨.of rfl,tZ,(Dl [0] h)▸ua,rfl⟩
  exact gL<|J _ _ ⟨.of rfl,HB,(AU [0] h)▸hB,rfl⟩
 clear hB HB;rintro bc H' ⟨hs,HB,hB,rfl⟩;refine gN hs ?_;clear hs;refine gz<|hY (fun bc H'=>Sub [(0,Pt m 0),(2,Pt b 0)] bc/\∃HB,rD 184 5 w.heap.size b (hp f [0,1,2]) HB/\H'=HB++Hm) (fun J=>?_) ?_
 ·refine gz<|gD<|gB<|gJ rfl<|gH Lw rfl<|gA (gG aO rfl (nM HB) rfl)<|gA (iA aJ rfl)<|gC<|gV rfl (fun h=>?_) (fun h=>?_)
  ·refine gz<|gD<|gB<|jf (s:=[44,32]) tY cF rfl rfl rfl hB oD (K _ _ (br (te _) (by decide)) (by decide)) (fun Dm wa=>?_);refine gC<|gD<|gB<|jf (s:=rW 2) tY cF rfl rfl rfl wa oD (by have:=te [0,1];simp only[ax,aI,cm,rW] at*;omega) (fun tZ ua=>?_);exact gC<|J _ _ ⟨.of rfl,tZ,(Dl [0,1] h)▸ua,rfl⟩
  exact gL<|J _ _ ⟨.of rfl,HB,(AU [0,1] h)▸hB,rfl⟩
 clear hB HB;rintro bc H' ⟨hs,HB,hB,rfl⟩;refine gN hs ?_;clear hs;refine gz<|hY (fun bc H'=>Sub [(0,Pt m 0),(2,Pt b 0)] bc/\∃HB,rD 184 5 w.heap.size b (hp f [0,1,2,3]) HB/\H'=HB++Hm) (fun J=>?_) ?_
 ·refine gz<|gD<|gB<|gJ rfl<|gH Lx rfl<|gA (gG aO rfl (nM HB) rfl)<|gA (iA aJ rfl)<|gC<|gV rfl (fun h=>?_) (fun h=>?_)
  ·refine gz<|gD<|gB<|jf (s:=[44,32]) tY cF rfl rfl rfl hB oD (K _ _ (br (te _) (by decide)) (by decide)) (fun Dm wa=>?_);refine gC<|gD<|gB<|jf (s:=rW 3) tY cF rfl rfl rfl wa oD (by have:=te [0,1,2];simp only[ax,aI,cm,rW] at*;omega) (fun tZ ua=>?_);exact gC<|J _ _ ⟨.of rfl,tZ,(Dl [0,1,2] h)▸ua,rfl⟩
  exact gL<|J _ _ ⟨.of rfl,HB,(AU [0,1,2] h)▸hB,rfl⟩
 clear hB HB;rintro bc H' ⟨hs,HB,hB,rfl⟩;refine gN hs ?_;clear hs;refine gz<|hY (fun bc H'=>Sub [(0,Pt m 0),(2,Pt b 0)] bc/\∃HB,rD 184 5 w.heap.size b (hp f [0,1,2,3,5]) HB/\H'=HB++Hm) (fun J=>?_) ?_
 ·refine gz<|gD<|gB<|gJ rfl<|gH Ly rfl<|gA (gG aO rfl (nM HB) rfl)<|gA (iA aJ rfl)<|gC<|gV rfl (fun h=>?_) (fun h=>?_)
  ·refine gz<|gD<|gB<|jf (s:=[44,32]) tY cF rfl rfl rfl hB oD (K _ _ (br (te _) (by decide)) (by decide)) (fun Dm wa=>?_);refine gC<|gD<|gB<|jf (s:=rW 5) tY cF rfl rfl rfl wa oD (by have:=te [0,1,2,3];simp only[ax,aI,cm,rW] at*;omega) (fun tZ ua=>?_);exact gC<|J _ _ ⟨.of rfl,tZ,(Dl [0,1,2,3] h)▸ua,rfl⟩
  exact gL<|J _ _ ⟨.of rfl,HB,(AU [0,1,2,3] h)▸hB,rfl⟩
 clear hB HB;rintro bc H' ⟨hs,HB,hB,rfl⟩;refine gN hs ?_;clear hs;refine gz<|hY (fun bc H'=>Sub [(0,Pt m 0),(2,Pt b 0)] bc/\∃HB,rD 184 5 w.heap.size b (hp f [0,1,2,3,5,6]) HB/\H'=HB++Hm) (fun J=>?_) ?_
 ·refine gz<|gD<|gB<|gJ rfl<|gH Lz rfl<|gA (gG aO rfl (nM HB) rfl)<|gA (iA aJ rfl)<|gC<|gV rfl (fun h=>?_) (fun h=>?_)
  ·refine gz<|gD<|gB<|jf (s:=[44,32]) tY cF rfl rfl rfl hB oD (K _ _ (br (te _) (by decide)) (by decide)) (fun Dm wa=>?_);refine gC<|gD<|gB<|jf (s:=rW 6) tY cF rfl rfl rfl wa oD (by have:=te [0,1,2,3,5];simp only[ax,aI,cm,rW] at*;omega) (fun tZ ua=>?_);exact gC<|J _ _ ⟨.of rfl,tZ,(Dl [0,1,2,3,5] h)▸ua,rfl⟩
  exact gL<|J _ _ ⟨.of rfl,HB,(AU [0,1,2,3,5] h)▸hB,rfl⟩
 clear hB HB;rintro bc H' ⟨hs,HB,hB,rfl⟩;refine gN hs ?_;clear hs;refine gz<|hY (fun bc H'=>Sub [(0,Pt m 0),(2,Pt b 0)] bc/\∃HB,rD 184 5 w.heap.size b (hp f [0,1,2,3,5,6,7]) HB/\H'=HB++Hm) (fun J=>?_) ?_
 ·refine gz<|gD<|gB<|gJ rfl<|gH LA rfl<|gA (gG aO rfl (nM HB) rfl)<|gA (iA aJ rfl)<|gC<|gV rfl (fun h=>?_) (fun h=>?_)
  ·refine gD<|gB<|jf (s:=[44,32,80,82,79,80,70,73,78,68]) tY cF rfl rfl rfl hB oD (K _ _ (br (te _) (by decide)) (by decide)) (fun tZ ua=>?_);exact gC<|J _ _ ⟨.of rfl,tZ,(VN (i:=7) [0,1,2,3,5,6] h rfl)▸ua,rfl⟩
  exact gL<|J _ _ ⟨.of rfl,HB,(AU [0,1,2,3,5,6] h)▸hB,rfl⟩
 clear hB HB;rintro bc H' ⟨hs,HB,hB,rfl⟩;refine gN hs ?_;clear hs;refine gz<|hY (fun bc H'=>Sub [(0,Pt m 0),(2,Pt b 0)] bc/\∃HB,rD 184 5 w.heap.size b (hp f [0,1,2,3,5,6,7,8]) HB/\H'=HB++Hm) (fun J=>?_) ?_
 ·refine gz<|gD<|gB<|gJ rfl<|gH LC rfl<|gA (gG aO rfl (nM HB) rfl)<|gA (iA aJ rfl)<|gC<|gV rfl (fun h=>?_) (fun h=>?_)
  ·refine gz<|gD<|gB<|jf (s:=[44,32]) tY cF rfl rfl rfl hB oD (K _ _ (br (te _) (by decide)) (by decide)) (fun Dm wa=>?_);refine gC<|gD<|gB<|jf (s:=rW 8) tY cF rfl rfl rfl wa oD (by have:=te [0,1,2,3,5,6,7];simp only[ax,aI,cm,rW] at*;omega) (fun tZ ua=>?_);exact gC<|J _ _ ⟨.of rfl,tZ,(Dl [0,1,2,3,5,6,7] h)▸ua,rfl⟩
  exact gL<|J _ _ ⟨.of rfl,HB,(AU [0,1,2,3,5,6,7] h)▸hB,rfl⟩
 clear hB HB;rintro bc H' ⟨hs,HB,hB,rfl⟩;refine gN hs ?_;clear hs;refine gz<|hY (fun bc H'=>Sub [(0,Pt m 0),(2,Pt b 0)] bc/\∃HB,rD 184 5 w.heap.size b (hp f [0,1,2,3,5,6,7,8,9]) HB/\H'=HB++Hm) (fun J=>?_) ?_
 ·refine gz<|gD<|gB<|gJ rfl<|gH LD rfl<|gA (gG aO rfl (nM HB) rfl)<|gA (iA aJ rfl)<|gC<|gV rfl (fun h=>?_) (fun h=>?_)
  ·refine gz<|gD<|gB<|jf (s:=[44,32]) tY cF rfl rfl rfl hB oD (K _ _ (br (te _) (by decide)) (by decide)) (fun Dm wa=>?_);refine gC<|gD<|gB<|jf (s:=rW 9) tY cF rfl rfl rfl wa oD (by have:=te [0,1,2,3,5,6,7,8];simp only[ax,aI,cm,rW] at*;omega) (fun tZ ua=>?_);exact gC<|J _ _ ⟨.of rfl,tZ,(Dl [0,1,2,3,5,6,7,8] h)▸ua,rfl⟩
  exact gL<|J _ _ ⟨.of rfl,HB,(AU [0,1,2,3,5,6,7,8] h)▸hB,rfl⟩
 clear hB HB;rintro bc H' ⟨hs,HB,hB,rfl⟩;refine gN hs ?_;clear hs;refine gz<|hY (fun bc H'=>Sub [(0,Pt m 0),(2,Pt b 0)] bc/\∃HB,rD 184 5 w.heap.size b (hp f [0,1,2,3,5,6,7,8,9,10]) HB/\H'=HB++Hm) (fun J=>?_) ?_
 ·refine gz<|gD<|gB<|gJ rfl<|gH LF rfl<|gA (gG aO rfl (nM HB) rfl)<|gA (iA aJ rfl)<|gC<|gV rfl (fun h=>?_) (fun h=>?_)
  ·refine gD<|gB<|jf (s:=[44,32,82,69,80,79,82,84]) tY cF rfl rfl rfl hB oD (K _ _ (br (te _) (by decide)) (by decide)) (fun tZ ua=>?_);exact gC<|J _ _ ⟨.of rfl,tZ,(VN (i:=10) [0,1,2,3,5,6,7,8,9] h rfl)▸ua,rfl⟩
  exact gL<|J _ _ ⟨.of rfl,HB,(AU [0,1,2,3,5,6,7,8,9] h)▸hB,rfl⟩
 clear hB HB;rintro bc H' ⟨hs,HB,hB,rfl⟩;refine gN hs ?_;clear hs;refine gz<|hY (fun bc H'=>Sub [(0,Pt m 0),(2,Pt b 0)] bc/\∃HB ks,rD 184 5 w.heap.size b (hp f [0,1,2,3,5,6,7,8,9,10]++List.flatMap (fun k=>[44,32]++k) ks) HB/\List.Perm ks (kv.map (·.1))/\H'=HB++Hm) (fun J=>?_) ?_
 ·refine gz<|gD<|gB<|gJ rfl<|gH EE rfl<|gA (gG fF rfl (nM HB) rfl) ?_
  cases mp with
  |none=>
   refine l0 dx rfl rfl (fun it nO=>?_);refine gC<|gW<|jw<|gz<|gD<|l5 rfl (.head _) rfl<|gA (iz rfl rfl)<|gC<|gz<|iJ rfl<|ir rfl<|lu (ai _ _) ?_;have qJ:kv=[]:=qJ
   exact J _ _ ⟨.of rfl,HB,[],by simpa using hB,by rw[qJ];exact .nil,rfl⟩
  |some mb=>
   have qJ:w.heap[mb]? =some (pG (pH kv)):=qJ;have VT:mb<w.heap.size:=(dK.1 qJ).1;have mW:¬mb=m:=fun e=>by rw[e,hm] at qJ;simp[pG] at qJ
   refine jb (H':=⟨mb,false,.obj (pG (pH kv))⟩::(HB++Hm)) (fun w1 fa=>fa.add (fa.old qJ mW) (fun h=>by cases h) (fun e he h=>?_)) ?_
   ·have h1:=fa.has e he;rw[h] at h1;have h2:=fa.old qJ mW;rw[h2] at h1;rcases aB.1 he with he|he
    ·have:=hB.ge e he;omega
    subst Pu;simp only[aj] at he;subst he;exact mW h.symm
   refine lZ (kv:=pH kv) dx rfl (.head _) rfl (fun it nO=>?_);refine gC<|gW ?_;have hlen:(pH kv).length =kv.length:=by simp[pH]
   have pI:∀o,(∀c fz,o≠Obj.cells c 5 fz)->Bg 5 w.heap.size (⟨it,true,.obj o⟩::⟨mb,false,.obj (pG (pH kv))⟩::Hm):=fun o ho=>.cons (.inr ho) (.cons (.inl VT) oD)
   have Gl:∀(j:Nat) (p:List UInt8×Value),(pH kv)[j]? =some p->∃q∈kv,q.1=p.1:=fun j p hp=>by
    replace hp:(List.map (fun p:List UInt8×Nat=>(p.1,Pt p.2 0)) kv)[j]? =some p:=hp
    rw[aD] at hp
    cases hj:kv[j]? with
    |none=>simp[hj] at hp
    |some q=>simp[hj] at hp;exact⟨q,ap hj,by rw[<-hp]⟩
   refine iC (fun N bc H'=>Sub [(0,Pt m 0),(2,Pt b 0),(97,Pt it 0)] bc/\∃rem seen HB ks,List.length rem=N/\(rem++seen).Perm (List.range kv.length)/\ks=seen.map (fun j=>((kv[j]?).getD ([],0)).1)/\
     rD 184 5 w.heap.size b (hp f [0,1,2,3,5,6,7,8,9,10]++List.flatMap (fun k=>[44,32]++k) ks) HB/\(H':SH).Perm (HB++(⟨it,true,.obj (uh mb (pH kv).length seen (pH kv).length)⟩::⟨mb,false,.obj (pG (pH kv))⟩::Hm))) kv.length ?_ ?_
   ·refine⟨.of rfl,List.range kv.length,[],HB,[],by simp,by simp,rfl,by simpa using hB,?_⟩;have:∀(x y:oJ) (A B:SH),(x::y::(A++B)).Perm (A++(x::y::B)):=fun x y A B=>((List.Perm.cons x (bG (l₁:=A) (l₂:=B)).symm).trans bG.symm)
    exact this _ _ _ _
   rintro N bc H' ⟨hs,rem,seen,HB,ks,hN,tf,qK,hB,Gd⟩ ih;refine gN hs ?_;clear hs
   have r9:(hp f [0,1,2,3,5,6,7,8,9,10]++List.flatMap (fun k=>[44,32]++k) ks).length <=107+1002*1000000:=by
    have h1:seen.length<=kv.length:=by have:=tf.length_eq;simp at this;omega
    have h2:=VQ kv hk ks (fun x hx=>by
     rw[qK] at hx;obtain⟨j,hj,rfl⟩:=aZ.1 hx
     cases h3:kv[j]? with
     |none=>simp
     |some q=>simpa using hk q (ap h3))
    have h3:=te [0,1,2,3,5,6,7,8,9,10];have h4:ks.length=seen.length:=by rw[qK];simp
    simp only[ax,aI,cm] at*;omega
   refine hO (fun w1 fa=>fa.perm (Gd.trans aF))<|gz<|gD<|l6 (kv:=pH kv) rfl .z (.tail _ (.head _)) rfl (fun pN=>?_) (fun j p hj HU=>?_)
   ·refine gA (iz rfl rfl)<|gC<|gz<|iJ rfl<|ir rfl<|hO (H':=HB++Hm) (fun w1 fa=>(fa.sub ((ai _ _).trans (ai _ _))).perm aF)<|J _ _ ⟨.of rfl,HB,ks,hB,?_,rfl⟩
    have adk:rem=[]:=by
     cases hr:rem with
     |nil=>rfl
     |cons j r=>
      subst hr;have zn:j∈List.range kv.length:=tf.mem_iff.1 (by simp);have hjs:=pN j (by simpa[pH] using zn);have nj:((j::r)++seen).Nodup :=tf.nodup_iff.2 List.nodup_range;exact absurd (au r hjs) (bf.1 nj).1
    subst adk;rw[qK];refine(List.Perm.map _ tf).trans ?_;refine List.Perm.of_eq (c9 fun i=>?_);simp only[aD];by_cases hi:i<kv.length
    ·simp[List.getElem?_range hi,ao hi]
    simp[dq (Nat.le_of_not_lt hi)];omega
   refine gA (iz rfl rfl)<|gC<|gz<|ji rfl<|gL<|gW<|gz<|gD<|gA (l7 (kv:=pH kv) rfl (.head _) (.tail _ (.head _)) hj)<|gA (iz rfl rfl)<|gF<|gC ?_;obtain⟨q,Pv,tS⟩:=Gl j p hj;have Pw:p.1.length<=1000:=tS▸hk q Pv;have oC:j<kv.length:=by have:=(ae.1 hj).1;simpa[pH] using this
   have nZ:((kv[j]?).getD ([],0)).1=p.1:=by
    have hj:(List.map (fun p:List UInt8×Nat=>(p.1,Pt p.2 0)) kv)[j]? =some p:=hj;rw[aD] at hj
    cases h3:kv[j]? with
    |none=>simp[h3] at hj
    |some q=>simp[h3] at hj;simp[<-hj]
   refine hO (H':=HB++(⟨it,true,.obj (uh mb (pH kv).length (seen++[j]) (pH kv).length)⟩::⟨mb,false,.obj (pG (pH kv))⟩::Hm)) (fun w1 fa=>HF.perm (H:=⟨it,true,.obj (uh mb (pH kv).length (seen++[j]) (pH kv).length)⟩::⟨mb,false,.obj (pG (pH kv))⟩::(Hm++HB)) fa (aF (l₁:=⟨it,true,.obj (uh mb (pH kv).length (seen++[j]) (pH kv).length)⟩::⟨mb,false,.obj (pG (pH kv))⟩::Hm))) ?_;have VU:=pI (uh mb (pH kv).length (seen++[j]) (pH kv).length) (fun c fz h=>by simp[uh] at h);refine gz<|gD<|gB<|jf (s:=[44,32]) tY cF rfl rfl rfl hB VU (by simp only[aI,cm];omega) (fun Dm wa=>?_);refine gC<|gD<|gB<|gB<|jf (s:=p.1) tY cF rfl rfl rfl wa VU (by simp only[ax,aI,cm] at*;omega) (fun tZ ua=>?_);refine gC<|il ?_
   have Px:j∈rem:=by
    have:j∈rem++seen:=tf.mem_iff.2 (by simpa using oC);exact(aB.1 this).resolve_right HU
   have hl:=List.length_erase_of_mem Px;have pW:=List.length_pos_of_mem Px;refine ih (N-1) _ _ (by omega) ⟨.of rfl,rem.erase j,seen++[j],tZ,ks++[p.1],by omega,?_,by rw[qK];simp[nZ],?_,.refl _⟩
   ·refine List.Perm.trans ?_ tf;rw[<-aw];refine(aF).trans ?_;exact(List.Perm.append_right seen (List.perm_cons_erase Px).symm)
   simpa[aw] using ua
 rintro bc H' ⟨hs,HB,ks,hB,qK,rfl⟩;refine gN hs<|gD<|gB<|gB<|iw Tryd.call92 rfl rfl (Zp adi hB)<|gJ rfl<|gH Pn rfl<|jb (fun w1 fa=>fa.perm aF) ?_;subst Pu;exact gO ah rfl rfl rfl .z rfl rfl<|gC<|jq rfl fun w' ia=>⟨rfl,_,⟨ks,qK,rfl⟩,ia.sub (cL _ _)⟩
def qI (f:Nat->Option Nat) (bx:List UInt8) (h:Nat):Nat->Option Nat:=
 match nY bx with
 |some i=>fun j=>if j=i then some h else f j
 |none=>f
def pY (kv:AL) (bx:List UInt8) (h:Nat):AL:=
 match nY bx with
 |some _=>kv
 |none=>tQ kv bx h
inductive y2:Option Nat->AL->SH->Prop
 |nil:y2 none [] []
 |mk {b:Nat} {kv:AL}:y2 (some b) kv [⟨b,true,.obj (pG (pH kv))⟩]
theorem y2.at {mp:Option Nat} {kv:AL} {Hm H:SH} (h:y2 mp kv Hm) {w0 D w} (hw:HF w0 D H w) (hs:∀e∈Hm,e∈H):uK w mp kv:=by
 cases h with
 |nil=>rfl
 |mk=>exact hw.has _ (hs _ (.head _))
theorem VV:∀(kv:AL) (m:List UInt8) (h:Nat),(tQ kv m h).length <=kv.length+1
 |[],_,_=>by simp[tQ]
 |(k,v)::r,m,h=>by
  simp only[tQ];split
  ·simp
  have:=VV r m h;simp only[aI];omega
theorem LI:∀(kv:AL) (m:List UInt8) (h:Nat) (p),p∈tQ kv m h->p.1=m\/∃q∈kv,q.1=p.1
 |[],m,h,p,hp=>by simp only[tQ,aj] at hp;subst hp;exact .inl rfl
 |(k,v)::r,m,h,p,hp=>by
  simp only[tQ] at hp;split at hp
  ·rcases af.1 hp with rfl|hp
   ·exact .inr ⟨(k,v),.head _,rfl⟩
   exact .inr ⟨p,.tail _ hp,rfl⟩
  rcases af.1 hp with rfl|hp
  ·exact .inr ⟨(k,v),.head _,rfl⟩
  rcases LI r m h p hp with h1|⟨q,h1,h2⟩
  ·exact .inl h1
  exact .inr ⟨q,.tail _ h1,h2⟩
theorem VW (kv:AL) (m:List UInt8) (h:Nat):(pY kv m h).length <=kv.length+1:=by
 unfold pY;split
 ·omega
 exact VV _ _ _
theorem VX {kv:AL} {m:List UInt8} {h:Nat} (hk:∀p∈kv,p.1.length<=1000) (hm:m.length<=1000):∀p∈pY kv m h,p.1.length<=1000:=by
 intro p hp;unfold pY at hp;split at hp
 ·exact hk p hp
 rcases LI _ _ _ _ hp with h1|⟨q,h1,h2⟩
 ·rw[h1];exact hm
 rw[<-h2];exact hk q h1
inductive Py (n m h:Nat) (l:List Value) (f:Nat->Option Nat) (mp:Option Nat) (kv:AL) (nH:List UInt8) (Hm:SH) (bx:List UInt8):SH->Prop
 |nf (e:bx=oo):Py n m h l f mp kv nH Hm bx (Rx n (rC l 4 (Pt h 0)) 141::Rx m (sE f mp nH) 150::Hm)
 |mk {zW:Option Nat} {xG:List UInt8} {zX:SH} (e:bx≠oo) (h1:y2 zW (pY kv bx h) zX) (h2:BN (qI f bx h) (pY kv bx h) xG):
   Py n m h l f mp kv nH Hm bx (Rx n (rC l 12 (.bool true)) 141::Rx m (sE (qI f bx h) zW xG) 150::zX)
theorem adm (w:World) (D:Nat->Prop) (n m h hh:Nat) (l:List Value) (f:Nat->Option Nat) (mp:Option Nat) (kv:AL) (nH bx:List UInt8) (Hm:SH)
  (hH:HF w D (Rx n l 141::Rx m (sE f mp nH) 150::Hm) w) (y3:y2 mp kv Hm) (h0:nth l 0=some (Pt m 0)) (h4:(nth l 4).isSome =true) (vj:(nth l 12).isSome =true)
  (Ed:w.cell? ⟨h,0,none⟩=some (Pt hh 0)) (VY:¬D h) (hk:∀p∈kv,p.1.length<=1000) (py:bx.length<=1000) (qh:kv.length<1000000):
  Calls Tryd.prog 85 #[Pt n 0,S bx,Pt h 0] w fun e w'=>e=.returned (.tuple #[])/\∃H',Py n m h l f mp kv nH Hm bx H'/\HF w D H' w':=by
 refine enter D (Rx n l 141::Rx m (sE f mp nH) 150::Hm) Tryd.func85 rfl Tryd.ntmps85 rfl rfl hH fun c hc=>?_
 subst hc;refine gz<|hY (fun bc H'=>Sub [(0,Pt n 0)] bc/\∃zW zX,bx≠oo/\y2 zW (pY kv bx h) zX/\H'=(Rx n l 141)::Rx m (sE (qI f bx h) zW nH) 150::zX) (fun J=>?_) ?_
 rotate_left
 ·rintro bc H' ⟨hs,zW,zX,mW,VZ,rfl⟩;refine gN hs<|gz<|gD<|gB<|gJ rfl<|gH q6 rfl<|gA (gG bq rfl (.head _) h0)<|iP (fun _ H2=>∃xG,BN (qI f bx h) (pY kv bx h) xG/\H2=(Rx m (sE (qI f bx h) zW xG) 150)::Rx n l 141::zX) Tryd.call89 rfl rfl (fun w1 fa=>?_) ?_
  ·refine(adj w1 m _ zW (pY kv bx h) nH (fa.has _ (.tail _ (.head _))) (VZ.at fa (fun e he=>.tail _ (.tail _ he))) (VX hk py) (by have:=VW kv bx h;omega)).mono fun e w2 ⟨he,xG,h1,h2⟩=>?_
   have nj:=(fa.perm (List.Perm.swap _ _ _)).nd;refine⟨_,_,he,fa.after (Hk:=Rx n l 141::zX) h2 (.cons_cons _ (ai _ _)) (fun b hb=>hb▸fa.wr _ (.tail _ (.head _)) rfl) (fun e he hb=>?_) (fun e he x hx hb=>?_),xG,h1,rfl⟩
   ·exact(cA.1 nj).1 e he hb.symm
   simp only[aj] at he;subst he;exact(cA.1 nj).1 x hx hb
  rintro v H2 ⟨xG,h1,rfl⟩;exact gC<|gD<|gB<|gJ rfl<|gH ED rfl<|gO aP rfl rfl rfl (.s .z) vj rfl<|gC<|jq rfl fun w' ia=>⟨rfl,_,.mk mW VZ h1,ia.perm (List.Perm.swap _ _ _)⟩
 refine gz<|gD<|gB<|gC<|gW<|gz<|gD<|gA (iE rfl rfl)<|gF<|gC<|gS rfl (fun tK=>?_) (fun tK=>?_)
 ·refine gD<|gB<|gJ rfl<|gH q6 rfl<|gA (gG bq rfl (.head _) h0)<|gB<|gJ rfl<|gH Lu rfl<|gO bB rfl rfl rfl (.s .z) rfl rfl<|gC<|il ?_;have e:nY bx=some 0:=by rw[nY,if_pos tK]
  have e1:qI f bx h=fun j=>if j=0 then some h else f j:=by rw[qI,e]
  have e2:pY kv bx h=kv:=by rw[pY,e]
  exact J _ _ ⟨.cons rfl .nil,mp,Hm,fun e3=>by rw[e3] at e;revert e;decide,by rw[e2];exact y3,by rw[e1];rfl⟩
 refine gz<|gD<|gA (iE rfl rfl)<|gF<|gC<|gS rfl (fun y4=>?_) (fun y4=>?_)
 ·refine gD<|gB<|gJ rfl<|gH q6 rfl<|gA (gG bq rfl (.head _) h0)<|gB<|gJ rfl<|gH Lv rfl<|gO bB rfl rfl rfl (.s .z) rfl rfl<|gC<|il ?_;have e:nY bx=some 1:=by rw[nY,if_neg tK,if_pos y4]
  have e1:qI f bx h=fun j=>if j=1 then some h else f j:=by rw[qI,e]
  have e2:pY kv bx h=kv:=by rw[pY,e]
  exact J _ _ ⟨.cons rfl .nil,mp,Hm,fun e3=>by rw[e3] at e;revert e;decide,by rw[e2];exact y3,by rw[e1];rfl⟩
 refine gz<|gD<|gA (iE rfl rfl)<|gF<|gC<|gS rfl (fun yt=>?_) (fun yt=>?_)
 ·refine gD<|gB<|gJ rfl<|gH q6 rfl<|gA (gG bq rfl (.head _) h0)<|gB<|gJ rfl<|gH Lw rfl<|gO bB rfl rfl rfl (.s .z) rfl rfl<|gC<|il ?_;have e:nY bx=some 2:=by rw[nY,if_neg tK,if_neg y4,if_pos yt]
  have e1:qI f bx h=fun j=>if j=2 then some h else f j:=by rw[qI,e]
  have e2:pY kv bx h=kv:=by rw[pY,e]
  exact J _ _ ⟨.cons rfl .nil,mp,Hm,fun e3=>by rw[e3] at e;revert e;decide,by rw[e2];exact y3,by rw[e1];rfl⟩
 refine gz<|gD<|gA (iE rfl rfl)<|gF<|gC<|gS rfl (fun v8=>?_) (fun v8=>?_)
 ·refine gD<|gB<|gJ rfl<|gH q6 rfl<|gA (gG bq rfl (.head _) h0)<|gB<|gJ rfl<|gH Lx rfl<|gO bB rfl rfl rfl (.s .z) rfl rfl<|gC<|il ?_;have e:nY bx=some 3:=by rw[nY,if_neg tK,if_neg y4,if_neg yt,if_pos v8]
  have e1:qI f bx h=fun j=>if j=3 then some h else f j:=by rw[qI,e]
  have e2:pY kv bx h=kv:=by rw[pY,e]
  exact J _ _ ⟨.cons rfl .nil,mp,Hm,fun e3=>by rw[e3] at e;revert e;decide,by rw[e2];exact y3,by rw[e1];rfl⟩
 refine gz<|gD<|gA (iE rfl rfl)<|gF<|gC<|gS rfl (fun BO=>?_) (fun BO=>?_)
 ·refine gD<|gB<|gJ rfl<|gH q6 rfl<|gA (gG bq rfl (.head _) h0)<|gB<|gJ rfl<|gH Pm rfl<|gO bB rfl rfl rfl (.s .z) rfl rfl<|gC<|il ?_;have e:nY bx=some 4:=by rw[nY,if_neg tK,if_neg y4,if_neg yt,if_neg v8,if_pos BO]
  have e1:qI f bx h=fun j=>if j=4 then some h else f j:=by rw[qI,e]
  have e2:pY kv bx h=kv:=by rw[pY,e]
  exact J _ _ ⟨.cons rfl .nil,mp,Hm,fun e3=>by rw[e3] at e;revert e;decide,by rw[e2];exact y3,by rw[e1];rfl⟩
 refine gz<|gD<|gA (iE rfl rfl)<|gF<|gC<|gS rfl (fun Dn=>?_) (fun Dn=>?_)
 ·refine gD<|gB<|gJ rfl<|gH q6 rfl<|gA (gG bq rfl (.head _) h0)<|gB<|gJ rfl<|gH Ly rfl<|gO bB rfl rfl rfl (.s .z) rfl rfl<|gC<|il ?_;have e:nY bx=some 5:=by rw[nY,if_neg tK,if_neg y4,if_neg yt,if_neg v8,if_neg BO,if_pos Dn]
  have e1:qI f bx h=fun j=>if j=5 then some h else f j:=by rw[qI,e]
  have e2:pY kv bx h=kv:=by rw[pY,e]
  exact J _ _ ⟨.cons rfl .nil,mp,Hm,fun e3=>by rw[e3] at e;revert e;decide,by rw[e2];exact y3,by rw[e1];rfl⟩
 refine gz<|gD<|gA (iE rfl rfl)<|gF<|gC<|gS rfl (fun tN=>?_) (fun tN=>?_)
 ·refine gD<|gB<|gJ rfl<|gH q6 rfl<|gA (gG bq rfl (.head _) h0)<|gB<|gJ rfl<|gH Lz rfl<|gO bB rfl rfl rfl (.s .z) rfl rfl<|gC<|il ?_;have e:nY bx=some 6:=by rw[nY,if_neg tK,if_neg y4,if_neg yt,if_neg v8,if_neg BO,if_neg Dn,if_pos tN]
  have e1:qI f bx h=fun j=>if j=6 then some h else f j:=by rw[qI,e]
  have e2:pY kv bx h=kv:=by rw[pY,e]
  exact J _ _ ⟨.cons rfl .nil,mp,Hm,fun e3=>by rw[e3] at e;revert e;decide,by rw[e2];exact y3,by rw[e1];rfl⟩
 refine gz<|gD<|gA (iE rfl rfl)<|gF<|gC<|gS rfl (fun Gm=>?_) (fun Gm=>?_)
 ·refine gD<|gB<|gJ rfl<|gH q6 rfl<|gA (gG bq rfl (.head _) h0)<|gB<|gJ rfl<|gH LA rfl<|gO bB rfl rfl rfl (.s .z) rfl rfl<|gC<|il ?_;have e:nY bx=some 7:=by rw[nY,if_neg tK,if_neg y4,if_neg yt,if_neg v8,if_neg BO,if_neg Dn,if_neg tN,if_pos Gm]
  have e1:qI f bx h=fun j=>if j=7 then some h else f j:=by rw[qI,e]
  have e2:pY kv bx h=kv:=by rw[pY,e]
  exact J _ _ ⟨.cons rfl .nil,mp,Hm,fun e3=>by rw[e3] at e;revert e;decide,by rw[e2];exact y3,by rw[e1];rfl⟩
 refine gz<|gD<|gA (iE rfl rfl)<|gF<|gC<|gS rfl (fun yu=>?_) (fun yu=>?_)
 ·refine gD<|gB<|gJ rfl<|gH q6 rfl<|gA (gG bq rfl (.head _) h0)<|gB<|gJ rfl<|gH LC rfl<|gO bB rfl rfl rfl (.s .z) rfl rfl<|gC<|il ?_;have e:nY bx=some 8:=by rw[nY,if_neg tK,if_neg y4,if_neg yt,if_neg v8,if_neg BO,if_neg Dn,if_neg tN,if_neg Gm,if_pos yu]
  have e1:qI f bx h=fun j=>if j=8 then some h else f j:=by rw[qI,e]
  have e2:pY kv bx h=kv:=by rw[pY,e]
  exact J _ _ ⟨.cons rfl .nil,mp,Hm,fun e3=>by rw[e3] at e;revert e;decide,by rw[e2];exact y3,by rw[e1];rfl⟩
 refine gz<|gD<|gA (iE rfl rfl)<|gF<|gC<|gS rfl (fun LJ=>?_) (fun LJ=>?_)
 ·refine gD<|gB<|gJ rfl<|gH q6 rfl<|gA (gG bq rfl (.head _) h0)<|gB<|gJ rfl<|gH LD rfl<|gO bB rfl rfl rfl (.s .z) rfl rfl<|gC<|il ?_;have e:nY bx=some 9:=by rw[nY,if_neg tK,if_neg y4,if_neg yt,if_neg v8,if_neg BO,if_neg Dn,if_neg tN,if_neg Gm,if_neg yu,if_pos LJ]
  have e1:qI f bx h=fun j=>if j=9 then some h else f j:=by rw[qI,e]
  have e2:pY kv bx h=kv:=by rw[pY,e]
  exact J _ _ ⟨.cons rfl .nil,mp,Hm,fun e3=>by rw[e3] at e;revert e;decide,by rw[e2];exact y3,by rw[e1];rfl⟩
 refine gz<|gD<|gA (iE rfl rfl)<|gF<|gC<|gS rfl (fun Pz=>?_) (fun Pz=>?_)
 ·refine gD<|gB<|gJ rfl<|gH q6 rfl<|gA (gG bq rfl (.head _) h0)<|gB<|gJ rfl<|gH LF rfl<|gO bB rfl rfl rfl (.s .z) rfl rfl<|gC<|il ?_;have e:nY bx=some 10:=by rw[nY,if_neg tK,if_neg y4,if_neg yt,if_neg v8,if_neg BO,if_neg Dn,if_neg tN,if_neg Gm,if_neg yu,if_neg LJ,if_pos Pz]
  have e1:qI f bx h=fun j=>if j=10 then some h else f j:=by rw[qI,e]
  have e2:pY kv bx h=kv:=by rw[pY,e]
  exact J _ _ ⟨.cons rfl .nil,mp,Hm,fun e3=>by rw[e3] at e;revert e;decide,by rw[e2];exact y3,by rw[e1];rfl⟩
 refine gz<|gD<|gA (iE rfl rfl)<|gF<|gC<|gS rfl (fun LK=>?_) (fun LK=>?_)
 ·exact gz<|gD<|gB<|gB<|gJ rfl<|gH uW rfl<|gO bB rfl rfl rfl .z h4 rfl<|gC<|jD rfl fun w' ia=>⟨rfl,_,.nf LK,ia⟩
 refine gz<|gz ?_;have e:nY bx=none:=by rw[nY,if_neg tK,if_neg y4,if_neg yt,if_neg v8,if_neg BO,if_neg Dn,if_neg tN,if_neg Gm,if_neg yu,if_neg LJ,if_neg Pz]
 have e1:qI f bx h=f:=by rw[qI,e]
 have e2:pY kv bx h=tQ kv bx h:=by rw[pY,e]
 refine gD<|gB<|gJ rfl<|gH q6 rfl<|gA (gG bq rfl (.head _) h0)<|gJ rfl<|gH EE rfl<|gA (gG fF rfl (.tail _ (.head _)) rfl)<|gA (lx dx rfl)<|gC ?_
 cases y3 with
 |nil=>
  refine ji rfl<|gD<|gB<|gJ rfl<|gH q6 rfl<|gA (gG bq rfl (.head _) h0)<|kV rfl (fun b hb=>?_);refine gJ rfl<|gH EE rfl<|gO Tryd.sizeOf148 rfl rfl rfl (.s (.s .z)) rfl rfl<|gC<|hO (H':=[Rx n l 141,Rx m (sE f (some b) nH) 150,⟨b,true,.obj (pG (pH []))⟩]) (fun w1 fa=>HF.perm (H:=[⟨b,true,.obj (pG (pH []))⟩,Rx n l 141,Rx m (sE f (some b) nH) 150]) fa (aF (l₁:=[(⟨b,true,.obj (pG (pH []))⟩:oJ)])))<|gz<|gD<|gB<|gJ rfl<|gH AT rfl<|gA (hZ dy rfl Ed VY)<|gA (jP (p:=some ⟨hh,0,none⟩) dU rfl)<|gC<|iJ rfl<|gD<|gB<|gJ rfl<|gH q6 rfl<|gA (gG bq rfl (.head _) h0)<|gJ rfl<|gH EE rfl<|gA (gG fF rfl (.tail _ (.head _)) rfl)<|gB<|gB<|kN (kv:=pH []) dx aa rfl rfl rfl (.s (.s .z))<|gC<|il ?_;rw[Nw]
  exact J _ _ ⟨.cons rfl .nil,some b,[⟨b,true,.obj (pG (pH (tQ [] bx h)))⟩],LK,by rw[e2];exact .mk,by rw[e1];rfl⟩
 | @mk b _=>
  refine iJ rfl<|gL<|gz<|gD<|gB<|gJ rfl<|gH AT rfl<|gA (hZ dy rfl Ed VY)<|gA (jP (p:=some ⟨hh,0,none⟩) dU rfl)<|gC<|iJ rfl<|gD<|gB<|gJ rfl<|gH q6 rfl<|gA (gG bq rfl (.head _) h0)<|gJ rfl<|gH EE rfl<|gA (gG fF rfl (.tail _ (.head _)) rfl)<|gB<|gB<|kN (kv:=pH kv) dx aa rfl rfl rfl (.s (.s .z))<|gC<|il ?_;rw[Nw];exact J _ _ ⟨.cons rfl .nil,some b,[⟨b,true,.obj (pG (pH (tQ kv bx h)))⟩],LK,by rw[e2];exact .mk,by rw[e1];rfl⟩
end Go.Proofs.Ec
namespace Bw
open Go Go.Proofs Go.Proofs.Ec
section
variable {P:Program} {c:Cx} {n:Nat} {k:List Item} {fr:SF} {H:SH} {ops:Array Oper} {rest:List Oper} {ty:TypeId} {pos:String} {mG:Array Edge}
end
structure NR where
 n:Nat
 m:Nat
 ng:Option Nat
 mV:Option Nat
 mP:Option Nat
 nf:Option Nat
 pre:List UInt8
 rZ:List UInt8
 kids:List Nat
 ad:Option Addr
 cp:Nat
 Hs:SH
 pc:Nat
 nP:UInt8
 kd:Nat
 leaf:Bool
 nn:Bool
 f:Nat->Option Nat
 mp:Option Nat
 kv:AL
 nH:List UInt8
 Hm:SH
def NR.row (r:NR):List Value:=Nv r.m r.ng r.mV r.mP r.nf r.pre r.rZ (.slice r.ad r.kids.length r.cp) r.pc r.nP r.kd r.leaf r.nn
def NR.mr (r:NR):List Value:=sE r.f r.mp r.nH
def NR.eN (r:NR):oJ:=Rx r.n r.row 141
def NR.eM (r:NR):oJ:=Rx r.m r.mr 150
def NR.mI (r:NR):SH:=r.eN::r.eM::(r.Hm++r.Hs)
def mI (T:List NR):SH:=T.flatMap NR.mI
structure NR.ok (B:Nat) (r:NR):Prop where
 hm:y2 r.mp r.kv r.Hm
 hs:Own 131 1 (.slice r.ad r.kids.length r.cp) r.kids.length (r.kids.map (Pt · 0)) r.Hs
 nil:r.kids=[]->r.ad=none
 wH:r.kv.length<=B
 keys:(∀p∈r.kv,p.1.length<=1000)/\(r.kv.map (·.1)).Nodup
 uX:r.kids.length<=B
theorem _root_.Go.Proofs.Ec.y2.w {mp:Option Nat} {kv:AL} {H:SH} (h:y2 mp kv H):∀e∈H,e.w=true:=by
 cases h with
 |nil=>intro e he;cases he
 |mk=>intro e he;simp only[aj] at he;subst he;rfl
theorem NR.ok.w {B:Nat} {r:NR} (h:r.ok B):∀e∈r.mI,e.w=true:=by
 intro e he;simp only[NR.mI,af,aB] at he;rcases he with rfl|rfl|he|he
 ·rfl
 ·rfl
 ·exact h.hm.w e he
 exact h.hs.w e he
theorem BP {B:Nat} {T:List NR} (h:∀r∈T,r.ok B):∀e∈mI T,e.w=true:=by
 intro e he;obtain⟨r,hr,he⟩:=dP.1 he;exact(h r hr).w e he
theorem qN {T:List NR} {r:NR} (h:r∈T) {e:oJ} (he:e∈r.mI):e∈mI T:=dP.2 ⟨r,h,he⟩
theorem PA {T T':List NR} (h:T.Perm T'):(mI T).Perm (mI T'):=h.flatMap_right _
theorem Jk (r:NR) (T:List NR):mI (r::T)=r.mI++mI T:=rfl
def As (a b z:oJ) (r:NR) (E:SH):SH:=r.eN::r.eM::(r.Hm++(a::b::z::(r.Hs++E)))
theorem V0 (a b z:oJ) (r:NR) (T0:List NR):(a::b::z::mI (r::T0)).Perm (As a b z r (mI T0)):=by
 simp only[As,Jk,NR.mI,aW];refine List.Perm.trans (l₂:=r.eN::a::b::z::r.eM::((r.Hm++r.Hs)++mI T0)) ?_ (.cons _ ?_)
 ·exact(bG (l₁:=[a,b,z]))
 refine(bG (l₁:=[a,b,z])).trans (.cons _ ?_);rw[aw];refine List.Perm.trans ?_ (dg [a,b,z] r.Hm _);exact .refl _
def mK:List UInt8->List UInt8->Nat
 |a::x,b::y=>if a=b then mK x y+1 else 0
 |_,_=>0
theorem zu:∀(x y:List UInt8),mK x y<=x.length/\mK x y<=y.length
 |[],y=>by simp[mK]
 |a::x,[]=>by simp[mK]
 |a::x,b::y=>by
  have:=zu x y;simp only[mK];split<;>simp<;>omega
theorem PB (x:List UInt8):mK x []=0:=by cases x<;>rfl
theorem PC (x y:List UInt8) (i:Nat) (a b:UInt8) (ha:x[i]? =some a) (hb:y[i]? =some b):mK (x.drop i) (y.drop i)=if a=b then mK (x.drop (i+1)) (y.drop (i+1))+1 else 0:=by
 obtain⟨h1,h2⟩:=ae.1 ha;obtain⟨h3,h4⟩:=ae.1 hb;rw[bl h1,bl h3,mK,h2,h4]
theorem V1:∀(kv:AL) (m:List UInt8) (h:Nat),(kv.map (·.1)).Nodup ->((tQ kv m h).map (·.1)).Nodup
 |[],m,h,_=>by simp[tQ]
 |(k,v)::r,m,h,hn=>by
  simp only[tQ];simp only[aX,bf] at hn;split
  ·rename_i e;subst e;simpa using hn
  rename_i e;simp only[aX,bf];refine⟨fun hm=>?_,V1 r m h hn.2⟩;obtain⟨p,hp,Pw⟩:=aZ.1 hm;rcases LI r m h p hp with h1|⟨x,h1,h2⟩
  ·exact e (by rw[<-Pw,h1])
  exact hn.1 (aZ.2 ⟨x,h1,by rw[h2,Pw]⟩)
theorem ado {kv:AL} {m:List UInt8} {h:Nat} (hn:(kv.map (·.1)).Nodup):((pY kv m h).map (·.1)).Nodup :=by
 unfold pY;split
 ·exact hn
 exact V1 kv m h hn
inductive xH (h:Nat) (bx:List UInt8) (r:NR):NR->Prop
 |nf (e:bx=oo):xH h bx r {r with nf:=some h}
 |mk {zW:Option Nat} {xG:List UInt8} {zX:SH} (e:bx≠oo) (h1:y2 zW (pY r.kv bx h) zX) (h2:BN (qI r.f bx h) (pY r.kv bx h) xG):
   xH h bx r {r with f:=qI r.f bx h,mp:=zW,kv:=pY r.kv bx h,nH:=xG,Hm:=zX,nn:=true}
theorem xH.n {h bx r r'} (a:xH h bx r r'):r'.n=r.n:=by cases a<;>rfl
theorem xH.m {h bx r r'} (a:xH h bx r r'):r'.m=r.m:=by cases a<;>rfl
theorem xH.Hs {h bx r r'} (a:xH h bx r r'):r'.Hs=r.Hs:=by cases a<;>rfl
theorem xH.ok {h bx r r'} {B:Nat} (a:xH h bx r r') (ho:r.ok B) (hm:bx.length<=1000):r'.ok (B+1):=by
 cases a with
 |nf e=>exact⟨ho.hm,ho.hs,ho.nil,cz ho.wH,ho.keys,cz ho.uX⟩
 |mk e h1 h2=>exact⟨h1,ho.hs,ho.nil,by have:=VW r.kv bx h;have:=ho.wH;simp only;omega,⟨VX ho.keys.1 hm,ado ho.keys.2⟩,cz ho.uX⟩
def sy (h:Nat) (hp:Option Nat) (bx:List UInt8) (r r':NR):Prop:=(hp=none/\r'=r)\/(hp.isSome=true/\xH h bx r r')
theorem sy.ok {h hp bx r r'} {B:Nat} (a:sy h hp bx r r') (ho:r.ok B) (hm:bx.length<=1000):r'.ok (B+1):=by
 rcases a with⟨_,rfl⟩|⟨_,a⟩
 ·exact⟨ho.hm,ho.hs,ho.nil,cz ho.wH,ho.keys,cz ho.uX⟩
 exact a.ok ho hm
def NR.po (hp:Option Nat) (np:Nat) (pp:List UInt8) (r:NR):NR:=if hp.isSome then{r with pc:=np,rZ:=pp} else r
def NR.pn (hp:Option Nat) (np:Nat) (r:NR):NR:=if hp.isSome then{r with pc:=np} else r
def NR.oP (r:NR):NR:={r with leaf:=r.kids.isEmpty&&r.mV.isNone&&r.mP.isNone}
def NR.nR (S:List Nat) (b:Nat) (r:NR):NR:=if r.n∈S then{r with ng:=some b} else r
def sA (n m ng:Nat) (pre rZ:List UInt8) (t:Nat):NR:=
 {n,m,ng:=some ng,mV:=none,mP:=none,nf:=none,pre,rZ,kids:=[],ad:=none,cp:=0,Hs:=[],pc:=0,nP:=pre.headD 0,kd:=t,leaf:=true,nn:=false,f:=fun _=>none,mp:=none,kv:=[],nH:=[],Hm:=[]}
def NR.low (r:NR) (b l:Nat):NR:=
 {r with n:=b,ng:=some r.n,pre:=r.pre.drop l,nP:=(r.pre.drop l).headD 0,leaf:=r.kids.isEmpty&&r.mV.isNone&&r.mP.isNone,nn:=re r.f r.kv}
def NR.top (r:NR) (m l:Nat) (kids:List Nat) (ad:Option Addr) (cp:Nat) (Hs:SH):NR:=
 {n:=r.n,m,ng:=r.ng,mV:=none,mP:=none,nf:=none,pre:=r.pre.take l,rZ:=[],kids,ad,cp,Hs,pc:=0,nP:=r.pre.headD 0,kd:=0,leaf:=false,nn:=false,f:=fun _=>none,mp:=none,kv:=[],nH:=[],Hm:=[]}
inductive BQ (t b:Nat) (r:NR):NR->Prop
 |st {ad:Option Addr} {cp:Nat} {Hs:SH} (e:t=0) (h:Own 131 1 (.slice ad (r.kids.length+1) cp) (r.kids.length+1) (r.kids.map (Pt · 0)++[Pt b 0]) Hs):BQ t b r {r with kids:=r.kids++[b],ad,cp,Hs}
 |ng (e:t=1):BQ t b r {r with mV:=some b}
 |any (e:t=2):BQ t b r {r with mP:=some b}
def q7 (T:List NR) (a:Nat):UInt8:=((T.find? (·.n ==a)).map (·.nP)).getD 0
inductive xI (T:List NR) (h:Nat) (hp:Option Nat) (bx:List UInt8) (t np:Nat) (pp:List UInt8):Nat->List UInt8->List NR->Prop
 |root {r r1:NR} {T0:List NR} {s:List UInt8} (hT:T.Perm (r::T0)) (hl:mK s r.pre=0)
   (ha:sy h hp bx (if hp.isSome then{r with nP:=s.headD 0,pre:=s,kd:=t} else{r with nP:=s.headD 0,pre:=s}) r1):
   xI T h hp bx t np pp r.n s ((r1.po hp np pp).oP ::T0)
 |split {r r1:NR} {T0:List NR} {s:List UInt8} {b m:Nat} {ad:Option Addr} {cp:Nat} {Hs:SH} (hT:T.Perm (r::T0)) (h0:mK s r.pre≠0) (hl:mK s r.pre<r.pre.length) (hs:mK s r.pre=s.length)
   (ho:Own 131 1 (.slice ad 1 cp) 1 [Pt b 0] Hs) (ha:sy h hp bx {r.top m (mK s r.pre) [b] ad cp Hs with kd:=t} r1):
   xI T h hp bx t np pp r.n s ((r1.po hp np pp).oP ::r.low b (mK s r.pre)::T0.map (NR.nR (r.kids++r.mV.toList++r.mP.toList) b))
 |PD {r r1:NR} {T0:List NR} {s:List UInt8} {b m b2 m2:Nat} {ad:Option Addr} {cp:Nat} {Hs:SH} (hT:T.Perm (r::T0)) (h0:mK s r.pre≠0) (hl:mK s r.pre<r.pre.length) (hs:mK s r.pre<s.length)
   (ho:Own 131 1 (.slice ad 2 cp) 2 [Pt b 0,Pt b2 0] Hs) (ha:sy h hp bx (sA b2 m2 r.n (s.drop (mK s r.pre)) [] t) r1):
   xI T h hp bx t np pp r.n s ((r.top m (mK s r.pre) [b,b2] ad cp Hs).oP ::r1.po hp np pp::r.low b (mK s r.pre)::T0.map (NR.nR (r.kids++r.mV.toList++r.mP.toList) b))
 |deep {r:NR} {s:List UInt8} {c:Nat} {T':List NR} (hT:r∈T) (hl:mK s r.pre=r.pre.length) (h0:r.pre≠[]) (hs:r.pre.length<s.length)
   (hc:wX (r.kids.map fun a=>(a,q7 T a)) r.mV r.mP ((s.drop (mK s r.pre)).headD 0)=some c) (hI:xI T h hp bx t np pp c (s.drop (mK s r.pre)) T'):xI T h hp bx t np pp r.n s T'
 |child {r r1 r2:NR} {T0:List NR} {s:List UInt8} {b m:Nat} (hT:T.Perm (r::T0)) (h0:r.pre≠[]) (hl:mK s r.pre=r.pre.length) (hs:r.pre.length<s.length)
   (hc:wX (r.kids.map fun a=>(a,q7 T a)) r.mV r.mP ((s.drop (mK s r.pre)).headD 0)=none) (ha:sy h hp bx (sA b m r.n (s.drop (mK s r.pre)) pp t) r1) (hr:BQ t b r r2):
   xI T h hp bx t np pp r.n s (r2.oP::r1.pn hp np::T0)
 |same {r r1:NR} {T0:List NR} {s:List UInt8} (hT:T.Perm (r::T0)) (h0:r.pre≠[]) (hl:mK s r.pre=r.pre.length) (hs:mK s r.pre=s.length) (ha:sy h hp bx r r1):
   xI T h hp bx t np pp r.n s (r1.po hp np pp::T0)
def nT (h:Nat) (hp:Option Nat) (pp:List UInt8) (pad:Option Addr) (np mR:Nat):oJ:=Rx h [PO hp,S pp,.slice pad np mR] 147
def nF (rb root rt eb:Nat):oJ:=Rx rb [Pt root 0,.map (some rt),Pt eb 0] 134
def nI (eb zb:Nat):oJ:=Rx eb [Pt zb 1] 129
def nK (zb rb z:Nat):oJ:=Rx zb [Pt rb 0,I (z:Int)] 102
theorem NR.ok.mono {B B':Nat} {r:NR} (h:r.ok B) (hb:B<=B'):r.ok B':=⟨h.hm,h.hs,h.nil,br h.wH hb,h.keys,br h.uX hb⟩
theorem NR.ok.LL {B:Nat} {r:NR} (h:r.ok B):r.ad.isNone=r.kids.isEmpty:=by
 by_cases hk:r.kids=[]
 ·rw[h.nil hk,hk];rfl
 have hs:=h.hs
 cases Il:r.ad with
 |some _=>cases um:r.kids with
  |nil=>exact absurd um hk
  |cons=>rfl
 |none=>
  exfalso;generalize hv:Value.slice r.ad r.kids.length r.cp=v at hs;generalize hn:r.kids.length=n at hs hv;generalize hx:r.kids.map (Pt · 0)=xs at hs;generalize r.Hs=Hs at hs
  cases hs with
  |nil=>exact hk (bw.1 hn)
  |row _ _ _=>rw[Il] at hv;simp at hv
theorem NR.ok.oP {B:Nat} {r:NR} (h:r.ok B):r.oP.ok B:=⟨h.hm,h.hs,h.nil,h.wH,h.keys,h.uX⟩
theorem NR.ok.po {B:Nat} {r:NR} {hp np pp} (h:r.ok B):(r.po hp np pp).ok B:=by
 unfold NR.po;split
 ·exact⟨h.hm,h.hs,h.nil,h.wH,h.keys,h.uX⟩
 exact h
theorem NR.ok.pn {B:Nat} {r:NR} {hp np} (h:r.ok B):(r.pn hp np).ok B:=by
 unfold NR.pn;split
 ·exact⟨h.hm,h.hs,h.nil,h.wH,h.keys,h.uX⟩
 exact h
theorem NR.ok.nR {B:Nat} {r:NR} {S b} (h:r.ok B):(r.nR S b).ok B:=by
 unfold NR.nR;split
 ·exact⟨h.hm,h.hs,h.nil,h.wH,h.keys,h.uX⟩
 exact h
theorem NR.ok.low {B:Nat} {r:NR} {b l} (h:r.ok B):(r.low b l).ok B:=⟨h.hm,h.hs,h.nil,h.wH,h.keys,h.uX⟩
theorem LM {n m ng pre rZ t B}:(sA n m ng pre rZ t).ok B:=⟨.nil,.nil,fun _=>rfl,bM _,⟨fun _ h=>(by cases h),.nil⟩,bM _⟩
theorem NR.adp {r:NR} {m l b ad cp Hs B} (h:Own 131 1 (.slice ad 1 cp) 1 [Pt b 0] Hs) (hB:1<=B):(r.top m l [b] ad cp Hs).ok B:=⟨.nil,h,fun h=>(by cases h),bM _,⟨fun _ h=>(by cases h),.nil⟩,hB⟩
theorem NR.ads {r:NR} {m l b b2 ad cp Hs B} (h:Own 131 1 (.slice ad 2 cp) 2 [Pt b 0,Pt b2 0] Hs) (hB:2<=B):(r.top m l [b,b2] ad cp Hs).ok B:=⟨.nil,h,fun h=>(by cases h),bM _,⟨fun _ h=>(by cases h),.nil⟩,hB⟩
theorem BQ.ok {t b r r'} {B:Nat} (a:BQ t b r r') (h:r.ok B):r'.ok (B+1):=by
 cases a with
 |st e ho=>exact⟨h.hm,by simpa using ho,fun h=>(by simp at h),cz h.wH,h.keys,by have:=h.uX;simp;omega⟩
 |ng e=>exact⟨h.hm,h.hs,h.nil,cz h.wH,h.keys,cz h.uX⟩
 |any e=>exact⟨h.hm,h.hs,h.nil,cz h.wH,h.keys,cz h.uX⟩
theorem NR.Gn {r:NR} {hp np pp}:(r.po hp np pp).n =r.n:=by unfold NR.po;split<;>rfl
theorem NR.LN {r:NR} {hp np pp}:(r.po hp np pp).m =r.m:=by unfold NR.po;split<;>rfl
theorem NR.LO {r:NR} {hp np pp}:(r.po hp np pp).Hs =r.Hs:=by unfold NR.po;split<;>rfl
theorem NR.V2 {r:NR} {hp np}:(r.pn hp np).n =r.n:=by unfold NR.pn;split<;>rfl
theorem NR.adt {r:NR} {hp np}:(r.pn hp np).m =r.m:=by unfold NR.pn;split<;>rfl
theorem NR.adu {r:NR} {hp np}:(r.pn hp np).Hs =r.Hs:=by unfold NR.pn;split<;>rfl
theorem sy.n {h hp bx r r'} (a:sy h hp bx r r'):r'.n=r.n:=by
 rcases a with⟨_,rfl⟩|⟨_,a⟩
 ·rfl
 exact a.n
theorem sy.m {h hp bx r r'} (a:sy h hp bx r r'):r'.m=r.m:=by
 rcases a with⟨_,rfl⟩|⟨_,a⟩
 ·rfl
 exact a.m
theorem sy.Hs {h hp bx r r'} (a:sy h hp bx r r'):r'.Hs=r.Hs:=by
 rcases a with⟨_,rfl⟩|⟨_,a⟩
 ·rfl
 exact a.Hs
theorem adz {S b} {r:NR}:(r.nR S b).n =r.n:=by unfold NR.nR;split<;>rfl
theorem BU {r:NR} {x:Bool} (h:x=(r.kids.isEmpty&&r.mV.isNone&&r.mP.isNone)):rC r.row 11 (.bool x)=r.oP.row:=by subst h;rfl
def qB (n m:Nat) (r:NR) (Q:SH):SH:=Rx n r.row 141::Rx m r.mr 150::(r.Hm++Q)
theorem LP {hE a b z:oJ} {r:NR} {T T0:List NR} (hT:T.Perm (r::T0)):(hE::a::b::z::mI T).Perm (hE::qB r.n r.m r (a::b::z::(r.Hs++mI T0))):=
 .cons _ ((((PA hT).cons z).cons b|>.cons a).trans (V0 a b z r T0))
theorem LQ {hE a b z:oJ} {n m:Nat} {Hs:SH} {r:NR} {T0:List NR} (e1:r.n=n) (e2:r.m=m) (e3:r.Hs=Hs):(hE::qB n m r (a::b::z::(Hs++mI T0))).Perm (hE::a::b::z::mI (r::T0)):=by
 subst e1;subst e2;subst e3;exact .cons _ (V0 a b z r T0).symm
section
variable {c:Cx} {n:Nat} {k:List Item} {fr:SF} {H:SH} {ops:Array Oper} {rest:List Oper} {ty:TypeId} {pos:String} {mG:Array Edge}
theorem ke (r:NR) {B h:Nat} {hp:Option Nat} {bx pp:List UInt8} {pad:Option Addr} {np mR:Nat} {Q:SH} {x y z:Operand} {pj:Array TypeId} {d:Nat} (ho:r.ok B) (hB:B<1000000) (py:bx.length<=1000) (hhp:hp.isSome=true)
  (hx:ev fr x=some (Pt r.n 0)) (hy:ev fr y=some (S bx)) (hz:ev fr z=some (Pt h 0)) (hd:Nat.blt d n=true)
  (hk:∀r',xH h bx r r'->G Tryd.prog c n k ops rest ((d,.tuple #[])::fr) (nT h hp pp pad np mR::qB r.n r.m r' Q)):
  G Tryd.prog c n k ops (⟨some d,.call ⟨.value (.func 85), #[x,y,z],pj⟩,ty,pos,mG,none⟩::rest) fr (nT h hp pp pad np mR::qB r.n r.m r Q):=by
 obtain⟨hh,rfl⟩:=b7.1 hhp
 have tf:(nT h (some hh) pp pad np mR::qB r.n r.m r Q).Perm ((Rx r.n r.row 141::Rx r.m r.mr 150::r.Hm)++(nT h (some hh) pp pad np mR::Q)):=
  (bG (l₁:=Rx r.n r.row 141::Rx r.m r.mr 150::r.Hm)).symm
 refine jo (fun v H1=>v=.tuple #[]/\∃r',xH h bx r r'/\H1=(Rx r.n r'.row 141)::Rx r.m r'.mr 150::r'.Hm) tf ?_ Tryd.call85 (vs:=[Pt r.n 0,S bx,Pt h 0]) (xs:=[x,y,z]) (by simp[rN,hx,hy,hz]) hd ?_ ?_
 ·intro e he;simp only[af] at he;rcases he with rfl|rfl|he
  ·rfl
  ·rfl
  exact ho.hm.w e he
 ·intro w hw um;obtain⟨k1,k2⟩:=um (nT h (some hh) pp pad np mR) (.head _)
  have yv:w.cell? ⟨h,0,none⟩=some (Pt hh 0):=by
   simp only[nT,oe.den] at k1;simp[World.cell?,k1,PO]
  refine(adm w _ r.n r.m h hh r.row r.f r.mp r.kv r.nH bx r.Hm hw ho.hm rfl rfl rfl yv k2 ho.keys.1 py (Nat.lt_of_le_of_lt ho.wH hB)).mono fun e w' ⟨h1,H',h2,h3⟩=>?_
  cases h2 with
  |nf e=>exact⟨_,_,h1,by
    intro e he;simp only[af] at he;rcases he with rfl|rfl|he
    ·rfl
    ·rfl
    exact ho.hm.w e he,h3,rfl,_,.nf e,rfl⟩
  |mk e m1 m2=>exact⟨_,_,h1,by
    intro e he;simp only[af] at he;rcases he with rfl|rfl|he
    ·rfl
    ·rfl
    exact m1.w e he,h3,rfl,_,.mk e m1 m2,rfl⟩
 rintro v H1 ⟨rfl,r',h1,rfl⟩;refine jb (fun w hw=>hw.perm ?_) (hk r' h1);exact bG (l₁:=Rx r.n r'.row 141::Rx r.m r'.mr 150::r'.Hm)
theorem jV {P:Program} {t:TypeId} {x y:Operand} {l l':List UInt8} {i:Nat} {kd:IntKind} (hU:P.underlying t=some .string) (hx:ev fr x=some (S l)) (hy:ev fr y=some (.int kd (i:Int))) (hi:i<=l.length) (e:l.drop i=l'):nB P c n (.slice t x (some y) none none) ty fr H (S l'):=
 e▸iX hU hx hy hi
theorem jZ {P:Program} {t:TypeId} {x z:Operand} {l l':List UInt8} {j:Nat} {kd:IntKind} (hU:P.underlying t=some .string) (hx:ev fr x=some (S l)) (hz:ev fr z=some (.int kd (j:Int))) (hj:j<=l.length) (e:l.take j=l'):nB P c n (.slice t x none (some z) none) ty fr H (S l'):=
 e▸jm hU hx hz hj
end
theorem Jl {T T0:List NR} {r:NR} (hp:T.Perm (r::T0)) (nj:(T.map NR.n).Nodup):∀x∈T0,x.n≠r.n:=by
 have:=(hp.map NR.n).nodup_iff.1 nj;rw[aX,bf] at this;exact fun x hx e=>this.1 (aZ.2 ⟨x,hx,e⟩)
theorem adB {T0:List NR} {S:List Nat} {b:Nat} {rc:NR} (nj:(T0.map NR.n).Nodup) (h:rc∈T0):∃rest row,(mI (T0.map (NR.nR S b))).Perm (Rx rc.n row 141::rest)/\(nth row 1).isSome =true/\
  (Rx rc.n (rC row 1 (Pt b 0)) 141::rest:SH).Perm (mI (T0.map (NR.nR (S++[rc.n]) b))):=by
 obtain⟨T1,hT⟩:=Nf h;have mW:=Jl hT nj;refine⟨(rc.nR S b).eM ::((rc.nR S b).Hm ++(rc.nR S b).Hs)++mI (T1.map (NR.nR S b)),(rc.nR S b).row,?_,rfl,?_⟩
 ·refine(PA (hT.map _)).trans (.of_eq ?_);rw[aX,Jk,NR.mI,NR.eN,adz];rfl
 refine List.Perm.trans (.of_eq ?_) (PA (hT.map _)).symm
 have h1:T1.map (NR.nR (S++[rc.n]) b)=T1.map (NR.nR S b):=fJ fun x hx=>by
  have:=mW x hx;simp[NR.nR,this]
 have h2:rc.nR (S++[rc.n]) b={rc with ng:=some b}:=by simp[NR.nR]
 rw[aX,Jk,h1,h2];have h3:rC (rc.nR S b).row 1 (Pt b 0)=NR.row {rc with ng:=some b}:=by unfold NR.nR;split<;>rfl
 have h4:(rc.nR S b).eM =NR.eM {rc with ng:=some b}:=by unfold NR.nR;split<;>rfl
 have h5:(rc.nR S b).Hm =rc.Hm:=by unfold NR.nR;split<;>rfl
 have h6:(rc.nR S b).Hs =rc.Hs:=by unfold NR.nR;split<;>rfl
 rw[h3,h4,h5,h6];rfl
theorem kQ {P:Program} {c:Cx} {n:Nat} {k:List Item} {fr:SF} {H:SH} {ops:Array Oper} {rest:List Oper} {ty:TypeId} {pos:String} {mG:Array Edge}
  {t:TypeId} {x y:Operand} {X:SH} {T0:List NR} {S:List Nat} {b a:Nat} {rc:NR} (hs:∀w,(Go.sizeOf t).run P w=.ok 1 w) (hx:ev fr x=some (Pt a 1)) (hy:ev fr y=some (Pt b 0))
  (nj:(T0.map NR.n).Nodup) (h:rc∈T0) (ha:rc.n=a) (hH:H=X++mI (T0.map (NR.nR S b)))
  (hk:G P c n k ops rest fr (X++mI (T0.map (NR.nR (S++[a]) b)))):G P c n k ops (⟨none,.store t x y,ty,pos,mG,none⟩::rest) fr H:=by
 subst hH;subst ha;obtain⟨V3,row,h1,h2,h3⟩:=adB (S:=S) (b:=b) nj h;refine jb (H':=Rx rc.n row 141::(X++V3)) (fun w hw=>hw.perm ?_) ?_
 ·exact(List.Perm.append_left X h1).trans bG
 refine gO hs hx hy rfl .z h2 rfl<|jb (fun w hw=>HF.perm (H:=Rx rc.n (rC row 1 (Pt b 0)) 141::(X++V3)) hw ?_) hk;exact bG.symm.trans (List.Perm.append_left X h3)
theorem Dp {f:Nat->Option Nat} {mp nH} {i:Nat} (hi:i<11):nth (sE f mp nH) i=some (PO (f i)):=by
 match i,hi with
 |0,_|1,_|2,_|3,_|4,_|5,_|6,_|7,_|8,_|9,_|10,_=>rfl
theorem adC {r:NR} {b l:Nat} {x:UInt8} {xs:List UInt8} (hx:r.pre.drop l=x::xs) (PF:r.ad.isNone=r.kids.isEmpty):
  [Pt r.m 0,PO (some r.n),PO r.mV,PO r.mP,PO r.nf,S (x::xs),S r.rZ,.slice r.ad r.kids.length r.cp,I r.pc,.int .u8 (x.toNat:Int),.int .u8 (r.kd:Int),.bool (r.ad.isNone&&r.mV.isNone&&r.mP.isNone),.bool (re r.f r.kv)]=(r.low b l).row :=by
 simp[NR.row,NR.low,Nv,hx,PF]
theorem NR.ok.arr {B:Nat} {r:NR} (h:r.ok B) {j:Nat} (hj:j<r.kids.length):∃ab spare,r.ad=some ⟨ab,0,none⟩/\r.Hs=[Rx ab (r.kids.map (Pt · 0)++spare) 131]:=by
 have hs:=h.hs;generalize hv:Value.slice r.ad r.kids.length r.cp=v at hs;generalize hn:r.kids.length=n at hs hv hj;generalize hx:r.kids.map (Pt · 0)=xs at hs;generalize hq:r.Hs=Hs at hs
 cases hs with
 |nil=>omega
 |row _ _ _=>
  simp only[Value.slice.injEq] at hv;exact⟨_,_,hv.1,rfl⟩
theorem PG {r:NR} {n m:Nat} {Hs:SH} {T:List NR} (e1:r.n=n) (e2:r.m=m) (e3:r.Hs=Hs):mI (r::T)=(Rx n r.row 141)::Rx m r.mr 150::(r.Hm++(Hs++mI T)):=by
 subst e1;subst e2;subst e3;simp[Jk,NR.mI,NR.eN,NR.eM]
theorem kR (r:NR) {c:Cx} {n:Nat} {k:List Item} {fr:SF} {H:SH} {ops:Array Oper} {rest:List Oper} {ty:TypeId} {pos:String} {mG:Array Edge}
  {B ch:Nat} {Q:SH} {x y:Operand} {pj:Array TypeId} {d:Nat} (ho:r.ok B) (hB:B<1000000)
  (hp:H.Perm ((Rx r.n r.row 141::r.Hs)++Q)) (hx:ev fr x=some (Pt r.n 0)) (hy:ev fr y=some (Pt ch 0)) (hd:Nat.blt d n=true)
  (hk:∀ad cp Hs,Own 131 1 (.slice ad (r.kids.length+1) cp) (r.kids.length+1) (r.kids.map (Pt · 0)++[Pt ch 0]) Hs->
   G Tryd.prog c n k ops rest ((d,.tuple #[])::fr) ((Rx r.n ({r with kids:=r.kids++[ch],ad,cp,Hs}:NR).row 141::Hs)++Q)):
  G Tryd.prog c n k ops (⟨some d,.call ⟨.value (.func 87), #[x,y],pj⟩,ty,pos,mG,none⟩::rest) fr H:=by
 refine jo (fun v H1=>v=.tuple #[]/\∃ad cp Hs,Own 131 1 (.slice ad (r.kids.length+1) cp) (r.kids.length+1) (r.kids.map (Pt · 0)++[Pt ch 0]) Hs/\H1=(Rx r.n ({r with kids:=r.kids++[ch],ad,cp,Hs}:NR).row 141)::Hs) hp ?_
  Tryd.call87 (vs:=[Pt r.n 0,Pt ch 0]) (xs:=[x,y]) (by simp[rN,hx,hy]) hd ?_ ?_
 ·intro e he;rcases af.1 he with rfl|he
  ·rfl
  exact ho.hs.w e he
 ·intro w hw _;refine(adg w _ r.n ch r.row (.slice r.ad r.kids.length r.cp) r.kids.length (r.kids.map (Pt · 0)) r.Hs hw rfl ho.hs (Nat.lt_of_le_of_lt ho.uX hB)).mono fun e w' ⟨h1,sC,nX,h2,h3⟩=>?_
  obtain⟨ad,cp,rfl⟩:=h2.slice;refine⟨_,_,h1,fun e he=>?_,h3,rfl,ad,cp,nX,h2,?_⟩
  ·rcases af.1 he with rfl|he
   ·rfl
   exact h2.w e he
  have:(r.kids++[ch]).length =r.kids.length+1:=by simp
  simp only[NR.row,this];rfl
 rintro v H1 ⟨rfl,ad,cp,Hs,h1,rfl⟩;exact hk ad cp Hs h1
theorem adD {kids:List Nat} {g:Nat->UInt8} {mV mP:Option Nat} {l:UInt8} {c:Nat} (h:wX (kids.map fun a=>(a,g a)) mV mP l=some c):c∈kids\/mV=some c\/mP=some c:=by
 unfold wX at h
 cases hf:(kids.map fun a=>(a,g a)).find? (fun p=>p.2==l) with
 |some p=>
  rw[hf] at h;simp only[bk] at h;obtain⟨a,ha,rfl⟩:=aZ.1 (eD hf)
  exact .inl (h▸ha)
 |none=>
  rw[hf] at h;simp only at h;split at h
  ·exact .inr (.inl h)
  split at h
  ·exact .inr (.inr h)
  cases h
end Bw
