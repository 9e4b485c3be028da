/- Lemmas of the walk and plain facts (JeV4 .. GtQ9). -/
import Derived.Test.YtmneeannkgnbpaaDoorL1
import Derived.Test.YtmneeannkgnbpaaDoorP26
import Derived.Test.YtmneeannkgnbpaaDoorP01
import Derived.Test.YtmneeannkgnbpaaDoorP17
set_option maxRecDepth 20000
namespace Bw
open Go Go.Proofs Go.Proofs.Ec
variable {α β:Type}
structure Kn (α:Type) where
 has:List Tok->Prop
 Qz:List Tok->Prop
 look:List UInt8->List Tok->Option α
inductive u4 (α:Type) where
 |nO (a:α) (vs:List (List UInt8))
 |o7 (p:List Tok) (vs:List (List UInt8))
inductive o8 (α:Type) where
 |stop (r:u4 α)
 |back (b:Option (List Tok))
def o8.then {α:Type} (o:o8 α) (k:Option (List Tok)->o8 α):o8 α:=
 match o with
 |.stop r=>.stop r
 |.back b=>k b
def u4.map {α β:Type} (f:α->β):u4 α->u4 β
 |.nO a vs=>.nO (f a) vs
 |.o7 p vs=>.o7 p vs
def o8.map {α β:Type} (f:α->β):o8 α->o8 β
 |.stop r=>.stop (r.map f)
 |.back b=>.back b
def Kn.map {α β:Type} (f:α->β) (K:Kn α):Kn β:=⟨K.has,K.Qz,fun m p=>(K.look m p).map f⟩
def Kn.to {α:Type} (K:Kn α) (bx:List UInt8) (p:List Tok):Option α:=if bx=oo then none else K.look bx p
open Classical in
noncomputable def Kn.own {α:Type} (K:Kn α) (bx:List UInt8) (p:List Tok) (s:List UInt8) (vs:List (List UInt8)):Option (u4 α):=
 if s=[] then(if K.Qz p then(K.to bx p).map (u4.nO · vs) else(K.look oo p).map (u4.nO · vs)) else none
open Classical in
noncomputable def Kn.pK {α:Type} (K:Kn α) (p:List Tok) (s:List UInt8) (b:Option (List Tok)):Option (List Tok):=if s=[]/\K.Qz p/\b=none then some p else b
def Kn.leaf {α:Type} (K:Kn α) (p:List Tok):Prop:=¬∃t,K.has (p++[t])
open Classical in
noncomputable def Kn.cut {α:Type} (K:Kn α) (p:List Tok) (s:List UInt8):Nat:=if K.leaf p then s.length else qm s
open Classical in
noncomputable def Kn.any {α:Type} (K:Kn α) (bx:List UInt8) (p:List Tok) (s:List UInt8) (vs:List (List UInt8)) (b:Option (List Tok)):o8 α:=
 if K.has (p++[Tok.A]) then
  match K.to bx (p++[Tok.A]) with
  |some h=>.stop (.nO h (vs++[s]))
  |none=>match K.look oo (p++[Tok.A]) with
   |some h=>.stop (.nO h (vs++[s]))
   |none=>.stop (.o7 (b.getD (p++[Tok.A])) vs)
 else .back b
open Classical in
noncomputable def qU {α:Type} (K:Kn α) (bx:List UInt8):Nat->List Tok->List UInt8->List (List UInt8)->Option (List Tok)->o8 α
 |0,_,_,_,b=>.back b
 |f+1,p,s,vs,b=>
  match K.own bx p s vs with
  |some r=>.stop r
  |none=>
   (match s with
    |c::s'=>if K.has (p++[Tok.b c]) then qU K bx f (p++[Tok.b c]) s' vs (K.pK p s b) else .back (K.pK p s b)
    |[]=>.back (K.pK p s b)).then fun b1=>
   (if s≠[]/\K.has (p++[Tok.P]) then qU K bx f (p++[Tok.P]) (s.drop (K.cut (p++[Tok.P]) s)) (vs++[s.take (K.cut (p++[Tok.P]) s)]) b1 else .back b1).then fun b2=>
   K.any bx p s vs b2
open Classical in
theorem Mo (K:Kn α) (bx:List UInt8) (f:Nat) (p:List Tok) (s:List UInt8) (vs:List (List UInt8)) (b:Option (List Tok)):qU K bx (f+1) p s vs b=
  match K.own bx p s vs with
  |some r=>.stop r
  |none=>
   (match s with
    |c::s'=>if K.has (p++[Tok.b c]) then qU K bx f (p++[Tok.b c]) s' vs (K.pK p s b) else .back (K.pK p s b)
    |[]=>.back (K.pK p s b)).then fun b1=>
   (if s≠[]/\K.has (p++[Tok.P]) then qU K bx f (p++[Tok.P]) (s.drop (K.cut (p++[Tok.P]) s)) (vs++[s.take (K.cut (p++[Tok.P]) s)]) b1 else .back b1).then fun b2=>
   K.any bx p s vs b2:=rfl
open Classical in
noncomputable def Kn.text {α:Type} (K:Kn α) (g:List Tok->List UInt8->o8 α) (p:List Tok) (s:List UInt8) (b:Option (List Tok)):o8 α:=
 match s with
 |c::s'=>if K.has (p++[Tok.b c]) then g (p++[Tok.b c]) s' else .back b
 |[]=>.back b
open Classical in
noncomputable def Kn.ng {α:Type} (K:Kn α) (g:List Tok->List UInt8->List UInt8->o8 α) (p:List Tok) (s:List UInt8) (b:Option (List Tok)):o8 α:=
 if s≠[]/\K.has (p++[Tok.P]) then g (p++[Tok.P]) (s.drop (K.cut (p++[Tok.P]) s)) (s.take (K.cut (p++[Tok.P]) s)) else .back b
theorem Ai (K:Kn α) (bx:List UInt8) (f:Nat) (p:List Tok) (s:List UInt8) (vs:List (List UInt8)) (b:Option (List Tok)):qU K bx (f+1) p s vs b=
  match K.own bx p s vs with
  |some r=>.stop r
  |none=>(K.text (fun p' s'=>qU K bx f p' s' vs (K.pK p s b)) p s (K.pK p s b)).then fun b1=>
   (K.ng (fun p' s' v=>qU K bx f p' s' (vs++[v]) b1) p s b1).then fun b2=>K.any bx p s vs b2:=by
 rw[Mo];cases s<;>rfl
theorem o8.afK {f:α->β} {o:o8 α} {k:Option (List Tok)->o8 α}:(o.then k).map f=(o.map f).then fun b=>(k b).map f:=by
 cases o<;>rfl
theorem QA {f:α->β} {c:Prop} [Decidable c] {x y:o8 α}:(if c then x else y).map f=if c then x.map f else y.map f:=by split<;>rfl
open Classical in
theorem Kn.afL (f:α->β) (K:Kn α) (bx:List UInt8) (p:List Tok) (s:List UInt8) (vs:List (List UInt8)):(K.map f).own bx p s vs=(K.own bx p s vs).map (u4.map f):=by
 unfold Kn.own Kn.to Kn.map;simp only;split
 ·split
  ·split
   ·rfl
   cases K.look bx p<;>rfl
  cases K.look oo p<;>rfl
 rfl
open Classical in
theorem Kn.any_map (f:α->β) (K:Kn α) (bx:List UInt8) (p:List Tok) (s:List UInt8) (vs:List (List UInt8)) (b:Option (List Tok)):(K.map f).any bx p s vs b=(K.any bx p s vs b).map f:=by
 unfold Kn.any;rw[QA];simp only[Kn.to,Kn.map];congr 1;by_cases hm:bx=oo
 ·simp only[hm,if_true];cases K.look oo (p++[Tok.A])<;>rfl
 simp only[hm,if_false]
 cases K.look bx (p++[Tok.A]) with
 |some a=>rfl
 |none=>cases K.look oo (p++[Tok.A])<;>rfl
open Classical in
theorem QB (f:α->β) (K:Kn α) (bx:List UInt8):∀n p s vs b,qU (K.map f) bx n p s vs b=(qU K bx n p s vs b).map f
 |0,_,_,_,_=>rfl
 |n+1,p,s,vs,b=>by
  rw[Mo,Mo,Kn.afL]
  cases K.own bx p s vs with
  |some r=>rfl
  |none=>
   simp only[Option.map_none,o8.afK];congr 1
   ·cases s with
    |nil=>rfl
    |cons c s'=>simp only[QA];rw[QB f K bx n];rfl
   funext b1;rw[QA];congr 1
   ·rw[QB f K bx n];rfl
   funext b2;exact Kn.any_map f K bx p s vs b2
def u4.Mp {α:Type} (f:α->Nat):u4 α->VR
 |.nO a vs=>.nO (f a) vs
 |.o7 p vs=>.o7 p vs
def o8.xL {α:Type} (f:α->Nat):o8 α->VO
 |.stop r=>.stop (r.Mp f)
 |.back b=>.back b
def u5 {α:Type} (tk:α->List Tok) (m:α->List UInt8):List α->List UInt8->List Tok->Option α
 |[],_,_=>none
 |a::l,m',p=>if tk a=p/\m a=m' then some a else u5 tk m l m' p
def om {α:Type} (tk:α->List Tok) (m:α->List UInt8) (l:List α):Kn α:=⟨fun p=>∃a∈l,p<+:tk a,fun p=>∃a∈l,tk a=p/\m a≠oo,u5 tk m l⟩
theorem Xb {tk:α->List Tok} {m:α->List UInt8} {DF:β->List Tok} {m':β->List UInt8} (f:α->β) (h1:∀a,DF (f a)=tk a) (h2:∀a,m' (f a)=m a) (x:List UInt8) (p:List Tok):∀l,u5 DF m' (l.map f) x p=(u5 tk m l x p).map f
 |[]=>rfl
 |a::l=>by
  simp only[aX,u5,h1,h2];split
  ·rfl
  exact Xb f h1 h2 x p l
theorem afM {tk:α->List Tok} {m:α->List UInt8} {DF:β->List Tok} {m':β->List UInt8} (f:α->β) (h1:∀a,DF (f a)=tk a) (h2:∀a,m' (f a)=m a) (l:List α):om DF m' (l.map f)=(om tk m l).map f:=by
 unfold om Kn.map;congr 1
 ·funext p;exact propext ⟨fun⟨b,hb,hp⟩=>by obtain⟨a,ha,rfl⟩:=aZ.1 hb;exact⟨a,ha,by rw[<-h1];exact hp⟩,fun⟨a,ha,hp⟩=>⟨f a,aZ.2 ⟨a,ha,rfl⟩,by rw[h1];exact hp⟩⟩
 ·funext p;exact propext ⟨fun⟨b,hb,hp,hm⟩=>by obtain⟨a,ha,rfl⟩:=aZ.1 hb;exact⟨a,ha,by rw[<-h1];exact hp,by rw[<-h2];exact hm⟩,fun⟨a,ha,hp,hm⟩=>⟨f a,aZ.2 ⟨a,ha,rfl⟩,by rw[h1];exact hp,by rw[h2];exact hm⟩⟩
 funext x p;exact Xb f h1 h2 x p l
theorem JR {tk:α->List Tok} {m:α->List UInt8} {x:List UInt8} {p:List Tok} {a:α}:∀{l:List α},u5 tk m l x p=some a->a∈l/\tk a=p/\m a=x
 |[],h=>by cases h
 |b::l,h=>by
  simp only[u5] at h;split at h
  ·rename_i hc;simp only[bk] at h;subst h;exact⟨.head _,hc⟩
  obtain⟨h1,h2⟩:=JR h;exact⟨.tail _ h1,h2⟩
theorem QC {tk:α->List Tok} {m:α->List UInt8} {x:List UInt8} {p:List Tok}:∀{l:List α},u5 tk m l x p=none<->∀a∈l,¬(tk a=p/\m a=x)
 |[]=>by simp[u5]
 |b::l=>by
  simp only[u5];split
  ·rename_i hc;constructor
   ·intro h;cases h
   intro h;exact absurd hc (h b (.head _))
  rename_i hc;rw[QC (l:=l)];exact⟨fun h a ha=>(af.1 ha).elim (fun e=>e▸hc) (h a),fun h a ha=>h a (.tail _ ha)⟩
theorem Mq (L:List Rt) (m:List UInt8) (p:List Tok):uF L m p=(u5 Rt.tk (fun r=>r.rb.m) L m p).map Rt.h:=by
 induction L with
 |nil=>rfl
 |cons r L ih=>
  simp only[uF,u5];split
  ·rfl
  exact ih
noncomputable def KR (L:List Rt):Kn Rt:=om Rt.tk (fun r=>r.rb.m) L
theorem o8.afN {f:α->Nat} {o:o8 α} {k:Option (List Tok)->o8 α}:(o.then k).xL f=(o.xL f).then fun b=>(k b).xL f:=by
 cases o<;>rfl
theorem QD {f:α->Nat} {c:Prop} [Decidable c] {x y:o8 α}:(if c then x else y).xL f=if c then x.xL f else y.xL f:=by split<;>rfl
open Classical in
theorem QE (L:List Rt) (bx:List UInt8):∀n p s vs b,wN L bx n p s vs b=(qU (KR L) bx n p s vs b).xL Rt.h
 |0,_,_,_,_=>rfl
 |n+1,p,s,vs,b=>by
  have QF:∀m p,uF L m p=((KR L).look m p).map Rt.h:=fun m p=>Mq L m p
  have Xc:∀p,to L bx p=((KR L).to bx p).map Rt.h:=fun p=>by
   unfold to Kn.to;split
   ·rfl
   exact QF _ _
  have nx:own L bx p s vs=((KR L).own bx p s vs).map (u4.Mp Rt.h):=by
   unfold own Kn.own;split
   ·rw[Xc,QF];show(if Cb L p then _ else _)=Option.map _ (if Cb L p then _ else _);split
    ·cases (KR L).to bx p<;>rfl
    cases (KR L).look oo p<;>rfl
   rfl
  rw[Qu,Mo,nx]
  cases (KR L).own bx p s vs with
  |some r=>rfl
  |none=>
   simp only[Option.map_none,o8.afN];congr 1
   ·cases s with
    |nil=>rfl
    |cons c s'=>
     simp only[QD];rw[QE L bx n];rfl
   funext b1;rw[QD];congr 1
   ·rw[QE L bx n];rfl
   funext b2;unfold Kn.any;rw[QD,Xc,QF];show(if Has L _ then _ else _)=(if Has L _ then _ else _);congr 1
   cases (KR L).to bx (p++[Tok.A]) with
   |some a=>rfl
   |none=>cases (KR L).look oo (p++[Tok.A])<;>rfl
def fill:List Tok->List (List UInt8)->List UInt8
 |[],_=>[]
 |.b c::u,ws=>c::fill u ws
 |_::u,[]=>fill u []
 |_::u,w::ws=>w++fill u ws
theorem Kn.afO {K:Kn α} {bx:List UInt8} {p:List Tok} {a:α} (h:K.to bx p=some a):bx≠oo/\K.look bx p=some a:=by
 unfold Kn.to at h;split at h
 ·cases h
 rename_i hm;exact⟨hm,h⟩
open Classical in
theorem QG {tk:α->List Tok} {m:α->List UInt8} {l:List α} {bx:List UInt8}:∀(f:Nat) (p:List Tok) (s:List UInt8) (vs:List (List UInt8)) (b:Option (List Tok)) (a:α) (sM:List (List UInt8)),
  qU (om tk m l) bx f p s vs b=.stop (.nO a sM)->a∈l/\(m a=bx/\bx≠oo\/m a=oo)/\∃u ws,tk a=p++u/\sM=vs++ws/\ws.length=ny u/\fill u ws=s
 |0,_,_,_,_,_,_,h=>by cases h
 |f+1,p,s,vs,b,a,sM,h=>by
  have l1:∀{q},(om tk m l).to bx q=some a->a∈l/\(m a=bx/\bx≠oo\/m a=oo)/\tk a=q:=fun h=>by
   obtain⟨h1,h2⟩:=Kn.afO h;obtain⟨h3,h4,h5⟩:=JR h2;exact⟨h3,.inl ⟨h5,h1⟩,h4⟩
  have l2:∀{q},(om tk m l).look oo q=some a->a∈l/\(m a=bx/\bx≠oo\/m a=oo)/\tk a=q:=fun h=>by
   obtain⟨h3,h4,h5⟩:=JR h;exact⟨h3,.inr h5,h4⟩
  have fin:∀{q u w},a∈l/\(m a=bx/\bx≠oo\/m a=oo)/\tk a=q->q=p++u->sM=vs++w->w.length=ny u->fill u w=s->a∈l/\(m a=bx/\bx≠oo\/m a=oo)/\∃u ws,tk a=p++u/\sM=vs++ws/\ws.length=ny u/\fill u ws=s:=
   fun h h1 h2 h3 h4=>⟨h.1,h.2.1,_,_,h.2.2.trans h1,h2,h3,h4⟩
  rw[Ai] at h
  cases ho:(om tk m l).own bx p s vs with
  |some r=>
   rw[ho] at h;simp only[o8.stop.injEq] at h;subst h;unfold Kn.own at ho;split at ho
   ·rename_i hs;subst hs;split at ho
    ·obtain⟨x,h1,h2⟩:=aN.1 ho;simp only[u4.nO.injEq] at h2;obtain⟨rfl,rfl⟩:=h2;exact fin (u:=[]) (w:=[]) (l1 h1) (by simp) (by simp) rfl rfl
    obtain⟨x,h1,h2⟩:=aN.1 ho;simp only[u4.nO.injEq] at h2;obtain⟨rfl,rfl⟩:=h2;exact fin (u:=[]) (w:=[]) (l2 h1) (by simp) (by simp) rfl rfl
   cases ho
  |none=>
   rw[ho] at h;simp only at h
   cases ht:(om tk m l).text (fun p' s'=>qU (om tk m l) bx f p' s' vs ((om tk m l).pK p s b)) p s ((om tk m l).pK p s b) with
   |stop r=>
    rw[ht] at h;simp only[o8.then,o8.stop.injEq] at h;subst h
    cases s with
    |nil=>cases ht
    |cons c s'=>
     simp only[Kn.text] at ht;split at ht
     ·obtain⟨h1,h2,u,ws,h3,h4,h5,h6⟩:=QG f _ _ _ _ _ _ ht;exact⟨h1,h2,.b c::u,ws,by rw[h3];simp,h4,h5,by rw[fill,h6]⟩
     cases ht
   |back b1=>
    rw[ht] at h;simp only[o8.then] at h
    cases sq:(om tk m l).ng (fun p' s' v=>qU (om tk m l) bx f p' s' (vs++[v]) b1) p s b1 with
    |stop r=>
     rw[sq] at h;simp only[o8.stop.injEq] at h;subst h;unfold Kn.ng at sq;split at sq
     ·obtain⟨h1,h2,u,ws,h3,h4,h5,h6⟩:=QG f _ _ _ _ _ _ sq;refine⟨h1,h2,.P ::u,s.take ((om tk m l).cut (p++[Tok.P]) s)::ws,by rw[h3];simp,by rw[h4];simp,?_,?_⟩
      ·show ws.length+1=ny (.P ::u);rw[show Tok.P::u=[Tok.P]++u from rfl,BW,h5];simp[ny];omega
      show s.take ((om tk m l).cut (p++[Tok.P]) s)++fill u ws=s;rw[h6];exact a8 _ _
     cases sq
    |back b2=>
     rw[sq] at h;simp only at h;unfold Kn.any at h;split at h
     ·cases h1:(om tk m l).to bx (p++[Tok.A]) with
      |some x=>
       rw[h1] at h;simp only[o8.stop.injEq,u4.nO.injEq] at h;obtain⟨rfl,rfl⟩:=h
       exact fin (u:=[.A]) (w:=[s]) (l1 h1) rfl rfl rfl (by simp[fill])
      |none=>
       rw[h1] at h;simp only at h
       cases h2:(om tk m l).look oo (p++[Tok.A]) with
       |some x=>
        rw[h2] at h;simp only[o8.stop.injEq,u4.nO.injEq] at h;obtain⟨rfl,rfl⟩:=h
        exact fin (u:=[.A]) (w:=[s]) (l2 h2) rfl rfl rfl (by simp[fill])
       |none=>rw[h2] at h;simp only[o8.stop.injEq] at h;cases h
     cases h
def DG (k:RB×Nat):List Tok:=(nh k.1.p none).1
def mk' (k:RB×Nat):List UInt8:=k.1.m
noncomputable def KS (Rs:List RB):Kn (RB×Nat):=om DG mk' Rs.zipIdx.reverse
def afP {α:Type} (K:Kn α) (p:List Tok) (al:List UInt8):Prop:=
 ∃ms:List (List UInt8),ms.Nodup/\(∀x,x∈ms<->x≠oo/\x≠Dk/\(K.look x p).isSome =true)/\al=Dk++ms.flatMap fun k=>[44,32]++k
inductive Aj (Rs:List RB) (bx:List UInt8):o8 (RB×Nat)->Int->List UInt8->List (List UInt8)->List (List UInt8)->List UInt8->Prop
 |nO {rb n vs} (h:Rs[n]? =some rb) (hl:vs.length=(nh rb.p none).2.length):Aj Rs bx (.stop (.nO (rb,n) vs)) (n:Nat) rb.p (nh rb.p none).2 vs []
 |xK {o pl vs rb n} (ho:o=.stop (.o7 pl vs)\/o=.back (some pl)/\vs=[]) (hl:(KS Rs).look oo pl=some (rb,n)) (h:Rs[n]? =some rb) (hn:rb.m=oo):
   Aj Rs bx o (n:Nat) rb.p (nh rb.p none).2 ((vs++List.replicate (nh rb.p none).2.length []).take (nh rb.p none).2.length) []
 |o7 {o pl vs p al} (ho:o=.stop (.o7 pl vs)\/o=.back (some pl)/\vs=[]) (hl:(KS Rs).look oo pl=none) (ha:afP (KS Rs) pl al):Aj Rs bx o (if bx=yC then-3 else-2) p [] [] al
 |none:Aj Rs bx (.back none) (-1) [] [] [] []
end Bw
namespace Bw
open Go Go.Proofs
def sm:List Tok->List UInt8->List (List UInt8)->Option (List (List UInt8))
 |[],s,vs=>if s=[] then some vs else none
 |.b c::u,s,vs=>match s with
  |c'::s'=>if c'=c then sm u s' vs else none
  |[]=>none
 |.P ::u,s,vs=>if qm s=0 then none else sm u (s.drop (qm s)) (vs++[s.take (qm s)])
 |.A ::_,_,_=>none
section
variable {α:Type} {tk:α->List Tok} {m:α->List UInt8} {l:List α} {bx:List UInt8}
def Quiet (tk:α->List Tok) (l:List α) (p:List Tok) (s:List UInt8):Prop:=
 (∀a∈l,∀(t:List UInt8) (u:List Tok) (s2:List UInt8),tk a=p++t.map Tok.b++.P ::u->s=t++s2->s2=[])/\∀a∈l,∀t:List UInt8,tk a=p++t.map Tok.b->s≠t
theorem Quiet.step {p:List Tok} {c:UInt8} {s:List UInt8} (h:Quiet tk l p (c::s)):Quiet tk l (p++[.b c]) s:=
 ⟨fun a ha t u s2 e1 e2=>h.1 a ha (c::t) u s2 (by rw[e1];simp) (by rw[e2];rfl),fun a ha t e1 e2=>h.2 a ha (c::t) (by rw[e1];simp) (by rw[e2])⟩
def GZ (tk:α->List Tok) (l:List α):List Tok->List Tok->List UInt8->Prop
 |_,[],_=>True
 |p,.b c::u,s=>GZ tk l (p++[.b c]) u (s.drop 1)
 |p,.P ::u,s=>(∀c s',s=c::s'->Quiet tk l (p++[.b c]) s')/\GZ tk l (p++[.P]) u (s.drop (qm s))
 |_,.A ::_,_=>True
variable (hm:∀a∈l,m a=bx) (pZ:bx≠oo) (hA:∀a∈l,Tok.A∉tk a)
include hA
theorem afQ {p:List Tok} {s:List UInt8} {vs:List (List UInt8)} {b:Option (List Tok)}:(om tk m l).any bx p s vs b=.back b:=by
 unfold Kn.any;rw[if_neg];rintro⟨a,ha,u,hu⟩;exact hA a ha (by rw[<-hu];simp)
omit hA
include hm pZ
theorem afR (q:List Tok):(om tk m l).look oo q=none:=QC.2 fun a ha h=>pZ (by rw[<-hm a ha,h.2])
include hA
theorem Xd:∀(f:Nat) (p:List Tok) (s:List UInt8) (vs:List (List UInt8)),Quiet tk l p s->qU (om tk m l) bx f p s vs none=.back none
 |0,_,_,_,_=>rfl
 |f+1,p,s,vs,h=>by
  have nx:(om tk m l).own bx p s vs=none:=by
   unfold Kn.own;by_cases hs:s=[]
   ·subst hs;rw[if_pos rfl,if_neg,afR hm pZ]
    ·rfl
    rintro⟨a,ha,e,_⟩;exact h.2 a ha [] (by rw[e];simp) rfl
   rw[if_neg hs]
  have tq:(om tk m l).pK p s none=none:=by
   unfold Kn.pK;rw[if_neg];rintro⟨rfl,⟨a,ha,e,_⟩,_⟩;exact h.2 a ha [] (by rw[e];simp) rfl
  rw[Ai,nx];simp only;rw[tq]
  have u6:(om tk m l).text (fun p' s'=>qU (om tk m l) bx f p' s' vs none) p s none=.back none:=by
   unfold Kn.text
   cases s with
   |nil=>rfl
   |cons c s'=>
    simp only;split
    ·exact Xd f _ _ _ h.step
    rfl
  have nQ:(om tk m l).ng (fun p' s' v=>qU (om tk m l) bx f p' s' (vs++[v]) none) p s none=.back none:=by
   unfold Kn.ng;rw[if_neg];rintro⟨hs,a,ha,hp⟩;obtain⟨u,hu⟩:=hp;exact hs (h.1 a ha [] u s (by rw[<-hu];simp) rfl)
  rw[u6];simp only[o8.then];rw[nQ];simp only;exact afQ hA
theorem QH (q4:∀a∈l,∀b∈l,tk a=tk b->a=b) {k0:α} (hk:k0∈l) {B:Nat} (hB:(tk k0).length <B):∀(u:List Tok) (f:Nat) (p:List Tok) (s:List UInt8) (vs sM:List (List UInt8)),B<=f+p.length->tk k0=p++u->sm u s vs=some sM->GZ tk l p u s->
  qU (om tk m l) bx f p s vs none=.stop (.nO k0 sM)
 |u,0,p,s,vs,sM,hf,hu,_,_=>by
  rw[hu,ax] at hB
  omega
 |[],f+1,p,s,vs,sM,_,hu,hs,_=>by
  rw[aS] at hu;unfold sm at hs;split at hs
  ·rename_i h0;subst h0;cases hs
   have yf:(om tk m l).look bx p=some k0:=by
    show u5 tk m l bx p=some k0
    cases h:u5 tk m l bx p with
    |none=>exact absurd ⟨hu,hm k0 hk⟩ (QC.1 h k0 hk)
    |some b=>
     obtain⟨h1,h2,_⟩:=JR h;rw[q4 b h1 k0 hk (h2.trans hu.symm)]
   have nx:(om tk m l).own bx p [] vs=some (.nO k0 vs):=by
    unfold Kn.own Kn.to;rw[if_pos rfl,if_pos ⟨k0,hk,hu,by rw[hm k0 hk];exact pZ⟩,if_neg pZ,yf];rfl
   rw[Ai,nx]
  cases hs
 |.b c::u,f+1,p,s,vs,sM,hf,hu,hs,ha=>by
  cases s with
  |nil=>cases hs
  |cons c' s'=>
   have Bt:c'=c/\sm u s' vs=some sM:=by
    by_cases h:c'=c
    ·subst h;exact⟨rfl,by simpa[sm] using hs⟩
    simp[sm,h] at hs
   obtain⟨Bt,mJ⟩:=Bt;subst Bt;have AW:tk k0=p++[.b c']++u:=by rw[hu];simp
   have nx:(om tk m l).own bx p (c'::s') vs=none:=by unfold Kn.own;rw[if_neg (by simp)]
   have tq:(om tk m l).pK p (c'::s') none=none:=by unfold Kn.pK;rw[if_neg (fun h=>by cases h.1)]
   rw[Ai,nx];simp only;rw[tq]
   have u6:(om tk m l).text (fun p' s'=>qU (om tk m l) bx f p' s' vs none) p (c'::s') none=.stop (.nO k0 sM):=by
    unfold Kn.text;simp only;rw[if_pos ⟨k0,hk,⟨u,AW.symm⟩⟩];exact QH q4 hk hB u f _ s' vs sM (by rw[ax,cX];omega) AW mJ ha
   rw[u6]
   rfl
 |.P ::u,f+1,p,s,vs,sM,hf,hu,hs,ha=>by
  have h0:qm s≠0/\sm u (s.drop (qm s)) (vs++[s.take (qm s)])=some sM:=by
   by_cases h:qm s=0
   ·simp[sm,h] at hs
   exact⟨h,by simpa[sm,h] using hs⟩
  obtain⟨h0,hs⟩:=h0
  cases s with
  |nil=>exact absurd rfl h0
  |cons c s'=>
   have AW:tk k0=p++[.P]++u:=by rw[hu];simp
   have nx:(om tk m l).own bx p (c::s') vs=none:=by unfold Kn.own;rw[if_neg (by simp)]
   have tq:(om tk m l).pK p (c::s') none=none:=by unfold Kn.pK;rw[if_neg (fun h=>by cases h.1)]
   rw[Ai,nx];simp only;rw[tq]
   have u6:(om tk m l).text (fun p' s'=>qU (om tk m l) bx f p' s' vs none) p (c::s') none=.back none:=by
    unfold Kn.text;simp only;split
    ·exact Xd hm pZ hA f _ _ _ (ha.1 c s' rfl)
    rfl
   have yP:(om tk m l).cut (p++[.P]) (c::s')=qm (c::s'):=by
    unfold Kn.cut;split
    ·rename_i hlf
     have QI:u=[]:=by
      cases u with
      |nil=>rfl
      |cons t u1=>exact absurd ⟨t,k0,hk,⟨u1,by rw[AW];simp⟩⟩ hlf
     subst QI;unfold sm at hs;split at hs
     ·rename_i h1;rw[ea] at h1;have:=GX (c::s');omega
     cases hs
    rfl
   have nQ:(om tk m l).ng (fun p' s' v=>qU (om tk m l) bx f p' s' (vs++[v]) none) p (c::s') none=.stop (.nO k0 sM):=by
    unfold Kn.ng;rw[if_pos ⟨by simp,k0,hk,⟨u,AW.symm⟩⟩,yP];exact QH q4 hk hB u f _ _ _ sM (by rw[ax,cX];omega) AW hs ha.2
   rw[u6];simp only[o8.then]
   rw[nQ]
 |.A ::u,f+1,p,s,vs,sM,_,_,hs,_=>by cases hs
end
end Bw
namespace Gt
open Gs Tr
def u7 (p:nz):List Tok:=if p.k.toNat=0 then bs p.nm else if p.k.toNat=1 then[.P p.nm] else[.A p.nm]
def oh (l:List nz):List Tok:=l.flatMap u7
theorem afT {p:nz} (h:p.k.toNat<=2):lg (u7 p)=wV p:=by
 unfold u7 wV;by_cases h0:p.k.toNat=0
 ·rw[if_pos h0,if_neg (by omega),if_neg (by omega),Fx];rfl
 rw[if_neg h0];by_cases h1:p.k.toNat=1
 ·rw[if_pos h1,if_pos h1];simp[lg]
 rw[if_neg h1,if_neg h1,if_pos (by omega)];simp[lg]
theorem E4:∀{l:List nz},(∀p∈l,p.k.toNat<=2)->lg (oh l)=nV l
 |[],_=>rfl
 |p::l,h=>by
  have e1:oh (p::l)=u7 p++oh l:=by simp[oh]
  have e2:nV (p::l)=wV p++nV l:=by simp[nV]
  rw[e1,e2,CI,afT (h p (.head _)),E4 fun q hq=>h q (.tail _ hq)]
theorem Clean.k2 {l:List nz} (h:Clean l):∀p∈l,p.k.toNat<=2:=fun p hp=>by
 obtain⟨j,hj⟩:=bY hp;exact(h.2.2.2 j p hj).2.1
theorem Xe {c:UInt8} (h:BG c):tD c/\c≠92:=by
 refine⟨⟨fun e=>h.1 (by rw[e];rfl),fun e=>h.2.1 (by rw[e];rfl)⟩,fun e=>h.2.2 (by rw[e];rfl)⟩
theorem Mr {c:UInt8} (h:vA c):c≠47/\c≠58/\c≠42/\c≠92:=by
 refine⟨fun e=>?_,fun e=>?_,fun e=>?_,fun e=>?_⟩<;>subst e<;>revert h<;>unfold vA<;>decide
theorem Xf {s:List UInt8} (h:Ez s):word s:=⟨h.2.1,fun c hc=>⟨(Mr (h.1 c hc)).1,(Mr (h.1 c hc)).2.1,(Mr (h.1 c hc)).2.2.1⟩⟩
theorem Xg:∀(t:List UInt8) (s:List Tok),(∀c∈t,tD c)->t≠[]->(Ok (t.getLast? ==some 47) s)->∀sl,Ok sl (bs t++s)
 |[],s,_,h,_=>absurd rfl h
 |[c],s,hp,_,hs=>fun sl=>by
  refine⟨hp c (.head _),?_⟩
  have e:([c].getLast? ==some 47)=(c==47):=by
   simp only[List.getLast?_singleton];by_cases h:c=47<;>simp[h]
  rw[e] at hs
  exact hs
 |c::d::t,s,hp,_,hs=>fun sl=>⟨hp c (.head _),Xg (d::t) s (fun x hx=>hp x (.tail _ hx)) (by simp) (by rw[List.getLast?_cons_cons] at hs;exact hs) _⟩
theorem afU {s:List Tok}:∀{b:Bool},b=true->Ok true s->Ok b s:=fun h hs=>h▸hs
theorem E5 {l:List nz} {j:Nat} {p:nz} (h:l[j]? =some p):l.drop j=p::l.drop (j+1):=by
 rw[bl (ae.1 h).1];congr 1;exact(ae.1 h).2
theorem Clean.ok {l:List nz} (h:Clean l):∀(n j:Nat),n+j=l.length->(j%2=0->∀sl,Ok sl (oh (l.drop j)))/\(j%2=1->Ok true (oh (l.drop j)))
 |0,j,hj=>by
  rw[bE (by omega)]
  exact⟨fun _ sl=>by cases sl<;>trivial,fun _=>trivial⟩
 |n+1,j,hj=>by
  obtain⟨p,hp⟩:∃p,l[j]? =some p:=gx (by omega);have pt:=h.2.2.2 j p hp;have ih:=Clean.ok h n (j+1) (by omega);have e1:oh (l.drop j)=u7 p++oh (l.drop (j+1)):=by rw[E5 hp];simp[oh]
  refine⟨fun h0=>?_,fun h0=>?_⟩
  ·have hk:p.k.toNat=0:=pt.1.2 h0;have ht:=pt.2.2.2.1 hk;have e2:u7 p=bs p.nm:=if_pos hk;rw[e1,e2];refine Xg _ _ (fun c hc=>(Xe (ht.2.2.2.2 c hc)).1) ht.1 ?_;by_cases hn:j+1<l.length
   ·obtain⟨q,hq⟩:=gx hn;have DH:=h.2.2.2 (j+1) q hq;have Ms:q.k.toNat≠0:=fun e=>by have:=DH.1.1 e;omega
    obtain⟨t,sq⟩:=(DH.2.2.2.2 Ms).2.1 p (by rw[dh];exact hp);refine afU ?_ (ih.2 (by omega));rw[<-sq,List.getLast?_append];rfl
   rw[bE (by omega)];cases (p.nm.getLast? ==some 47)<;>trivial
  have hk:p.k.toNat≠0:=fun e=>by have:=pt.1.1 e;omega
  have hw:=pt.2.2.2.2 hk;rw[e1];by_cases p6:p.k.toNat=1
  ·have e2:u7 p=[.P p.nm]:=by unfold u7;rw[if_neg hk,if_pos p6]
   rw[e2];refine⟨rfl,Xf hw.1,?_,ih.1 (by omega) false⟩;by_cases hn:j+1<l.length
   ·obtain⟨q,hq⟩:=gx hn;have DH:=h.2.2.2 (j+1) q hq;have Ms:q.k.toNat=0:=DH.1.2 (by omega);have tc:=(DH.2.2.2.1 Ms).2.2.2.1 (by omega);have e3:u7 q=bs q.nm:=if_pos Ms;have e4:oh (l.drop (j+1))=u7 q++oh (l.drop (j+1+1)):=by rw[E5 hq];simp[oh]
    refine .inr ?_;rw[e4,e3]
    cases Xh:q.nm with
    |nil=>rw[Xh] at tc;cases tc
    |cons c r=>rw[Xh] at tc;cases tc;exact⟨bs r++oh (l.drop (j+1+1)),rfl⟩
   rw[bE (by omega)];exact .inl rfl
  have e2:u7 p=[.A p.nm]:=by unfold u7;rw[if_neg hk,if_neg p6]
  have rj:=pt.2.2.1 (by have:=pt.2.1;omega);rw[e2,bE (by omega)];exact⟨rfl,Xf hw.1,rfl⟩
theorem Clean.E7 {l:List nz} (h:Clean l):Good (oh l):=by
 have h0:=(Clean.ok h l.length 0 (by omega)).1 rfl false;rw[dT] at h0;refine⟨h0,?_⟩;obtain⟨p,hp⟩:∃p,l[0]? =some p:=⟨_,ao (aU.2 h.1)⟩;obtain⟨hk,r,hr⟩:=h.2.2.1 p hp;have e1:oh (l.drop 0)=u7 p++oh (l.drop (0+1)):=by rw[E5 hp];simp[oh]
 have e2:u7 p=bs p.nm:=if_pos hk;rw[dT,e2,<-hr] at e1;exact⟨_,e1⟩
theorem Clean.part {l:List nz} (h:Clean l):∀p∈l,(∀c∈wV p,c≠92)/\(wV p).length <=101:=fun p hp=>by
 obtain⟨j,hj⟩:=bY hp;have pt:=h.2.2.2 j p hj;unfold wV;by_cases hk:p.k.toNat=0
 ·have ht:=pt.2.2.2.1 hk;rw[if_neg (by omega),if_neg (by omega),cv];exact⟨fun c hc=>(Xe (ht.2.2.2.2 c hc)).2,by omega⟩
 have hw:=(pt.2.2.2.2 hk).1;refine⟨fun c hc=>?_,?_⟩
 ·rcases aB.1 hc with hc|hc
  ·split at hc
   ·rw[aj.1 hc];decide
   split at hc
   ·rw[aj.1 hc];decide
   cases hc
  exact(Mr (hw.1 c hc)).2.2.2
 rw[ax];have:=hw.2.2;split
 ·simp;omega
 split<;>simp<;>omega
theorem Clean.lg {l:List nz} (h:Clean l):(nV l).length <=20000/\∀c∈nV l,c≠92:=by
 have key:∀m:List nz,(∀p∈m,p∈l)->(nV m).length <=101*m.length/\∀c∈nV m,c≠92:=by
  intro m
  induction m with
  |nil=>intro _;exact⟨by simp[nV],fun c hc=>by cases hc⟩
  |cons p m ih=>
   intro hm;obtain⟨h1,h2⟩:=ih fun q hq=>hm q (.tail _ hq)
   obtain⟨h3,h4⟩:=h.part p (hm p (.head _));have e2:nV (p::m)=wV p++nV m:=by simp[nV]
   rw[e2,ax,aI];exact⟨by omega,fun c hc=>(aB.1 hc).elim (h3 c) (h2 c)⟩
 obtain⟨h1,h2⟩:=key l fun p hp=>hp
 have:=h.2.1;exact⟨by omega,h2⟩
def pf (t:Tk):Tok:=if t.k.toNat=0 then .b t.c else if t.k.toNat=1 then .P t.nm else .A t.nm
def wm (t:Tk):Prop:=(t.k.toNat=0/\t.nm=[])\/(t.k.toNat≠0/\t.k.toNat<=2/\t.c=0)
theorem QJ {x y:Tk} (hx:wm x) (hy:wm y) (h:pf x=pf y):x=y:=by
 obtain⟨k,c,n⟩:=x;obtain⟨k2,c2,n2⟩:=y;unfold pf at h;unfold wm at hx hy;simp only at h hx hy;have um:k.toNat=k2.toNat->k=k2:=fun e=>bU.1 e
 by_cases h0:k.toNat=0
 ·rw[if_pos h0] at h;by_cases E8:k2.toNat=0
  ·rw[if_pos E8] at h;cases h;rcases hx with hx|hx
   ·rcases hy with hy|hy
    ·rw[um (by omega),hx.2,hy.2]
    exact absurd E8 hy.1
   exact absurd h0 hx.1
  rw[if_neg E8] at h;split at h<;>cases h
 rw[if_neg h0] at h;by_cases E8:k2.toNat=0
 ·rw[if_pos E8] at h;split at h<;>cases h
 rw[if_neg E8] at h;rcases hx with hx|hx
 ·exact absurd hx.1 h0
 rcases hy with hy|hy
 ·exact absurd hy.1 E8
 by_cases h1:k.toNat=1
 ·rw[if_pos h1] at h;split at h
  ·rename_i vj;cases h;rw[um (by omega),hx.2.2,hy.2.2]
  cases h
 rw[if_neg h1] at h;split at h
 ·cases h
 cases h;rw[um (by omega),hx.2.2,hy.2.2]
theorem afV {x y:Tk} (hx:wm x) (hy:wm y) (ajQ:x≠y):parts (pf x) (pf y)=true<->x.k.toNat≠2/\y.k.toNat≠2/\¬(x.k.toNat=1/\y.k.toNat=1):=by
 have ux:x.k.toNat<=2:=by rcases hx with h|h<;>omega
 have uy:y.k.toNat<=2:=by rcases hy with h|h<;>omega
 unfold pf;by_cases h0:x.k.toNat=0
 ·rw[if_pos h0];by_cases h2:y.k.toNat=0
  ·rw[if_pos h2];simp[parts];omega
  rw[if_neg h2];by_cases h3:y.k.toNat=1
  ·rw[if_pos h3];simp[parts];omega
  rw[if_neg h3];simp[parts];omega
 rw[if_neg h0];by_cases h1:x.k.toNat=1
 ·rw[if_pos h1];by_cases h2:y.k.toNat=0
  ·rw[if_pos h2];simp[parts];omega
  rw[if_neg h2];by_cases h3:y.k.toNat=1
  ·rw[if_pos h3];simp[parts];omega
  rw[if_neg h3];simp[parts];omega
 rw[if_neg h1];simp[parts];omega
theorem Xi {x:Tk} (hx:wm x) (s:List Tok):CH (pf x::s)=true<->x.k.toNat≠2:=by
 have ux:x.k.toNat<=2:=by rcases hx with h|h<;>omega
 unfold pf;by_cases h0:x.k.toNat=0
 ·rw[if_pos h0];simp[CH];omega
 rw[if_neg h0];by_cases h1:x.k.toNat=1
 ·rw[if_pos h1];simp[CH];omega
 rw[if_neg h1];simp[CH];omega
theorem Xj:∀{x y:List Tk},(∀t∈x,wm t)->(∀t∈y,wm t)->(v7 x y<->apart (x.map pf) (y.map pf)=true)
 |[],[],_,_=>by simp[v7,apart]
 |[],b::r,_,hy=>by
  show _<->CH (pf b::r.map pf)=true
  rw[Xi (hy b (.head _))];rfl
 |a::s,[],hx,_=>by
  show _<->CH (pf a::s.map pf)=true
  rw[Xi (hx a (.head _))];rfl
 |a::s,b::r,hx,hy=>by
  have ih:=Xj (x:=s) (y:=r) (fun t ht=>hx t (.tail _ ht)) (fun t ht=>hy t (.tail _ ht));show((a=b/\v7 s r)\/(a≠b/\_))<->(if pf a=pf b then apart (s.map pf) (r.map pf) else parts (pf a) (pf b))=true;by_cases pq:a=b
  ·rw[if_pos (by rw[pq]),<-ih];exact⟨fun h=>h.elim (fun h=>h.2) (fun h=>absurd pq h.1),fun h=>.inl ⟨pq,h⟩⟩
  rw[if_neg fun e=>pq (QJ (hx a (.head _)) (hy b (.head _)) e),afV (hx a (.head _)) (hy b (.head _)) pq];exact⟨fun h=>h.elim (fun h=>absurd h.1 pq) (fun h=>h.2),fun h=>.inr ⟨pq,h⟩⟩
theorem afW {p:nz}:u7 p=(BI p).map pf:=by
 unfold u7 BI;by_cases h0:p.k.toNat=0
 ·rw[if_pos h0,if_pos h0];simp[bs,pf]
 rw[if_neg h0,if_neg h0];simp[pf,h0];split<;>rfl
theorem E9 (l:List nz):oh l=(mY l).map pf:=by
 unfold oh mY;rw[List.map_flatMap];congr 1;funext p;exact afW
theorem JS {l:List nz} (h:∀p∈l,p.k.toNat<=2):∀t∈mY l,wm t:=fun t ht=>by
 obtain⟨p,hp,uP⟩:=dP.1 ht;unfold BI at uP;split at uP
 ·obtain⟨c,_,rfl⟩:=aZ.1 uP;exact .inl ⟨rfl,rfl⟩
 rw[aj.1 uP];rename_i h0;exact .inr ⟨h0,h p hp,rfl⟩
theorem Clean.apart {a b:List nz} (ha:Clean a) (hb:Clean b):v7 (mY a) (mY b)<->apart (oh a) (oh b)=true:=by
 rw[E9,E9];exact Xj (JS ha.k2) (JS hb.k2)
theorem zS.clean {l:List (List nz)} (h:zS l):∀r∈l,Clean r:=fun r hr=>by
 obtain⟨j,hj⟩:=bY hr;exact(h j r hj).1
theorem zS.pw {l:List (List nz)} (h:zS l):(l.map oh).Pairwise (fun a b=>Gt.apart a b=true):=by
 rw[List.pairwise_map,List.pairwise_iff_getElem];intro i j hi hj wU;have h1:=h j l[j] (ao hj);have h2:=h i l[i] (ao hi);rw[Fy];exact(h1.1.apart h2.1).1 (h1.2 l[i] (ap (i:=i) (by rw[bP wU];exact ao hi)))
theorem afX {rs ts:List (List Tok)} (hg:∀r∈rs,Good r) (hp:rs.Pairwise (fun a b=>Gt.apart a b=true)) (h:ts.Perm rs):∃t,rO new (ts.map Gt.lg) 0=.inl t:=by
 have qZ:ts.Pairwise (fun a b=>Gt.apart a b=true):=(h.pairwise_iff (fun{x y} hxy=>by rw[Fy];exact hxy)).2 hp;obtain⟨t,h1,_⟩:=N7 ts new (fun _=>none) 0 (.inl ⟨rfl,rfl⟩) (fun r hr=>hg r (h.mem_iff.1 hr)) (fun r _ s v hs=>by cases hs) qZ;exact⟨t,h1⟩
def sN:List Tk->List Tk->Prop
 |a::s,b::r=>(a=b/\sN s r)\/(a≠b/\a.k.toNat<b.k.toNat)
 |_,_=>False
def yE (path:List UInt8):List nz->Nat->List (List UInt8×List UInt8)->Option (List (List UInt8×List UInt8))
 |[],i,acc=>if i=path.length then some acc else none
 |p::l,i,acc=>
  if p.k.toNat=0 then(if p.nm.isPrefixOf (path.drop i) then yE path l (i+p.nm.length) acc else none)
  else if p.k.toNat=1 then
   (if ((path.drop i).takeWhile (· ≠47)).length =0 then none else yE path l (i+((path.drop i).takeWhile (· ≠47)).length) (acc++[(p.nm,(path.drop i).takeWhile (· ≠47))]))
  else yE path l path.length (acc++[(p.nm,path.drop (i-1))])
def qV (l:List nz) (path:List UInt8):Option (List (List UInt8×List UInt8)):=yE path l 0 []
noncomputable def qP (rs:List (List nz)) (path:List UInt8):Nat->Option Nat
 |0=>none
 |n+1=>match rs[n]? with
  |none=>qP rs path n
  |some a=>match qV a path,qP rs path n with
   |none,b=>b
   |some _,none=>some n
   |some _,some m=>match rs[m]? with
    |none=>some m
    |some b=>if dec (sN (mY a) (mY b)) then some n else some m
def sl (d:List UInt8):Nat:=(d.takeWhile (· ≠47)).length
theorem Cf (d:List UInt8):sl d<=d.length:=(dJ _).length_le
theorem QK:∀{d:List UInt8} {q:Nat},q<sl d->∃x,d[q]? =some x/\x≠47
 |[],q,h=>by simp[sl] at h
 |c::d,q,h=>by
  unfold sl at h;rw[eK] at h;split at h
  ·rename_i hc
   cases q with
   |zero=>exact⟨c,rfl,by simpa using hc⟩
   |succ q=>simpa using QK (d:=d) (q:=q) (by unfold sl;simpa using h)
  simp at h
theorem Mt:∀{d:List UInt8} {x:UInt8},d[sl d]? =some x->x=47
 |[],x,h=>by simp at h
 |c::d,x,h=>by
  unfold sl at h;rw[eK] at h;split at h
  ·exact Mt (d:=d) (by unfold sl;simpa using h)
  rename_i hc;have r8:c=x:=by simpa using h
  rw[<-r8];simpa using hc
theorem Xk {d:List UInt8} (h:¬(47:UInt8)∈d):sl d=d.length:=by
 refine Nat.le_antisymm (Cf d) (Nat.not_lt.1 fun mS=>h ?_);have:=Mt (ao mS);exact this▸eG mS
def Fa (path:List UInt8):List nz->Nat->Prop
 |[],i=>i=path.length
 |p::l,i=>if p.k.toNat=0 then p.nm<+:path.drop i/\Fa path l (i+p.nm.length)
  else if p.k.toNat=1 then Fa path l (i+sl (path.drop i)) else Fa path l path.length
def G0 (l:List nz) (path:List UInt8):Prop:=Fa path l 0
noncomputable def same:List Tk->List Tk->Nat
 |a::s,b::r=> @ite _ (a=b) (Classical.propDecidable _) (same s r+1) 0
 |_,_=>0
def Fb (path:List UInt8) (d:Nat):List Tk->Nat->Nat->Prop
 |[],_,_=>False
 |t::x,i,at_=>if t.k.toNat≠0 then(if d<i then t.k.toNat=2\/at_<path.length else Fb path d x (i+1) (at_+sl (path.drop at_)))
  else path[at_]? =some t.c/\Fb path d x (i+1) (at_+1)
def G1 (x r:List Tk) (path:List UInt8):Prop:=Fb path (same x r) x 0 0
def DI (path:List UInt8):List Tk->Nat->Prop
 |[],at_=>at_=path.length
 |t::x,at_=>at_=path.length\/(if t.k.toNat≠0 then¬(47:UInt8)∈path.drop at_\/t.k.toNat=2\/DI path x (at_+sl (path.drop at_)) else path[at_]? =some t.c/\DI path x (at_+1))
def JT (x:List Tk) (path:List UInt8):Prop:=DI path x 0
def other (path:List UInt8):List UInt8:= @ite _ (1<path.length/\path[path.length-1]? =some 47) inferInstance (path.take (path.length-1)) (path++[47])
def JU (x r:List nz) (path:List UInt8):Prop:=qV x (other path)≠none\/G1 (mY x) (mY r) path\/((other path).length <path.length/\JT (mY x) (other path))
def zg (rs:List (List nz)) (path:List UInt8):Prop:=match qP rs path rs.length with
 |none=>∃x∈rs,G0 x path
 |some m=>∃r,rs[m]? =some r/\∃x∈rs,sN (mY x) (mY r)/\JU x r path
def MT:List Tok->List UInt8->Option (List (List UInt8×List UInt8))
 |[],p=>if p=[] then some [] else none
 |.b c::s,p=>if p.head? =some c then MT s (p.drop 1) else none
 |.P n::s,p=>if sl p=0 then none else(MT s (p.drop (sl p))).map ((n,p.take (sl p)):: ·)
 |.A n::_,p=>some [(n,47::p)]
theorem G2:∀(t:List UInt8) (s:List Tok) (p:List UInt8),MT (bs t++s) p=if t.isPrefixOf p then MT s (p.drop t.length) else none
 |[],s,p=>by simp[bs]
 |c::t,s,p=>by
  show(if p.head? =some c then MT (bs t++s) (p.drop 1) else none)=_
  cases p with
  |nil=>simp
  |cons d q=>
   by_cases rI:d=c
   ·subst rI;simp[G2 t s q]
   simp only[cw,bk];rw[if_neg rI,if_neg];simp only[List.isPrefixOf,cG,beq_iff_eq];exact fun h=>rI h.1.symm
def Mu:List nz->Prop
 |[]=>True
 |p::l=>p.k.toNat<=2/\(p.k.toNat=2->l=[])/\(∀q r,l=q::r->q.k.toNat=2->p.k.toNat=0/\[47]<:+p.nm)/\Mu l
theorem Clean.chA {l:List nz} (h:Clean l):Mu l:=by
 have key:∀(n j:Nat),n+j=l.length->Mu (l.drop j):=by
  intro n
  induction n with
  |zero=>intro j hj;rw[bE (by omega)];trivial
  |succ n ih=>
   intro j hj;obtain⟨p,hp⟩:∃p,l[j]? =some p:=gx (by omega);have pt:=h.2.2.2 j p hp;rw[E5 hp];refine⟨pt.2.1,fun h2=>bE (by have:=pt.2.2.1 h2;omega),fun q r zf hk=>?_,ih (j+1) (by omega)⟩
   have hq:l[j+1]? =some q:=by
    have e:(l.drop (j+1))[0]? =some q:=by rw[zf];rfl
    rw[bL] at e;simpa using e
   have DH:=h.2.2.2 (j+1) q hq
   have D2:j%2=0:=by
    have:¬(j+1)%2=0:=fun e=>by have:=DH.1.2 e;omega
    omega
   exact⟨pt.1.2 D2,(DH.2.2.2.2 (by omega)).2.1 p (by rw[dh];exact hp)⟩
 have:=key l.length 0 (by omega);rwa[dT] at this
theorem QL (path:List UInt8):∀(l:List nz) (i:Nat) (acc:List (List UInt8×List UInt8)),Mu l->i<=path.length->(∀q r,l=q::r->q.k.toNat=2->1<=i/\path[i-1]? =some 47)->yE path l i acc=(MT (oh l) (path.drop i)).map (acc++ ·)
 |[],i,acc,_,hi,_=>by
  have e:oh []=[]:=rfl;rw[e];unfold yE MT;by_cases h:i=path.length
  ·rw[if_pos h,if_pos (by rw[ea];omega)];simp
  rw[if_neg h,if_neg (by rw[ea];omega)];rfl
 |p::l,i,acc,h,hi,hs=>by
  have e1:oh (p::l)=u7 p++oh l:=by simp[oh]
  rw[e1];unfold yE u7;by_cases h0:p.k.toNat=0
  ·rw[if_pos h0,if_pos h0,G2];by_cases hp:p.nm.isPrefixOf (path.drop i)=true
   ·rw[if_pos hp,if_pos hp,bZ];obtain⟨t,ht⟩:=dM.1 hp;have hl:=congrArg List.length ht;rw[ax,aA] at hl;refine QL path l _ acc h.2.2.2 (by omega) (fun q r zf hk=>?_);obtain⟨u,hu⟩:=(h.2.2.1 q r zf hk).2;have hul:p.nm.length=u.length+1:=by rw[<-hu];simp
    refine⟨by omega,?_⟩
    have e2:path[i+p.nm.length-1]? =(path.drop i)[p.nm.length-1]? :=by
     rw[bL];congr 1;omega
    rw[e2,<-ht,<-hu];simp
   rw[if_neg hp,if_neg hp];rfl
  rw[if_neg h0,if_neg h0];by_cases h1:p.k.toNat=1
  ·rw[if_pos h1,if_pos h1];have xU:=Cf (path.drop i);rw[aA] at xU;have etw:(path.drop i).takeWhile (· ≠47)=(path.drop i).take (sl (path.drop i)):=cZ.1 (fi _);show(if sl (path.drop i)=0 then none else yE path l (i+sl (path.drop i)) (acc++[(p.nm,(path.drop i).takeWhile (· ≠47))]))=(if sl (path.drop i)=0 then none else(MT (oh l) ((path.drop i).drop (sl (path.drop i)))).map ((p.nm,(path.drop i).take (sl (path.drop i))):: ·)).map (acc++ ·);by_cases hz:sl (path.drop i)=0
   ·rw[if_pos hz,if_pos hz];rfl
   rw[if_neg hz,if_neg hz,bZ,etw,QL path l _ _ h.2.2.2 (by omega) (fun q r zf hk=>by have:=(h.2.2.1 q r zf hk).1;omega)];rw[gw];congr 1;funext x;simp
  rw[if_neg h1,if_neg h1];have ow:p.k.toNat=2:=by have:=h.1;omega
  have hl:l=[]:=h.2.1 ow;subst hl;obtain⟨BK,ot⟩:=hs p [] rfl ow
  have e3:path.drop (i-1)=47::path.drop i:=by
   obtain⟨mS,hv⟩:=ae.1 ot;rw[bl mS,hv];congr 2;omega
  show yE path [] path.length _=(some [(p.nm,47::path.drop i)]).map (acc++ ·);unfold yE;rw[if_pos rfl,e3];rfl
theorem Clean.match {l:List nz} (h:Clean l) (path:List UInt8):qV l path=MT (oh l) path:=by
 have:=QL path l 0 [] h.chA (bM _) (fun q r zf hk=>by
  have:=(h.2.2.2 0 q (by rw[zf];rfl)).1.2 rfl
  omega)
 unfold qV;rw[this];simp
def rk:Tok->Nat
 |.b _=>0
 |.P _=>1
 |.A _=>2
def BT:List Tok->List Tok->Prop
 |a::s,b::r=>(a=b/\BT s r)\/(a≠b/\rk a<rk b)
 |_,_=>False
def yF:List Tok->List Tok->Nat
 |a::s,b::r=>if a=b then yF s r+1 else 0
 |_,_=>0
theorem Xl {t:Tk} (h:wm t):rk (pf t)=t.k.toNat:=by
 have u:t.k.toNat<=2:=by rcases h with h|h<;>omega
 unfold pf;by_cases h0:t.k.toNat=0
 ·rw[if_pos h0,h0];rfl
 rw[if_neg h0];by_cases h1:t.k.toNat=1
 ·rw[if_pos h1,h1];rfl
 rw[if_neg h1];show 2=_;omega
theorem Xm:∀{x y:List Tk},(∀t∈x,wm t)->(∀t∈y,wm t)->(sN x y<->BT (x.map pf) (y.map pf))
 |[],y,_,_=>by cases y<;>exact⟨fun h=>h,fun h=>h⟩
 |a::s,[],_,_=>⟨fun h=>h,fun h=>h⟩
 |a::s,b::r,hx,hy=>by
  have ih:=Xm (x:=s) (y:=r) (fun t ht=>hx t (.tail _ ht)) (fun t ht=>hy t (.tail _ ht));show((a=b/\sN s r)\/(a≠b/\a.k.toNat<b.k.toNat))<->((pf a=pf b/\BT (s.map pf) (r.map pf))\/(pf a≠pf b/\rk (pf a)<rk (pf b)));have he:pf a=pf b<->a=b:=⟨fun e=>QJ (hx a (.head _)) (hy b (.head _)) e,fun e=>by rw[e]⟩;rw[Xl (hx a (.head _)),Xl (hy b (.head _)),ih,he,ne_eq,ne_eq,he]
theorem Xn:∀{x y:List Tk},(∀t∈x,wm t)->(∀t∈y,wm t)->same x y=yF (x.map pf) (y.map pf)
 |[],y,_,_=>by cases y<;>rfl
 |a::s,[],_,_=>rfl
 |a::s,b::r,hx,hy=>by
  have ih:=Xn (x:=s) (y:=r) (fun t ht=>hx t (.tail _ ht)) (fun t ht=>hy t (.tail _ ht));have he:pf a=pf b<->a=b:=⟨fun e=>QJ (hx a (.head _)) (hy b (.head _)) e,fun e=>by rw[e]⟩;rw[aX,aX,same,yF];by_cases h:a=b
  ·rw[if_pos h,if_pos (he.2 h),ih]
  rw[if_neg h,if_neg (fun e=>h (he.1 e))]
theorem Clean.Cg {a b:List nz} (ha:Clean a) (hb:Clean b):sN (mY a) (mY b)<->BT (oh a) (oh b):=by
 rw[E9,E9];exact Xm (JS ha.k2) (JS hb.k2)
def PT (d:Nat):List Tok->Nat->List UInt8->Prop
 |[],_,_=>False
 |.b c::s,i,p=>p.head? =some c/\PT d s (i+1) (p.drop 1)
 |.P _::s,i,p=>if d<i then p≠[] else PT d s (i+1) (p.drop (sl p))
 |.A _::s,i,p=>if d<i then True else PT d s (i+1) (p.drop (sl p))
def Ak:List Tok->List UInt8->Prop
 |[],p=>p=[]
 |.b c::s,p=>p=[]\/(p.head? =some c/\Ak s (p.drop 1))
 |.P _::s,p=>p=[]\/¬(47:UInt8)∈p\/Ak s (p.drop (sl p))
 |.A _::_,_=>True
theorem head_drop {p:List UInt8} {i:Nat}:(p.drop i).head? =p[i]? :=by
 rw[List.head?_drop]
theorem Mv (path:List UInt8) (d:Nat):∀(x:List Tk) (i a:Nat),(∀t∈x,wm t)->a<=path.length->(Fb path d x i a<->PT d (x.map pf) i (path.drop a))
 |[],i,a,_,_=>gy
 |t::x,i,a,h,ha=>by
  have ht:=h t (.head _);have u:t.k.toNat<=2:=by rcases ht with h|h<;>omega
  have hs:=Cf (path.drop a);rw[aA] at hs;rw[aX];unfold Fb pf;by_cases h0:t.k.toNat=0
  ·rw[if_neg (fun h=>h h0),if_pos h0];show _<->(path.drop a).head? =some t.c/\PT d (x.map pf) (i+1) ((path.drop a).drop 1);rw[head_drop,bZ];constructor
   ·rintro⟨h1,h2⟩;have:=(ae.1 h1).1;exact⟨h1,(Mv path d x _ _ (fun t ht=>h t (.tail _ ht)) (by omega)).1 h2⟩
   rintro⟨h1,h2⟩;have:=(ae.1 h1).1;exact⟨h1,(Mv path d x _ _ (fun t ht=>h t (.tail _ ht)) (by omega)).2 h2⟩
  rw[if_pos h0,if_neg h0];have ih:=Mv path d x (i+1) (a+sl (path.drop a)) (fun t ht=>h t (.tail _ ht)) (by omega);by_cases h1:t.k.toNat=1
  ·rw[if_pos h1];show _<->(if d<i then path.drop a≠[] else PT d (x.map pf) (i+1) ((path.drop a).drop (sl (path.drop a))));rw[bZ];by_cases hd:d<i
   ·rw[if_pos hd,if_pos hd,ne_eq,ea];omega
   rw[if_neg hd,if_neg hd];exact ih
  rw[if_neg h1];show _<->(if d<i then True else PT d (x.map pf) (i+1) ((path.drop a).drop (sl (path.drop a))));rw[bZ];by_cases hd:d<i
  ·rw[if_pos hd,if_pos hd];exact⟨fun _=>trivial,fun _=>.inl (by omega)⟩
  rw[if_neg hd,if_neg hd];exact ih
theorem Mw (path:List UInt8):∀(x:List Tk) (a:Nat),(∀t∈x,wm t)->a<=path.length->(DI path x a<->Ak (x.map pf) (path.drop a))
 |[],a,_,ha=>by
  show a=path.length<->path.drop a=[]
  rw[ea];omega
 |t::x,a,h,ha=>by
  have ht:=h t (.head _);have u:t.k.toNat<=2:=by rcases ht with h|h<;>omega
  have hs:=Cf (path.drop a);rw[aA] at hs;have Dy:path.drop a=[]<->a=path.length:=by rw[ea];omega
  rw[aX];unfold DI pf;by_cases h0:t.k.toNat=0
  ·rw[if_neg (fun h=>h h0),if_pos h0];show _<->path.drop a=[]\/((path.drop a).head? =some t.c/\Ak (x.map pf) ((path.drop a).drop 1));rw[head_drop,bZ,Dy];refine or_congr_right ⟨fun⟨h1,h2⟩=>?_,fun⟨h1,h2⟩=>?_⟩
   ·have:=(ae.1 h1).1;exact⟨h1,(Mw path x _ (fun t ht=>h t (.tail _ ht)) (by omega)).1 h2⟩
   have:=(ae.1 h1).1;exact⟨h1,(Mw path x _ (fun t ht=>h t (.tail _ ht)) (by omega)).2 h2⟩
  rw[if_pos h0,if_neg h0];have ih:=Mw path x (a+sl (path.drop a)) (fun t ht=>h t (.tail _ ht)) (by omega);by_cases h1:t.k.toNat=1
  ·rw[if_pos h1];show _<->path.drop a=[]\/¬(47:UInt8)∈path.drop a\/Ak (x.map pf) ((path.drop a).drop (sl (path.drop a)));rw[bZ,Dy,ih];exact⟨fun h=>h.elim .inl (fun h=>h.elim (fun h=>.inr (.inl h)) (fun h=>h.elim (fun h=>by omega) (fun h=>.inr (.inr h)))),fun h=>h.elim .inl (fun h=>h.elim (fun h=>.inr (.inl h)) (fun h=>.inr (.inr (.inr h))))⟩
  rw[if_neg h1];exact⟨fun _=>trivial,fun _=>.inr (.inr (.inl (by omega)))⟩
def size:T0->Nat
 |.node _ _ _ _ _ _ _ _ kids=>2+zh kids
where zh:List T0->Nat
 |[]=>0
 |k::ks=>size k+zh ks
theorem Mx {k:T0}:∀{kids:List T0},k∈kids->size k<=size.zh kids
 |[],h=>by cases h
 |a::ks,h=>by
  show size k<=size a+size.zh ks;rcases af.1 h with rfl|h
  ·omega
  have:=Mx h;omega
section
variable {u:List UInt8->List UInt8} {cP cS f:Nat} {P idx full:List UInt8} {mm:Bool} {nt pr:Nat} {h:Option Nat} {kids:List T0} {p:List UInt8} {ps:List (List UInt8×List UInt8)} {sk:List Sk}
theorem af1 {c:UInt8} {q:List UInt8} {i:Nat} {k:T0} (hp:p=P++c::q) (hi:idxOf c idx=some i) (hk:kids[i]? =some k) (hw:mm=false):
  n7 u cP cS (f+1) (.node () P idx mm nt pr h full kids) p ps sk=n7 u cP cS f k (c::q) ps sk:=by
 subst hp;subst hw;rw[n7];simp only[Tr.path,Tr.idx,Tr.kids,Tr.mm];rw[if_pos ⟨by simp,by simp⟩];simp[hi,hk]
theorem af2 {c:UInt8} {q:List UInt8} {i:Nat} {k:T0} (hp:p=P++c::q) (hi:idxOf c idx=some i) (hk:kids[i]? =some k) (hw:mm=true) (hr:sk.length<cS):
  n7 u cP cS (f+1) (.node () P idx mm nt pr h full kids) p ps sk=n7 u cP cS f k (c::q) ps (⟨p,.node () P [] mm nt pr h full kids,ps.length⟩::sk):=by
 subst hp;subst hw;rw[n7];simp only[Tr.path,Tr.idx,Tr.kids,Tr.mm];rw[if_pos ⟨by simp,by simp⟩];simp[hi,hk,hr,Bl]
theorem get_eq {k:Nat} (hp:p=P) (hh:h=some k):n7 u cP cS (f+1) (.node () P idx mm nt pr h full kids) p ps sk=some ⟨some k,ps,false,full⟩:=by
 subst hp;subst hh;rw[n7];simp[Tr.path,Tr.h,Tr.full]
theorem af3 {c:UInt8} {q wn A9 zi:List UInt8} {ww:Bool} {Ba:Nat} {wh:Option Nat} {k:T0} {ks:List T0} (hp:p=P++c::q) (hi:idxOf c idx=none) (hw:mm=true) (hl:kids[kids.length-1]? =some (.node () (58::wn) A9 ww 2 Ba wh zi (k::ks))) (qn:wn≠[]) (hs:sl (c::q)<(c::q).length) (hr:ps.length<cP):
  n7 u cP cS (f+1) (.node () P idx mm nt pr h full kids) p ps sk=n7 u cP cS f k ((c::q).drop (sl (c::q))) (ps++[(wn,u ((c::q).takeWhile (· ≠47)))]) sk:=by
 subst hp;subst hw;have rl:0<wn.length:=aU.2 qn;have hd:(P++c::q).drop P.length=c::q:=by simp
 have mJ:((c::q).takeWhile (· ≠47)).length <(c::q).length :=hs;have vi:((c::q).takeWhile (· ≠47)).length =sl (c::q):=rfl;rw[n7];simp only[Tr.path,Tr.idx,Tr.kids,Tr.mm];rw[if_pos ⟨by simp,by simp⟩];simp only[hd,eA,hi,hl,Tr.nt];rw[if_neg (by simp),if_neg (by simp only[aI];omega),if_pos trivial,if_pos mJ,vi];rfl
theorem af4 {c:UInt8} {q wn A9 zi:List UInt8} {ww:Bool} {Ba k:Nat} {G3:List T0} (hp:p=P++c::q) (hi:idxOf c idx=none) (hw:mm=true) (hl:kids[kids.length-1]? =some (.node () (58::wn) A9 ww 2 Ba (some k) zi G3)) (qn:wn≠[]) (hs:¬sl (c::q)<(c::q).length) (hr:ps.length<cP):
  n7 u cP cS (f+1) (.node () P idx mm nt pr h full kids) p ps sk=some ⟨some k,ps++[(wn,u ((c::q).takeWhile (· ≠47)))],false,zi⟩:=by
 subst hp;subst hw;have rl:0<wn.length:=aU.2 qn;have hd:(P++c::q).drop P.length=c::q:=by simp
 have mJ:¬((c::q).takeWhile (· ≠47)).length <(c::q).length :=hs;rw[n7];simp only[Tr.path,Tr.idx,Tr.kids,Tr.mm];rw[if_pos ⟨by simp,by simp⟩];simp only[hd,eA,hi,hl,Tr.nt];rw[if_neg (by simp),if_neg (by simp only[aI];omega),if_pos trivial,if_neg mJ];simp[Tr.h,Tr.full]
theorem af5 {c:UInt8} {q n wQ:List UInt8} {vT k:Nat} (hr:ps.length<cP):
  n7 u cP cS (f+1) (.node () [] [] true 3 pr h full [.node () (47::42::n) [] false 3 vT (some k) wQ []]) (c::q) ps sk=some ⟨some k,ps++[(n,u (c::q))],false,wQ⟩:=by
 rw[n7];simp[Tr.path,Tr.idx,Tr.kids,Tr.mm,Tr.nt,Tr.h,Tr.full,idxOf,hr]
end
abbrev Vs:=List (List UInt8×List UInt8)
inductive pL:List Tok->List UInt8->Vs->List UInt8->Prop
 |nil {p:List UInt8}:pL [] p [] p
 |b {c:UInt8} {s:List Tok} {q p:List UInt8} {v:Vs} (h:pL s q v p):pL (.b c::s) (c::q) v p
 |P {n:List UInt8} {s:List Tok} {a p:List UInt8} {v:Vs} (hs:sl a≠0) (h:pL s (a.drop (sl a)) v p):pL (.P n::s) a ((n,a.take (sl a))::v) p
theorem pL.wx {s r:List Tok} {a p q:List UInt8} {v w:Vs} (h:pL s a v p) (h2:pL r p w q):pL (s++r) a (v++w) q:=by
 induction h with
 |nil=>exact h2
 |b _ ih=>exact .b (ih h2)
 |P hs _ ih=>exact .P hs (ih h2)
theorem pL.bs:∀(t p:List UInt8),pL (bs t) (t++p) [] p
 |[],_=>.nil
 |_::t,p=>.b (pL.bs t p)
theorem pL.Xo {s:List Tok} {a p:List UInt8} {v:Vs} {t:List UInt8} (h:pL s a v (t++p)):pL (s++Gt.bs t) a v p:=by
 have:=h.wx (pL.bs t p);rwa[aS] at this
theorem pL.MT {s r:List Tok} {a p:List UInt8} {v:Vs} (h:pL s a v p):MT (s++r) a=(MT r p).map (v++ ·):=by
 induction h with
 |nil=>simp
 | @b c s q p v _ ih=>simp[Gt.MT,ih]
 | @P n s a p v hs _ ih=>
  simp only[aW,Gt.MT];rw[if_neg hs,ih,gw];congr 1
theorem pL.zj {s:List Tok} {a p:List UInt8} {v:Vs} (h:pL s a v p):p<:+a:=by
 induction h with
 |nil=>exact fp _
 |b _ ih=>exact ih.trans (List.suffix_cons _ _)
 |P _ _ ih=>exact ih.trans (ef _ _)
theorem af6:sl []=0:=rfl
theorem pL.PT {s r:List Tok} {a p:List UInt8} {v:Vs} (h:pL s a v p) {d:Nat}:∀{i:Nat},PT d r (i+s.length) p->PT d (s++r) i a:=by
 induction h with
 |nil=>exact fun h=>h
 | @b c s q p v _ ih=>
  intro i h;refine⟨rfl,ih (i:=i+1) ?_⟩;rw[aI] at h
  rwa[eL,eF 1]
 | @P n s a p v hs _ ih=>
  intro i h;show if d<i then a≠[] else Gt.PT d (s++r) (i+1) (a.drop (sl a))
  by_cases hd:d<i
  ·rw[if_pos hd];rintro rfl;exact hs rfl
  rw[if_neg hd];refine ih (i:=i+1) ?_;rw[aI] at h;rwa[eL,eF 1]
theorem pL.Ak {s r:List Tok} {a p:List UInt8} {v:Vs} (h:pL s a v p) (hb:Ak r p):Ak (s++r) a:=by
 induction h with
 |nil=>exact hb
 |b _ ih=>exact .inr ⟨rfl,ih hb⟩
 |P _ _ ih=>exact .inr (.inr (ih hb))
theorem af7:∀(r:List Tok),Ak r []
 |[]=>rfl
 |.b _::_=>.inl rfl
 |.P _::_=>.inl rfl
 |.A _::_=>trivial
theorem My {c:UInt8} {d:List UInt8}:sl (c::d)=if c=47 then 0 else sl d+1:=by
 unfold sl;by_cases h:c=47
 ·subst h;simp
 rw[if_neg h,dj (by simpa using h)];rfl
theorem QM:∀{a t:List UInt8},sl a<a.length->sl (a++t)=sl a
 |[],_,h=>by simp at h
 |c::a,t,h=>by
  rw[aW,My,My];by_cases hc:c=47
  ·rw[if_pos hc,if_pos hc]
  rw[My,if_neg hc] at h;rw[if_neg hc,if_neg hc,QM (by simpa using h)]
theorem Xp (a:List UInt8):(47:UInt8)∉a.take (sl a):=fun h=>by
 obtain⟨i,hi⟩:=fk.1 h;rw[fS] at hi;split at hi
 ·rename_i mS;obtain⟨x,hx,Dt⟩:=QK mS;rw[hi] at hx;cases hx;exact Dt rfl
 cases hi
theorem Xq {a:List UInt8} (h:sl a<a.length):∃t,a.drop (sl a)=47::t:=by
 have h2:=ao h;have:=Mt h2;exact⟨_,by rw[bl h,this]⟩
theorem Xr {a:List UInt8} {n:Nat} (h:n<a.length):a.dropLast.drop n=(a.drop n).dropLast :=by
 rw[dn,dn,fg,aA];congr 1;omega
theorem af8 {a:List UInt8} (h:sl a<a.length):sl a.dropLast=sl a:=by
 by_cases h2:sl a<a.dropLast.length
 ·have e:a=a.dropLast++[a.getLast (by rintro rfl;simp at h)]:=(List.dropLast_concat_getLast _).symm;by_cases h3:sl a.dropLast<a.dropLast.length
  ·conv=>rhs;rw[e]
   rw[QM h3]
  exfalso;have h4:sl a.dropLast=a.dropLast.length:=Nat.le_antisymm (Cf _) (by omega);have hm:=Xp a.dropLast;rw[h4,b8] at hm;obtain⟨t,ht⟩:=Xq h
  have:(47:UInt8)∈a.dropLast.drop (sl a):=by
   rw[Xr h,ht]
   cases t with
   |nil=>
    exfalso;have hl:=congrArg List.length ht;rw[aA] at hl;rw[fx] at h2
    simp at hl;omega
   |cons x t=>simp
  exact hm (dB this)
 have h3:sl a=a.dropLast.length:=by rw[fx] at h2⊢;omega
 have hm:(47:UInt8)∉a.dropLast:=by
  have:=Xp a;rwa[h3,fx,<-dn] at this
 rw[Xk hm,h3]
theorem pL.last {s:List Tok} {a p:List UInt8} {v:Vs} (h:pL s a v p):p≠[]->pL s a.dropLast v p.dropLast:=by
 induction h with
 |nil=>exact fun _=>.nil
 | @b c s q p v h ih=>
  intro hp
  have hq:q≠[]:=by
   rintro rfl;have:=h.zj;simp at this;exact hp this
  rw[List.dropLast_cons_of_ne_nil hq]
  exact .b (ih hp)
 | @P n s a p v hs h ih=>
  intro hp
  have mS:sl a<a.length:=by
   have:=h.zj.length_le;rw[aA] at this;have:=aU.2 hp;omega
  have e1:=af8 mS
  have e2:a.take (sl a)=a.dropLast.take (sl a.dropLast):=by
   rw[e1,dn,fh];congr 1;omega
  rw[e2];refine .P (by rw[e1];exact hs) ?_;rw[e1,Xr mS];exact ih hp
theorem pL.snoc {s:List Tok} {a p:List UInt8} {v:Vs} (t:List UInt8) (h:pL s a v p):p≠[]->pL s (a++t) v (p++t):=by
 induction h with
 |nil=>exact fun _=>.nil
 |b _ ih=>exact fun hp=>.b (ih hp)
 | @P n s a p v hs h ih=>
  intro hp
  have mS:sl a<a.length:=by
   have:=h.zj.length_le;rw[aA] at this;have:=aU.2 hp;omega
  have e1:sl (a++t)=sl a:=QM mS
  have e2:a.take (sl a)=(a++t).take (sl (a++t)):=by
   rw[e1,cE (by omega)]
  rw[e2];refine .P (by rw[e1];exact hs) ?_;rw[e1,List.drop_append_of_le_length (by omega)];exact ih hp
def nW:List Tok->Nat
 |[]=>0
 |.b _::s=>nW s
 |.P _::s=>nW s+1
 |.A _::s=>nW s+1
def nS:List Tok->Nat
 |[]=>0
 |.b c::s=>nS s+(if c=47 then 1 else 0)
 |.P _::s=>nS s
 |.A _::s=>nS s
theorem G4:∀(s r:List Tok),nW (s++r)=nW s+nW r
 |[],r=>by simp[nW]
 |.b c::s,r=>by simp[nW,G4 s r]
 |.P n::s,r=>by simp[nW,G4 s r];omega
 |.A n::s,r=>by simp[nW,G4 s r];omega
theorem Bb:∀(s r:List Tok),nS (s++r)=nS s+nS r
 |[],r=>by simp[nS]
 |.b c::s,r=>by simp[nS,Bb s r];omega
 |.P n::s,r=>by simp[nS,Bb s r]
 |.A n::s,r=>by simp[nS,Bb s r]
theorem pL.len {s:List Tok} {a p:List UInt8} {v:Vs} (h:pL s a v p):v.length=nW s:=by
 induction h with
 |nil=>rfl
 |b _ ih=>exact ih
 |P _ _ ih=>simp[nW,ih]
theorem Xs:∀{s:List Tok},¬BT s s
 |[]=>fun h=>h
 |_::_=>fun h=>h.elim (fun h=>Xs h.2) (fun h=>h.1 rfl)
theorem Xt:∀{s r:List Tok},BT s r->¬BT r s
 |[],_=>fun h=>by cases h
 |_::_,[]=>fun h=>by cases h
 |a::s,b::r=>fun h h2=>by
  rcases h with⟨h,h1⟩|⟨h,h1⟩
  ·rcases h2 with⟨_,h3⟩|⟨h3,_⟩
   ·exact Xt h1 h3
   exact h3 h.symm
  rcases h2 with⟨h3,_⟩|⟨_,h3⟩
  ·exact h h3.symm
  omega
theorem Mz:∀(pre:List Tok) (c:UInt8) (n:List UInt8) (s r:List Tok),BT (pre++.b c::s) (pre++.P n::r)/\yF (pre++.b c::s) (pre++.P n::r)=pre.length
 |[],c,n,s,r=>⟨.inr ⟨by simp,by simp[rk]⟩,by simp[yF]⟩
 |x::pre,c,n,s,r=>by
  obtain⟨h1,h2⟩:=Mz pre c n s r;exact⟨.inl ⟨rfl,h1⟩,by simp only[aW,yF,if_true,h2,aI]⟩
theorem MA:∀{sl:Bool} {x:List Tok} {n:List UInt8} {s:List Tok},Ok sl (x++.P n::s)->(x=[]/\sl=true)\/∃y,x=y++[.b 47]
 |_,[],_,_,h=>.inl ⟨rfl,h.1⟩
 |_,.b c::x,n,s,h=>by
  rcases MA (x:=x) h.2 with⟨rfl,h2⟩|⟨y,rfl⟩
  ·right;have:c=47:=by simpa using h2
   exact⟨[],by rw[this];rfl⟩
  exact .inr ⟨.b c::y,rfl⟩
 |_,.P m::x,n,s,h=>by
  rcases MA (x:=x) h.2.2.2 with⟨rfl,h2⟩|⟨y,rfl⟩
  ·cases h2
  exact .inr ⟨.P m::y,rfl⟩
 |_,.A m::x,n,s,h=>by
  have:=h.2.2;cases x<;>cases this
theorem pL.behind:∀{y:List Tok} {a p:List UInt8} {v:Vs},pL (y++[.b 47]) a v p->(47::p)<:+a
 |[],a,p,v,h=>by
  cases h with
  |b h=>cases h;exact fp _
 |.b c::y,a,p,v,h=>by
  cases h with
  |b h=>exact h.behind.trans (List.suffix_cons _ _)
 |.P n::y,a,p,v,h=>by
  cases h with
  |P hs h=>exact h.behind.trans (ef _ _)
 |.A n::y,a,p,v,h=>by cases h
section
variable {u:List UInt8->List UInt8} {cP cS f:Nat} {P idx full:List UInt8} {mm:Bool} {nt pr:Nat} {h:Option Nat} {kids:List T0} {p:List UInt8} {ps:List (List UInt8×List UInt8)} {sk:List Sk}
theorem QN {e:Sk} {p:List UInt8} {n:Nat} (h1:p<:+e.path) (h2:e.ny<=n):wC p n (e::sk)=some (some (e,sk)):=by
 show(if p<:+e.path/\e.ny<=n then some (some (e,sk)) else none)=_;rw[if_pos ⟨h1,h2⟩]
theorem af9 {c:UInt8} {q:List UInt8} {e:Sk} (hp:p=P++c::q) (hi:idxOf c idx=none) (hw:mm=false) (ot:c::q≠[47]) (h1:(c::q)<:+e.path) (h2:e.ny<=ps.length):
  n7 u cP cS (f+1) (.node () P idx mm nt pr h full kids) p ps (e::sk)=n7 u cP cS f e.node e.path (ps.take e.ny) sk:=by
 subst hp;subst hw;rw[n7];simp only[oZ,tH,rp,sw];rw[if_pos ⟨by simp,by simp⟩];have hd:(P++c::q).drop P.length=c::q:=by simp
 simp only[hd,eA,hi,if_true,if_pos ot,QN h1 h2]
theorem Xu {c:UInt8} {q:List UInt8} (hp:p=P++c::q) (hi:idxOf c idx=none) (hw:mm=false) (ot:c::q=[47]\/sk=[]):
  n7 u cP cS (f+1) (.node () P idx mm nt pr h full kids) p ps sk=some ⟨none,ps,decide (c::q=[47])&&h.isSome,[]⟩:=by
 subst hp;subst hw;rw[n7];simp only[oZ,tH,rp,sw];rw[if_pos ⟨by simp,by simp⟩];have hd:(P++c::q).drop P.length=c::q:=by simp
 by_cases h4:c::q=[47]
 ·have:¬(c::q≠[47]):=fun h=>h h4
  simp only[hd,eA,hi,if_true,if_neg this,Tr.h]
 rcases ot with ot|rfl
 ·exact absurd ot h4
 simp only[hd,eA,hi,if_true,if_pos h4,wC,Tr.h]
theorem aga {e:Sk} (hp:p=P) (hh:h=none) (ot:p≠[47]) (h1:p<:+e.path) (h2:e.ny<=ps.length):
  n7 u cP cS (f+1) (.node () P idx mm nt pr h full kids) p ps (e::sk)=n7 u cP cS f e.node e.path (ps.take e.ny) sk:=by
 subst hp;subst hh;rw[n7];simp only[oZ,tH,rp,sw,ta];have hc:¬(p.length<p.length/\p.take p.length=p):=fun h=>gi _ h.1
 rw[if_neg hc,if_pos trivial];simp only[Option.isNone_none,true_and,if_pos ot,QN h1 h2]
theorem agb (hp:p=P) (hh:h=none) (ot:p=[47]\/sk=[]):
  n7 u cP cS (f+1) (.node () P idx mm nt pr h full kids) p ps sk=
   if p=[47]/\mm=true/\nt≠1 then some ⟨none,ps,true,[]⟩
    else if p=[47]/\nt=0 then some ⟨none,ps,true,[]⟩
    else match idxOf 47 idx with
    |some i=>
     match kids[i]? with
     |some k=>(if k.nt=3/\k.kids=[] then none else some ⟨none,ps,(decide (k.path.length=1)&&k.h.isSome)||(decide (k.nt=3)&&((k.kids.head?).map (·.h.isSome)).getD false),[]⟩)
     |none=>none
    |none=>some ⟨none,ps,false,[]⟩:=by
 subst hp;subst hh;have hc:¬(p.length<p.length/\p.take p.length=p):=fun h=>gi _ h.1
 rw[n7];simp only[oZ,tH,rp,sw,ta,rn,Bu];rw[if_neg hc,if_pos trivial];by_cases h4:p=[47]
 ·simp[h4];rfl
 rcases ot with ot|rfl
 ·exact absurd ot h4
 simp[h4,wC];rfl
theorem agc {e:Sk} (hp:¬P<+:p) (ht:¬(p=[47]\/(P=p++[47]/\h.isSome=true))) (h1:p<:+e.path) (h2:e.ny<=ps.length):
  n7 u cP cS (f+1) (.node () P idx mm nt pr h full kids) p ps (e::sk)=n7 u cP cS f e.node e.path (ps.take e.ny) sk:=by
 have e1:(decide (p=[47])||(decide (P=p++[47])&&h.isSome))=false:=by
  rw[Bool.or_eq_false_iff,Bool.and_eq_false_iff]
  exact⟨decide_eq_false fun h=>ht (.inl h),by
   by_cases h':P=p++[47]
   ·exact .inr (by
     cases hh:h.isSome with
     |false=>rfl
     |true=>exact absurd (.inr ⟨h',hh⟩) ht)
   exact .inl (decide_eq_false h')⟩
 rw[n7];have hc:¬((Tr.node () P idx mm nt pr h full kids).path.length <p.length/\p.take (Tr.node () P idx mm nt pr h full kids).path.length =(Tr.node () P idx mm nt pr h full kids).path):=fun h=>hp (cZ.2 h.2.symm)
 have oc:¬(p=(Tr.node () P idx mm nt pr h full kids).path):=fun h=>hp (h▸fo _)
 rw[if_neg hc,if_neg oc];have e2:(decide (p=[47])||(decide ((Tr.node () P idx mm nt pr h full kids).path =p++[47])&&(Tr.node () P idx mm nt pr h full kids).h.isSome))=false:=e1;rw[e2];simp only[if_true,QN h1 h2]
theorem agd (hp:¬P<+:p) (ht:(p=[47]\/(P=p++[47]/\h.isSome=true))\/sk=[]):
  n7 u cP cS (f+1) (.node () P idx mm nt pr h full kids) p ps sk=some ⟨none,ps,decide (p=[47])||(decide (P=p++[47])&&h.isSome),[]⟩:=by
 have e1:(if (decide (p=[47])||(decide (P=p++[47])&&h.isSome))=false then wC p ps.length sk else some none)=some none:=by
  rcases ht with ht|rfl
  ·rw[if_neg];rcases ht with ht|⟨ht,hh⟩
   ·rw[decide_eq_true ht];simp
   rw[decide_eq_true ht,hh];simp
  split<;>rfl
 rw[n7];have hc:¬((Tr.node () P idx mm nt pr h full kids).path.length <p.length/\p.take (Tr.node () P idx mm nt pr h full kids).path.length =(Tr.node () P idx mm nt pr h full kids).path):=fun h=>hp (cZ.2 h.2.symm)
 have oc:¬(p=(Tr.node () P idx mm nt pr h full kids).path):=fun h=>hp (h▸fo _)
 rw[if_neg hc,if_neg oc];have e2:(if (decide (p=[47])||(decide ((Tr.node () P idx mm nt pr h full kids).path =p++[47])&&(Tr.node () P idx mm nt pr h full kids).h.isSome))=false then wC p ps.length sk else some none)=some none:=e1;rw[e2];rfl
theorem age {c:UInt8} {q wn A9 zi:List UInt8} {ww:Bool} {Ba:Nat} {wh:Option Nat} (hp:p=P++c::q) (hi:idxOf c idx=none) (hw:mm=true) (hl:kids[kids.length-1]? =some (.node () (58::wn) A9 ww 2 Ba wh zi [])) (qn:wn≠[]) (hs:sl (c::q)<(c::q).length) (hr:ps.length<cP):
  n7 u cP cS (f+1) (.node () P idx mm nt pr h full kids) p ps sk=some ⟨none,ps++[(wn,u ((c::q).takeWhile (· ≠47)))],decide ((c::q).length =sl (c::q)+1),[]⟩:=by
 subst hp;subst hw;have rl:0<wn.length:=aU.2 qn;have hd:(P++c::q).drop P.length=c::q:=by simp
 have mJ:((c::q).takeWhile (· ≠47)).length <(c::q).length :=hs;have vi:((c::q).takeWhile (· ≠47)).length =sl (c::q):=rfl;rw[n7];simp only[oZ,tH,rp,sw];rw[if_pos ⟨by simp,by simp⟩];simp only[hd,eA,hi,hl,Tr.nt,Tr.kids,Tr.path];rw[if_neg (by simp),if_neg (by simp only[aI];omega),if_pos trivial,if_pos mJ,vi];rfl
theorem agf {c:UInt8} {q wn A9 zi:List UInt8} {ww:Bool} {Ba:Nat} {G3:List T0} (hp:p=P++c::q) (hi:idxOf c idx=none) (hw:mm=true) (hl:kids[kids.length-1]? =some (.node () (58::wn) A9 ww 2 Ba none zi G3)) (qn:wn≠[]) (hs:¬sl (c::q)<(c::q).length) (hr:ps.length<cP):
  ∃ts,n7 u cP cS (f+1) (.node () P idx mm nt pr h full kids) p ps sk=some ⟨none,ps++[(wn,u ((c::q).takeWhile (· ≠47)))],ts,[]⟩:=by
 subst hp;subst hw;have rl:0<wn.length:=aU.2 qn;have hd:(P++c::q).drop P.length=c::q:=by simp
 have mJ:¬((c::q).takeWhile (· ≠47)).length <(c::q).length :=hs;rw[n7];simp only[oZ,tH,rp,sw];rw[if_pos ⟨by simp,by simp⟩];simp only[hd,eA,hi,hl,Tr.nt,Tr.kids,Tr.path];rw[if_neg (by simp),if_neg (by simp only[aI];omega),if_pos trivial,if_neg mJ];simp only[Tr.h,Option.isSome_none,c6,if_false];split<;>exact⟨_,rfl⟩
end
end Gt
