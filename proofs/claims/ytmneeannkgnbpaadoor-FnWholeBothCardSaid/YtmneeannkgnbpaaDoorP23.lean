/- Lemmas of the walk and plain facts (JeSh2 .. JeSh7). -/
import Derived.Test.YtmneeannkgnbpaaDoorL1
import Derived.Test.YtmneeannkgnbpaaDoorP22
import Derived.Test.YtmneeannkgnbpaaDoorP01
set_option maxRecDepth 20000
namespace Bw
open Go Go.Proofs Go.Proofs.Ec
variable {T T0:List NR} {q:Nat->List Tok} {R:List En} {root:Nat}
theorem Sh.ad5 (s:Sh T q R root) {x y:NR} (hx:x∈T) (hy:y∈T) (e:q x.n=q y.n):x.n=y.n:=by
 rcases(s.below hx hy (e▸cU)).first with h|⟨z,d,h1,h2,h3⟩
 ·exact h
 exfalso;have:=(s.Ds h3).length_le;obtain⟨t,l,e1,_⟩:=s.ch h2;rw[h1,e] at e1;rw[e1] at this;simp at this;omega
theorem _root_.Go.Proofs.Ec.Cl.perm {T T':List NR} (h:Cl T) (p:T.Perm T'):Cl T':=
  ⟨fun r hr a ha=>by obtain⟨x,hx,e⟩:=h.kids r (p.mem_iff.2 hr) a ha;exact⟨x,p.mem_iff.1 hx,e⟩,
   fun r hr a ha=>by obtain⟨x,hx,e⟩:=h.mV r (p.mem_iff.2 hr) a ha;exact⟨x,p.mem_iff.1 hx,e⟩,
   fun r hr a ha=>by obtain⟨x,hx,e⟩:=h.mP r (p.mem_iff.2 hr) a ha;exact⟨x,p.mem_iff.1 hx,e⟩,
   fun r hr=>h.self r (p.mem_iff.2 hr),(p.map NR.n).nodup_iff.1 h.nd⟩
theorem Ch.perm {T T':List NR} {x c:NR} (h:Ch T x c) (p:T.Perm T'):Ch T' x c:=by
 cases h with
 |st a b c=>exact .st (p.mem_iff.1 a) (p.mem_iff.1 b) c
 |pa a b c=>exact .pa (p.mem_iff.1 a) (p.mem_iff.1 b) c
 |an a b c=>exact .an (p.mem_iff.1 a) (p.mem_iff.1 b) c
theorem uc.perm {T T':List NR} {a b:Nat} (h:uc T a b) (p:T.Perm T'):uc T' a b:=by
 induction h with
 |refl=>exact .refl
 |step _ hc ih=>exact ih.step (hc.perm p)
theorem Sh.perm {T':List NR} (s:Sh T q R root) (p:T.Perm T'):Sh T' q R root:={
 cl:=s.cl.perm p
 q8 x c hx hc:=s.q8 x c (p.mem_iff.2 hx) (p.mem_iff.2 hc)
 mV x c hx hc:=s.mV x c (p.mem_iff.2 hx) (p.mem_iff.2 hc)
 mP x c hx hc:=s.mP x c (p.mem_iff.2 hx) (p.mem_iff.2 hc)
 rt:=by obtain⟨r,h1,h2⟩:=s.rt;exact⟨r,p.mem_iff.1 h1,h2⟩
 one h r hr:=s.one h r (p.mem_iff.2 hr)
 dl x c d hx hc hd:=s.dl x c d (p.mem_iff.2 hx) (p.mem_iff.2 hc) (p.mem_iff.2 hd)
 nP r hr:=s.nP r (p.mem_iff.2 hr)
 reach r hr:=(s.reach r (p.mem_iff.2 hr)).perm p
 hd:=s.hd
 uZ e he:=by obtain⟨r,h1,h2⟩:=s.uZ e he;exact⟨r,p.mem_iff.1 h1,h2⟩
 vC h r hr:=s.vC h r (p.mem_iff.2 hr)
 pE r hr:=s.pE r (p.mem_iff.2 hr)
 leaf r hr:=s.leaf r (p.mem_iff.2 hr)
 nn r hr:=s.nn r (p.mem_iff.2 hr)
 nH r hr:=s.nH r (p.mem_iff.2 hr)
 kv r hr:=s.kv r (p.mem_iff.2 hr)}
structure SS (r r':NR):Prop where
 n:r'.n=r.n
 ng:r'.ng=r.ng
 mV:r'.mV=r.mV
 mP:r'.mP=r.mP
 pre:r'.pre=r.pre
 kids:r'.kids=r.kids
 kd:r'.kd=r.kd
 nP:r'.nP=r.nP
theorem SS.refl (r:NR):SS r r:=⟨rfl,rfl,rfl,rfl,rfl,rfl,rfl,rfl⟩
theorem wI {r r':NR} (hs:SS r r') {x':NR} (hx:x'∈r'::T0):∃x∈r::T0,SS x x'/\(x=r/\x'=r'\/x∈T0/\x'=x):=by
 rcases af.1 hx with rfl|hx
 ·exact⟨r,.head _,hs,.inl ⟨rfl,rfl⟩⟩
 exact⟨x',.tail _ hx,.refl _,.inr ⟨hx,rfl⟩⟩
theorem EK {r r':NR} (hs:SS r r') {x:NR} (hx:x∈r::T0):∃x'∈r'::T0,SS x x':=by
 rcases af.1 hx with rfl|hx
 ·exact⟨r',.head _,hs⟩
 exact⟨x,.tail _ hx,.refl _⟩
theorem Sh.pM (s:Sh T q R root) {r r':NR} (hT:T.Perm (r::T0)) (hs:SS r r') {R':List En} (hR:R≠[]) (Gx:R'=R\/∃e,R'=e::R/\e.tk=q r.n)
  (ad6:∀m,Bw.pE r' m=sL R' m (q r.n)) (Jq:r.kd=1->r'.leaf=(r.kids.isEmpty&&r.mV.isNone&&r.mP.isNone)) (EL:r'.nn=re r'.f r'.kv) (ad7:r'.nn=true->BN r'.f r'.kv r'.nH)
  (qJ:∀p∈r'.kv,nY p.1=none/\p.1≠oo) (oH:r.kd=2->r'.pc=ny (q r.n)):Sh (r'::T0) q R' root:=by
 replace s:=s.perm hT
 have hr:r∈r::T0:=.head _;have mW:=Jl (.refl _) s.cl.nd
 have ad8:(q r.n).head? =some (.b 47)\/R'=R:=by
  rcases Gx with h|⟨e,h1,h2⟩
  ·exact .inr h
  refine .inl ?_
  have hlen:q r.n≠[]:=by
   obtain⟨rt,h3,h4,h5,h6,h7,h8,h9⟩:=s.rt;have:=s.Ds (s.reach r hr);intro e0;rw[e0,List.prefix_nil,h8] at this;have oF:rt.pre=[]:=by simpa[bs] using this
   exact h9 hR oF
  obtain⟨e0,mL,hp⟩:=s.vC hR r hr;have hh:=s.hd e0 mL
  cases hq:q r.n with
  |nil=>exact absurd hq hlen
  |cons a l=>rw[hq] at hp;obtain⟨u,hu⟩:=hp;rw[<-hu] at hh;exact hh
 have ad9:∀x∈T0,∀m,sL R' m (q x.n)=sL R m (q x.n):=by
  intro x hx m;rcases Gx with h|⟨e,h1,h2⟩
  ·rw[h]
  have:e.tk≠q x.n:=by
   rw[h2];intro e';exact mW x hx (s.ad5 hr (.tail _ hx) e').symm
  rw[h1,sL]
  cases e.rm with
  |none=>rfl
  |some p=>obtain⟨m',h'⟩:=p;simp[this]
 have NQ:∀x c,Ch (r::T0) x c->∀x'∈r'::T0,SS x x'->∀c'∈r'::T0,SS c c'->Ch (r'::T0) x' c':=by
  intro x c h x' qy e1 c' qj e2
  cases h with
  |st a b h=>exact .st qy qj (by rw[e1.kids,e2.n];exact h)
  |pa a b h=>exact .pa qy qj (by rw[e1.mV,e2.n];exact h)
  |an a b h=>exact .an qy qj (by rw[e1.mP,e2.n];exact h)
 refine⟨⟨fun x' qy a ha=>?_,fun x' qy a ha=>?_,fun x' qy a ha=>?_,fun x' qy=>?_,?_⟩,fun x' c' qy qj h=>?_,fun x' c' qy qj h=>?_,fun x' c' qy qj h=>?_,?_,fun h=>?_,fun x' c' d' qy qj tO h1 h2 h3=>?_,
  fun x' qy h=>?_,fun x' qy=>?_,fun e he=>?_,fun e he=>?_,fun _ x' qy=>?_,fun x' qy m=>?_,fun x' qy hk=>?_,fun x' qy=>?_,fun x' qy=>?_,fun x' qy=>?_⟩
 ·obtain⟨x,hx,e,_⟩:=wI hs qy;obtain⟨y,hy,e2⟩:=s.cl.kids x hx a (e.kids▸ha);obtain⟨y',Bh,e3⟩:=EK hs hy;exact⟨y',Bh,e3.n.trans e2⟩
 ·obtain⟨x,hx,e,_⟩:=wI hs qy;obtain⟨y,hy,e2⟩:=s.cl.mV x hx a (e.mV▸ha);obtain⟨y',Bh,e3⟩:=EK hs hy;exact⟨y',Bh,e3.n.trans e2⟩
 ·obtain⟨x,hx,e,_⟩:=wI hs qy;obtain⟨y,hy,e2⟩:=s.cl.mP x hx a (e.mP▸ha);obtain⟨y',Bh,e3⟩:=EK hs hy;exact⟨y',Bh,e3.n.trans e2⟩
 ·obtain⟨x,hx,e,_⟩:=wI hs qy;rw[e.n,e.kids,e.mV,e.mP];exact s.cl.self x hx
 ·rw[aX,hs.n];exact s.cl.nd
 ·obtain⟨x,hx,e,_⟩:=wI hs qy;obtain⟨c,hc,e2,_⟩:=wI hs qj;rw[e2.kd,e2.ng,e2.pre,e2.n,e.n];exact s.q8 x c hx hc (by rw[<-e2.n,<-e.kids];exact h)
 ·obtain⟨x,hx,e,_⟩:=wI hs qy;obtain⟨c,hc,e2,_⟩:=wI hs qj;rw[e2.kd,e2.ng,e2.pre,e2.n,e.n];exact s.mV x c hx hc (by rw[<-e2.n,<-e.mV];exact h)
 ·obtain⟨x,hx,e,_⟩:=wI hs qy;obtain⟨c,hc,e2,h2⟩:=wI hs qj;have h0:=s.mP x c hx hc (by rw[<-e2.n,<-e.mP];exact h);rw[e2.kd,e2.ng,e2.pre,e2.n,e.n,e2.kids,e2.mV,e2.mP];refine⟨h0.1,h0.2.1,h0.2.2.1,h0.2.2.2.1,h0.2.2.2.2.1,h0.2.2.2.2.2.1,h0.2.2.2.2.2.2.1,?_⟩;rcases h2 with⟨rfl,rfl⟩|⟨_,rfl⟩
  ·exact oH h0.1
  exact h0.2.2.2.2.2.2.2
 ·obtain⟨rt,h1,h2,h3,h4,h5,h6,h7⟩:=s.rt;obtain⟨PU,zr,e⟩:=EK hs h1;exact⟨PU,zr,e.n.trans h2,e.ng.trans h3,e.kd.trans h4,e.pre▸h5,by rw[e.pre];exact h6,fun _=>by rw[e.pre];exact h7 hR⟩
 ·exfalso;rcases Gx with h'|⟨e,h',_⟩
  ·exact hR (h'▸h)
  rw[h'] at h;cases h
 ·obtain⟨x,hx,e,_⟩:=wI hs qy;obtain⟨c,hc,e2,_⟩:=wI hs qj;obtain⟨d,hd,e3,_⟩:=wI hs tO;rw[e2.n,e3.n];exact s.dl x c d hx hc hd (by rw[<-e2.n,<-e.kids];exact h1) (by rw[<-e3.n,<-e.kids];exact h2) (by rw[<-e2.nP,<-e3.nP];exact h3)
 ·obtain⟨x,hx,e,_⟩:=wI hs qy;rw[e.nP,e.pre];exact s.nP x hx (by rw[<-e.pre];exact h)
 ·obtain⟨x,hx,e,_⟩:=wI hs qy;rw[e.n]
  have key:∀b,uc (r::T0) root b->uc (r'::T0) root b:=by
   intro b hb
   induction hb with
   |refl=>exact .refl
   | @step y c _ hc ih=>
    obtain⟨y',Bh,e1⟩:=EK hs hc.l;obtain⟨c',qj,e2⟩:=EK hs hc.r;have:=NQ y c hc y' Bh e1 c' qj e2;rw[<-e2.n];exact .step (x:=y') (by rw[e1.n];exact ih) this
  exact key _ (s.reach x hx)
 ·rcases Gx with h'|⟨e',h',h2⟩
  ·rw[h'] at he;exact s.hd e he
  rw[h'] at he;rcases af.1 he with rfl|he
  ·rw[h2];rcases ad8 with h|h
   ·exact h
   rw[h] at h';exact absurd (congrArg List.length h') (by simp)
  exact s.hd e he
 ·have:e∈R\/e.tk=q r.n:=by
   rcases Gx with h'|⟨e',h',h2⟩
   ·rw[h'] at he;exact .inl he
   rw[h'] at he;rcases af.1 he with rfl|he
   ·exact .inr h2
   exact .inl he
  rcases this with h|h
  ·obtain⟨x,hx,e2⟩:=s.uZ e h;obtain⟨x',qy,e3⟩:=EK hs hx;exact⟨x',qy,by rw[e3.n];exact e2⟩
  exact⟨r',.head _,by rw[hs.n];exact h.symm⟩
 ·obtain⟨x,hx,e,_⟩:=wI hs qy;obtain⟨e0,mL,h0⟩:=s.vC hR x hx;refine⟨e0,?_,by rw[e.n];exact h0⟩;rcases Gx with h'|⟨e',h',_⟩
  ·rw[h'];exact mL
  rw[h'];exact .tail _ mL
 ·rcases af.1 qy with rfl|hx
  ·rw[hs.n];exact ad6 m
  rw[s.pE x' (.tail _ hx) m,ad9 x' hx m]
 ·rcases af.1 qy with rfl|hx
  ·rw[hs.kids,hs.mV,hs.mP];exact Jq (hs.kd▸hk)
  exact s.leaf x' (.tail _ hx) hk
 ·rcases af.1 qy with rfl|hx
  ·exact EL
  exact s.nn x' (.tail _ hx)
 ·rcases af.1 qy with rfl|hx
  ·exact ad7
  exact s.nH x' (.tail _ hx)
 rcases af.1 qy with rfl|hx
 ·exact qJ
 exact s.kv x' (.tail _ hx)
variable {T T0:List NR} {q:Nat->List Tok} {R:List En} {root:Nat}
theorem Sh.up (s:Sh T q R root) {r:NR} (hr:r∈T):r.n=root\/∃x,Ch T x r:=by
 have key:∀b,uc T root b->∀r∈T,r.n=b->r.n=root\/∃x,Ch T x r:=by
  intro b hb r hr e
  cases hb with
  |refl=>exact .inl e
  | @step x c hx hc=>
   have:r=c:=uC s.cl.nd hr hc.r e;exact .inr ⟨x,this▸hc⟩
 exact key _ (s.reach r hr) r hr rfl
theorem Sh.static (s:Sh T q R root) {r:NR} (hr:r∈T) (hk:r.kd=0):okB r.pre/\(r.n=root\/∃x∈T,r.n∈x.kids):=by
 rcases s.up hr with h|⟨x,h⟩
 ·obtain⟨rt,h1,h2,_,_,h5,_⟩:=s.rt;have:r=rt:=uC s.cl.nd hr h1 (h.trans h2.symm);subst this;exact⟨h5,.inl h⟩
 cases h with
 |st hx hc h=>exact⟨(s.q8 x r hx hc h).2.2.2.1,.inr ⟨x,hx,h⟩⟩
 |pa hx hc h=>have:=(s.mV x r hx hc h).1;omega
 |an hx hc h=>have:=(s.mP x r hx hc h).1;omega
theorem CJ (a b:List UInt8):bs (a++b)=bs a++bs b:=by simp[bs]
theorem Sh.aea (s:Sh T q R root) {r y:NR} (hr:r∈T) (hy:y∈T) {start:List Tok} (hk:r.kd=0) (hq:q r.n=start++bs r.pre) {c:UInt8} (hc:r.pre.head? =some c)
  (hp:start++[.b c]<+:q y.n) (hlen:(q y.n).length <(q r.n).length):False:=by
 rcases(s.static hr hk).2 with h|⟨x,hx,h⟩
 ·have:=(s.Ds (s.reach y hy)).length_le;rw[<-h] at this;omega
 have h5:=(s.q8 x r hx hr h).2.2.2.2;have mO:start=q x.n:=fR (hq.symm.trans h5);subst mO;obtain⟨d,h1,h2,h3⟩:=s.next hx hy hp
 have:d=r:=s.LZ h1 (.st hx hr h) h2 (by
  rw[h5]
  cases nG:r.pre with
  |nil=>rw[nG] at hc;cases hc
  |cons a l=>rw[nG] at hc;simp only[cw,bk] at hc;subst hc;exact⟨bs l,by simp[bs]⟩)
 subst this;have:=h3.length_le;omega
theorem oR {S b} {r:NR}:(r.nR S b).n =r.n/\(r.nR S b).mV =r.mV/\(r.nR S b).mP =r.mP/\(r.nR S b).pre =r.pre/\(r.nR S b).kids =r.kids/\(r.nR S b).kd =r.kd/\(r.nR S b).nP =r.nP/\(r.nR S b).f =r.f/\(r.nR S b).kv =r.kv/\(r.nR S b).nf =r.nf/\(r.nR S b).nn =r.nn/\(r.nR S b).nH =r.nH/\(r.nR S b).leaf =r.leaf/\(r.nR S b).pc =r.pc:=by
 unfold NR.nR;split<;>simp
theorem Wj {S b} {r:NR} (h:r.n∉S):r.nR S b=r:=by simp[NR.nR,h]
theorem PV {S b} {r:NR} (h:r.n∈S):(r.nR S b).ng =some b:=by simp[NR.nR,h]
def rK (r:NR):List Nat:=r.kids++r.mV.toList++r.mP.toList
theorem y6 {r:NR} {a:Nat}:a∈rK r<->a∈r.kids\/r.mV=some a\/r.mP=some a:=by
 simp only[rK,aB,Option.mem_toList,or_assoc]
theorem Sh.PW (s:Sh T q R root) {r y:NR} (hr:r∈T) (hy:y∈T) (h:y.n∈rK r):y.ng=some r.n:=by
 rcases y6.1 h with h|h|h
 ·exact(s.q8 r y hr hy h).2.1
 ·exact(s.mV r y hr hy h).2.1
 exact(s.mP r y hr hy h).2.1
def q1 (q:Nat->List Tok) (b n:Nat) (p:List Tok) (a:Nat):List Tok:=if a=b then q n else if a=n then p else q a
theorem Sh.cut (s:Sh T q R root) {r:NR} (hT:T.Perm (r::T0)) (hR:R≠[]) (hk:r.kd=0) {l:Nat} (h1:0<l) (h2:l<r.pre.length) {b:Nat} (hb:∀x∈T,x.n≠b) (m:Nat) (ad:Option Addr) (cp:Nat) (Hs:SH)
  {start:List Tok} (hq:q r.n=start++bs r.pre):
  Sh (r.top m l [b] ad cp Hs::r.low b l::T0.map (NR.nR (r.kids++r.mV.toList++r.mP.toList) b)) (q1 q b r.n (start++bs (r.pre.take l))) R root:=by
 show Sh (r.top m l [b] ad cp Hs::r.low b l::T0.map (NR.nR (rK r) b)) (q1 q b r.n (start++bs (r.pre.take l))) R root
 replace hb:∀x∈r::T0,x.n≠b:=fun x hx=>hb x (hT.mem_iff.2 hx)
 replace s:=s.perm hT
 have hr:r∈r::T0:=.head _;have mW:=Jl (.refl _) s.cl.nd;have AX:=s.cl.self r hr;have mO:=(s.static hr hk).1
 obtain⟨c0,cs,nG⟩:∃c0 cs,r.pre=c0::cs:=by
  cases hp:r.pre with
  |nil=>rw[hp] at h2;simp at h2
  |cons a l=>exact⟨a,l,rfl⟩
 have AY:r.nP=r.pre.headD 0:=s.nP r hr (by rw[nG];simp);have zR:r.pre.take l≠[]:=by rw[nG];cases l with|zero=>omega|succ l=>simp
 have hth:(r.pre.take l).headD 0=r.pre.headD 0:=by rw[nG];cases l with|zero=>omega|succ l=>simp
 have PX:r.pre.drop l≠[]:=fun e=>by have:=congrArg List.length e;simp at this;omega
 have qb:q1 q b r.n (start++bs (r.pre.take l)) b=q r.n:=by simp[q1]
 have vO:r.n≠b:=hb r hr;have qr:q1 q b r.n (start++bs (r.pre.take l)) r.n=start++bs (r.pre.take l):=by simp[q1,vO]
 have qo:∀y∈T0,q1 q b r.n (start++bs (r.pre.take l)) y.n=q y.n:=fun y hy=>by simp[q1,hb y (.tail _ hy),mW y hy]
 have tS:start++bs (r.pre.take l)++bs (r.pre.drop l)=q r.n:=by rw[aw,<-CJ,a8,hq]
 have nk:∀c∈r.pre.take l,c≠58/\c≠42:=fun c hc=>mO c (dY hc)
 have wZ:∀c∈r.pre.drop l,c≠58/\c≠42:=fun c hc=>mO c (dB hc)
 have rH:∀x∈r::T0,b∉x.kids/\x.mV≠some b/\x.mP≠some b:=fun x hx=>by
  refine⟨fun h=>?_,fun h=>?_,fun h=>?_⟩
  ·obtain⟨y,hy,e⟩:=s.cl.kids x hx b h;exact hb y hy e
  ·obtain⟨y,hy,e⟩:=s.cl.mV x hx b h;exact hb y hy e
  obtain⟨y,hy,e⟩:=s.cl.mP x hx b h;exact hb y hy e
 have y7:∀y∈T0,y.nR (rK r) b∈(r.top m l [b] ad cp Hs::r.low b l::T0.map (NR.nR (rK r) b)):=fun y hy=>.tail _ (.tail _ (aZ.2 ⟨y,hy,rfl⟩))
 have nM:∀x∈(r.top m l [b] ad cp Hs::r.low b l::T0.map (NR.nR (rK r) b)),x=r.top m l [b] ad cp Hs\/x=r.low b l\/∃y∈T0,x=y.nR (rK r) b:=fun x hx=>by
  rcases af.1 hx with h|hx
  ·exact .inl h
  rcases af.1 hx with h|hx
  ·exact .inr (.inl h)
  obtain⟨y,hy,e⟩:=aZ.1 hx;exact .inr (.inr ⟨y,hy,e.symm⟩)
 have qA:∀x∈T0,∀y∈T0,y.n∈rK x->(y.nR (rK r) b)=y:=fun x hx y hy h=>Wj fun h'=>by
  have e1:=s.PW (.tail _ hx) (.tail _ hy) h;have e2:=s.PW hr (.tail _ hy) h';rw[e1] at e2;exact mW x hx (bp e2)
 have Gy:∀a,a∈rK r->∃y∈T0,y.n=a:=fun a ha=>by
  have:∃y∈r::T0,y.n=a:=by
   rcases y6.1 ha with h|h|h
   ·exact s.cl.kids r hr a h
   ·exact s.cl.mV r hr a h
   exact s.cl.mP r hr a h
  obtain⟨y,hy,e⟩:=this;rcases af.1 hy with h|h
  ·exfalso;rw[h] at e;rcases y6.1 ha with h'|h'|h'
   ·exact AX.1 (e▸h')
   ·exact AX.2.1 (e▸h')
   exact AX.2.2 (e▸h')
  exact⟨y,h,e⟩
 have y8:∀y∈r::T0,∃y'∈(r.top m l [b] ad cp Hs::r.low b l::T0.map (NR.nR (rK r) b)),y'.n=y.n:=fun y hy=>by
  rcases af.1 hy with h|h
  ·subst h;exact⟨_,.head _,rfl⟩
  exact⟨_,y7 y h,oR.1⟩
 have aec:∀e∈R,e.tk≠start++bs (r.pre.take l):=fun e he h=>by
  obtain⟨y,hy,e2⟩:=s.uZ e he;refine s.aea hr hy hk hq (c:=c0) (by rw[nG];rfl) ?_ ?_
  ·rw[e2,h,nG]
   cases l with
   |zero=>omega
   |succ l=>exact⟨bs (cs.take l),by simp[bs]⟩
  rw[e2,h,hq];simp[bs];omega
 refine⟨⟨fun x hx a ha=>?_,fun x hx a ha=>?_,fun x hx a ha=>?_,fun x hx=>?_,?_⟩,fun x c hx hc h=>?_,fun x c hx hc h=>?_,fun x c hx hc h=>?_,?_,fun h=>absurd h hR,fun x c d hx hc hd e1 e2 e3=>?_,
  fun x hx _=>?_,fun x hx=>?_,s.hd,fun e he=>?_,fun _ x hx=>?_,fun x hx m=>?_,fun x hx hk=>?_,fun x hx=>?_,fun x hx=>?_,fun x hx=>?_⟩
 ·rcases nM x hx with rfl|rfl|⟨y,hy,rfl⟩
  ·rw[aj.1 ha];exact⟨_,.tail _ (.head _),rfl⟩
  ·obtain⟨y,hy,e⟩:=Gy a (y6.2 (.inl ha));exact⟨_,y7 y hy,oR.1.trans e⟩
  rw[oR.2.2.2.2.1] at ha;obtain⟨z,hz,e⟩:=s.cl.kids y (.tail _ hy) a ha;obtain⟨z',h3,h4⟩:=y8 z hz;exact⟨z',h3,h4.trans e⟩
 ·rcases nM x hx with rfl|rfl|⟨y,hy,rfl⟩
  ·cases ha
  ·obtain⟨y,hy,e⟩:=Gy a (y6.2 (.inr (.inl ha)));exact⟨_,y7 y hy,oR.1.trans e⟩
  rw[oR.2.1] at ha;obtain⟨z,hz,e⟩:=s.cl.mV y (.tail _ hy) a ha;obtain⟨z',h3,h4⟩:=y8 z hz;exact⟨z',h3,h4.trans e⟩
 ·rcases nM x hx with rfl|rfl|⟨y,hy,rfl⟩
  ·cases ha
  ·obtain⟨y,hy,e⟩:=Gy a (y6.2 (.inr (.inr ha)));exact⟨_,y7 y hy,oR.1.trans e⟩
  rw[oR.2.2.1] at ha;obtain⟨z,hz,e⟩:=s.cl.mP y (.tail _ hy) a ha;obtain⟨z',h3,h4⟩:=y8 z hz;exact⟨z',h3,h4.trans e⟩
 ·rcases nM x hx with rfl|rfl|⟨y,hy,rfl⟩
  ·exact⟨fun h=>vO (aj.1 h),fun h=>(by cases h),fun h=>(by cases h)⟩
  ·exact rH r hr
  rw[oR.1,oR.2.1,oR.2.2.1,oR.2.2.2.2.1];exact s.cl.self y (.tail _ hy)
 ·have IC:(T0.map (NR.nR (rK r) b)).map NR.n=T0.map NR.n:=by rw[gp];exact fJ fun x _=>oR.1
  simp only[aX,IC];have nj:=s.cl.nd;rw[aX,bf] at nj;refine bf.2 ⟨fun h=>?_,bf.2 ⟨fun h=>?_,nj.2⟩⟩
  ·rcases af.1 h with h|h
   ·exact vO h
   exact nj.1 h
  obtain⟨y,hy,e⟩:=aZ.1 h;exact hb y (.tail _ hy) e
 ·rcases nM x hx with rfl|rfl|⟨y,hy,rfl⟩
  ·have qj:=aj.1 h;rcases nM c hc with rfl|rfl|⟨z,hz,rfl⟩
   ·exact absurd qj vO
   ·refine⟨hk,rfl,PX,wZ,?_⟩;show q1 q b r.n (start++bs (r.pre.take l)) b=q1 q b r.n (start++bs (r.pre.take l)) r.n++bs (r.pre.drop l);rw[qb,qr,tS]
   rw[oR.1] at qj;exact absurd qj (hb z (.tail _ hz))
  ·rcases nM c hc with rfl|rfl|⟨z,hz,rfl⟩
   ·exact absurd h AX.1
   ·exact absurd h (rH r hr).1
   rw[oR.1] at h;have h0:=s.q8 r z hr (.tail _ hz) h;rw[oR.1,oR.2.2.2.2.2.1,oR.2.2.2.1,PV (show z.n∈rK r from y6.2 (.inl h)),qo z hz];exact⟨h0.1,rfl,h0.2.2.1,h0.2.2.2.1,h0.2.2.2.2.trans (by rw[show(r.low b l).n =b from rfl,qb])⟩
  rw[oR.2.2.2.2.1] at h;rw[oR.1,qo y hy];rcases nM c hc with rfl|rfl|⟨z,hz,rfl⟩
  ·have h0:=s.q8 y r (.tail _ hy) hr h;refine⟨rfl,h0.2.1,zR,nk,?_⟩;show q1 q b r.n (start++bs (r.pre.take l)) r.n=_;rw[qr];have:start=q y.n:=fR (hq.symm.trans h0.2.2.2.2);rw[this];rfl
  ·exact absurd h (rH y (.tail _ hy)).1
  rw[oR.1] at h;rw[qA y hy z hz (y6.2 (.inl h)),qo z hz];exact s.q8 y z (.tail _ hy) (.tail _ hz) h
 ·rcases nM x hx with rfl|rfl|⟨y,hy,rfl⟩
  ·cases h
  ·rcases nM c hc with rfl|rfl|⟨z,hz,rfl⟩
   ·exact absurd h AX.2.1
   ·exact absurd h (rH r hr).2.1
   rw[oR.1] at h;have h0:=s.mV r z hr (.tail _ hz) h;rw[oR.1,oR.2.2.2.2.2.1,oR.2.2.2.1,PV (show z.n∈rK r from y6.2 (.inr (.inl h))),qo z hz];exact⟨h0.1,rfl,h0.2.2.1,h0.2.2.2.trans (by rw[show(r.low b l).n =b from rfl,qb])⟩
  rw[oR.2.1] at h;rw[oR.1,qo y hy];rcases nM c hc with rfl|rfl|⟨z,hz,rfl⟩
  ·have h0:=s.mV y r (.tail _ hy) hr h;omega
  ·exact absurd h (rH y (.tail _ hy)).2.1
  rw[oR.1] at h;rw[qA y hy z hz (y6.2 (.inr (.inl h))),qo z hz];exact s.mV y z (.tail _ hy) (.tail _ hz) h
 ·rcases nM x hx with rfl|rfl|⟨y,hy,rfl⟩
  ·cases h
  ·rcases nM c hc with rfl|rfl|⟨z,hz,rfl⟩
   ·exact absurd h AX.2.2
   ·exact absurd h (rH r hr).2.2
   rw[oR.1] at h;have h0:=s.mP r z hr (.tail _ hz) h;have hf:=oR (S:=rK r) (b:=b) (r:=z);rw[oR.1,oR.2.2.2.2.2.1,oR.2.2.2.1,PV (show z.n∈rK r from y6.2 (.inr (.inr h))),qo z hz,hf.2.2.2.2.1,hf.2.1,hf.2.2.1,hf.2.2.2.2.2.2.2.2.2.2.2.2.2];exact⟨h0.1,rfl,h0.2.2.1,h0.2.2.2.1.trans (by rw[show(r.low b l).n =b from rfl,qb]),h0.2.2.2.2⟩
  rw[oR.2.2.1] at h;rw[oR.1,qo y hy];rcases nM c hc with rfl|rfl|⟨z,hz,rfl⟩
  ·have h0:=s.mP y r (.tail _ hy) hr h;omega
  ·exact absurd h (rH y (.tail _ hy)).2.2
  rw[oR.1] at h;rw[qA y hy z hz (y6.2 (.inr (.inr h))),qo z hz];exact s.mP y z (.tail _ hy) (.tail _ hz) h
 ·obtain⟨rt,g1,g2,g3,g4,g5,g6,g7⟩:=s.rt;rcases af.1 g1 with h|h
  ·subst h;refine⟨_,.head _,g2,g3,rfl,nk,?_,fun _=>zR⟩
   have:start=[]:=by
    rw[<-g2,hq] at g6;have:=congrArg List.length g6;simp at this;exact this
   rw[<-g2,qr,this];rfl
  have Fp:rt.nR (rK r) b=rt:=Wj fun h'=>by rw[s.PW hr g1 h'] at g3;cases g3
  refine⟨_,y7 rt h,?_⟩;rw[Fp];exact⟨g2,g3,g4,g5,by rw[<-g2,qo rt h,g2];exact g6,g7⟩
 ·have Wk:∀y∈r::T0,∀c∈(r.top m l [b] ad cp Hs::r.low b l::T0.map (NR.nR (rK r) b)),c.n∈y.kids->∃c0∈r::T0,c0.n=c.n/\c0.nP=c.nP:=by
   intro y hy c hc h;rcases nM c hc with rfl|rfl|⟨z,hz,rfl⟩
   ·exact⟨r,hr,rfl,AY⟩
   ·exact absurd h (rH y hy).1
   exact⟨z,.tail _ hz,oR.1.symm,oR.2.2.2.2.2.2.1.symm⟩
  have main:∀y∈r::T0,c.n∈y.kids->d.n∈y.kids->c.n=d.n:=by
   intro y hy h3 h4;obtain⟨c1,k1,k2,k3⟩:=Wk y hy c hc h3;obtain⟨d1,k4,k5,k6⟩:=Wk y hy d hd h4;have:=s.dl y c1 d1 hy k1 k4 (by rw[k2];exact h3) (by rw[k5];exact h4) (by rw[k3,k6];exact e3);rw[<-k2,<-k5];exact this
  rcases nM x hx with rfl|rfl|⟨y,hy,rfl⟩
  ·rw[aj.1 e1,aj.1 e2]
  ·exact main r hr e1 e2
  rw[oR.2.2.2.2.1] at e1 e2;exact main y (.tail _ hy) e1 e2
 ·rcases nM x hx with rfl|rfl|⟨y,hy,rfl⟩
  ·exact hth.symm
  ·rfl
  rw[oR.2.2.2.1,oR.2.2.2.2.2.2.1];exact s.nP y (.tail _ hy) (by rename_i h;rw[oR.2.2.2.1] at h;exact h)
 ·have Wl:Ch (r.top m l [b] ad cp Hs::r.low b l::T0.map (NR.nR (rK r) b)) (r.top m l [b] ad cp Hs) (r.low b l):=.st (.head _) (.tail _ (.head _)) (.head _)
  have key:∀a,uc (r::T0) root a->uc (r.top m l [b] ad cp Hs::r.low b l::T0.map (NR.nR (rK r) b)) root a:=by
   intro a ha
   induction ha with
   |refl=>exact .refl
   | @step y c _ hc ih=>
    have r5:∃c'∈(r.top m l [b] ad cp Hs::r.low b l::T0.map (NR.nR (rK r) b)),c'.n=c.n:=y8 c hc.r;obtain⟨c',h3,h4⟩:=r5
    have yf:∀y',y'∈(r.top m l [b] ad cp Hs::r.low b l::T0.map (NR.nR (rK r) b))->y'.kids=y.kids->y'.mV=y.mV->y'.mP=y.mP->Ch (r.top m l [b] ad cp Hs::r.low b l::T0.map (NR.nR (rK r) b)) y' c':=by
     intro y' h5 h6 h7 h8
     cases hc with
     |st _ _ h=>exact .st h5 h3 (by rw[h6,h4];exact h)
     |pa _ _ h=>exact .pa h5 h3 (by rw[h7,h4];exact h)
     |an _ _ h=>exact .an h5 h3 (by rw[h8,h4];exact h)
    rw[<-h4];rcases af.1 hc.l with h|h
    ·subst h;exact .step (x:=y.low b l) (.step (x:=y.top m l [b] ad cp Hs) ih Wl) (yf _ (.tail _ (.head _)) rfl rfl rfl)
    exact .step (x:=y.nR (rK r) b) (by rw[oR.1];exact ih) (yf _ (y7 y h) oR.2.2.2.2.1 oR.2.1 oR.2.2.1)
  rcases nM x hx with rfl|rfl|⟨y,hy,rfl⟩
  ·exact key r.n (s.reach r hr)
  ·exact .step (x:=r.top m l [b] ad cp Hs) (key r.n (s.reach r hr)) Wl
  rw[oR.1];exact key y.n (s.reach y (.tail _ hy))
 ·obtain⟨y,hy,e2⟩:=s.uZ e he;rcases af.1 hy with h|h
  ·subst h;exact⟨_,.tail _ (.head _),by rw[show(y.low b l).n =b from rfl,qb];exact e2⟩
  exact⟨_,y7 y h,by rw[oR.1,qo y h];exact e2⟩
 ·rcases nM x hx with rfl|rfl|⟨y,hy,rfl⟩
  ·obtain⟨e,he,hp⟩:=s.vC hR r hr;refine⟨e,he,List.IsPrefix.trans ?_ hp⟩;show q1 q b r.n (start++bs (r.pre.take l)) r.n<+:_;rw[qr,<-tS];exact fQ _ _
  ·obtain⟨e,he,hp⟩:=s.vC hR r hr;exact⟨e,he,by rw[show(r.low b l).n =b from rfl,qb];exact hp⟩
  obtain⟨e,he,hp⟩:=s.vC hR y (.tail _ hy);exact⟨e,he,by rw[oR.1,qo y hy];exact hp⟩
 ·rcases nM x hx with rfl|rfl|⟨y,hy,rfl⟩
  ·show Bw.pE _ _=sL R m (q1 q b r.n (start++bs (r.pre.take l)) r.n);rw[qr,Wh aec];simp only[Bw.pE,NR.top];split
   ·rfl
   unfold getM;split<;>rfl
  ·rw[show(r.low b l).n =b from rfl,qb];exact s.pE r hr m
  rw[oR.1,qo y hy,<-s.pE y (.tail _ hy) m];have hf:=oR (S:=rK r) (b:=b) (r:=y);simp only[Bw.pE,hf.2.2.2.2.2.2.2.1,hf.2.2.2.2.2.2.2.2.1,hf.2.2.2.2.2.2.2.2.2.1]
 ·rcases nM x hx with rfl|rfl|⟨y,hy,rfl⟩
  ·cases hk
  ·rename_i od;rw[show(r.low b l).kd =r.kd from rfl,od] at hk;cases hk
  have hf:=oR (S:=rK r) (b:=b) (r:=y);rw[hf.2.2.2.2.2.1] at hk;rw[hf.2.2.2.2.2.2.2.2.2.2.2.2.1,hf.2.2.2.2.1,hf.2.1,hf.2.2.1];exact s.leaf y (.tail _ hy) hk
 ·rcases nM x hx with rfl|rfl|⟨y,hy,rfl⟩
  ·rfl
  ·rfl
  have hf:=oR (S:=rK r) (b:=b) (r:=y);rw[hf.2.2.2.2.2.2.2.2.2.2.1,hf.2.2.2.2.2.2.2.1,hf.2.2.2.2.2.2.2.2.1];exact s.nn y (.tail _ hy)
 ·rcases nM x hx with rfl|rfl|⟨y,hy,rfl⟩
  ·intro h;cases h
  ·intro h;exact s.nH r hr (by rw[s.nn r hr];exact h)
  have hf:=oR (S:=rK r) (b:=b) (r:=y);rw[hf.2.2.2.2.2.2.2.2.2.2.1,hf.2.2.2.2.2.2.2.1,hf.2.2.2.2.2.2.2.2.1,hf.2.2.2.2.2.2.2.2.2.2.2.1];exact s.nH y (.tail _ hy)
 rcases nM x hx with rfl|rfl|⟨y,hy,rfl⟩
 ·intro p hp;cases hp
 ·exact s.kv r hr
 have hf:=oR (S:=rK r) (b:=b) (r:=y);rw[hf.2.2.2.2.2.2.2.2.1];exact s.kv y (.tail _ hy)
variable {T T0:List NR} {q:Nat->List Tok} {R:List En} {root:Nat}
def q2 (q:Nat->List Tok) (b:Nat) (p:List Tok) (a:Nat):List Tok:=if a=b then p else q a
theorem Sh.child (s:Sh T q R root) {x c x':NR} {t:Nat} (hT:T.Perm (x::T0)) (hR:R≠[]) (tu:∀y∈T,y.n≠c.n) (vt:BQ t c.n x x') (qA:c.ng=some x.n) (wJ:c.kids=[]/\c.mV=none/\c.mP=none) (L0:c.kd=t)
  {tk:Tok} {mY:List Tok} (oB:tb (tk::mY)=c.pre) (BX:(t=0/\∀u∈tk::mY,u.st)\/(t=1/\tk::mY=[.P])\/(t=2/\tk::mY=[.A]/\c.pc=ny (q x.n++[.A])))
  (xl:∀d,Ch T x d->¬q x.n++[tk]<+:q d.n) (Dt:x.kd≠2) (Gz:c.nf=none) (uD:c.f=fun _=>none) (PY:c.kv=[]) (AY:c.nP=tk.byte) (EL:c.nn=false) (Jq:c.leaf=true):
  Sh (x'.oP::c::T0) (q2 q c.n (q x.n++tk::mY)) (⟨q x.n++tk::mY,none⟩::R) root:=by
 replace tu:∀y∈x::T0,y.n≠c.n:=fun y hy=>tu y (hT.mem_iff.2 hy)
 replace xl:∀d,Ch (x::T0) x d->¬q x.n++[tk]<+:q d.n:=fun d hd=>xl d (hd.perm hT.symm)
 replace s:=s.perm hT
 have hx:x∈x::T0:=.head _;have mW:=Jl (.refl _) s.cl.nd;have AX:=s.cl.self x hx;have rG:x.n≠c.n:=tu x hx;have s8:c.pre≠[]:=by rw[<-oB];simp[tb]
 have xE:t=1->x.mV=none:=fun h=>by
  cases hp:x.mV with
  |none=>rfl
  |some a=>
   exfalso;obtain⟨d,hd,e⟩:=s.cl.mV x hx a hp;have h0:=s.mV x d hx hd (by rw[e];exact hp);have:tk=.P :=by rcases BX with h|h|h<;>simp_all
   exact xl d (.pa hx hd (by rw[e];exact hp)) (by rw[h0.2.2.2,this];exact cU)
 have han:t=2->x.mP=none:=fun h=>by
  cases hp:x.mP with
  |none=>rfl
  |some a=>
   exfalso;obtain⟨d,hd,e⟩:=s.cl.mP x hx a hp;have h0:=s.mP x d hx hd (by rw[e];exact hp);have:tk=.A :=by rcases BX with h|h|h<;>simp_all
   exact xl d (.an hx hd (by rw[e];exact hp)) (by rw[h0.2.2.2.1,this];exact cU)
 have hk:∀a,a∈x'.oP.kids<->a∈x.kids\/(t=0/\a=c.n):=fun a=>by
  cases vt with
  |st e h=>simp[NR.oP,e]
  |ng e=>simp[NR.oP,e]
  |any e=>simp[NR.oP,e]
 have hp:∀a,x'.oP.mV=some a<->x.mV=some a\/(t=1/\a=c.n):=fun a=>by
  cases vt with
  |st e h=>simp[NR.oP,e]
  |ng e=>simp[NR.oP,e,xE e];exact eq_comm
  |any e=>simp[NR.oP,e]
 have ha:∀a,x'.oP.mP=some a<->x.mP=some a\/(t=2/\a=c.n):=fun a=>by
  cases vt with
  |st e h=>simp[NR.oP,e]
  |ng e=>simp[NR.oP,e]
  |any e=>simp[NR.oP,e,han e];exact eq_comm
 obtain⟨fn,Wm,GD,Wn,Wo,ff,L1,fnf,Wp,aef,fpc⟩:x'.oP.n=x.n/\x'.oP.ng=x.ng/\x'.oP.pre=x.pre/\x'.oP.kd=x.kd/\x'.oP.nP=x.nP/\x'.oP.f=x.f/\x'.oP.kv=x.kv/\x'.oP.nf=x.nf/\x'.oP.nn=x.nn/\x'.oP.nH=x.nH/\x'.oP.pc=x.pc:=by
  cases vt<;>simp[NR.oP]
 have aeg:x'.oP.leaf=(x'.oP.kids.isEmpty&&x'.oP.mV.isNone&&x'.oP.mP.isNone):=rfl;generalize x'.oP=X at*;have qc:q2 q c.n (q x.n++tk::mY) c.n=q x.n++tk::mY:=by simp[q2]
 have qo:∀y∈x::T0,q2 q c.n (q x.n++tk::mY) y.n=q y.n:=fun y hy=>by simp[q2,tu y hy]
 have qX:q2 q c.n (q x.n++tk::mY) X.n=q x.n:=by rw[fn];exact qo x hx
 have r5:∀y∈x::T0,c.n∉y.kids/\y.mV≠some c.n/\y.mP≠some c.n:=fun y hy=>by
  refine⟨fun h=>?_,fun h=>?_,fun h=>?_⟩
  ·obtain⟨z,hz,e⟩:=s.cl.kids y hy _ h;exact tu z hz e
  ·obtain⟨z,hz,e⟩:=s.cl.mV y hy _ h;exact tu z hz e
  obtain⟨z,hz,e⟩:=s.cl.mP y hy _ h;exact tu z hz e
 have nM:∀z∈X::c::T0,z=X\/z=c\/z∈T0:=fun z hz=>by simpa using hz
 have GF:∀y∈T0,y∈X::c::T0:=fun y hy=>.tail _ (.tail _ hy)
 have y8:∀y∈x::T0,∃y'∈X::c::T0,y'.n=y.n:=fun y hy=>by
  rcases af.1 hy with h|h
  ·exact⟨X,.head _,by rw[fn,h]⟩
  exact⟨y,GF y h,rfl⟩
 have hold:∀z∈X::c::T0,z≠c->∃y∈x::T0,y.n=z.n/\y.kd=z.kd/\y.ng=z.ng/\y.pre=z.pre/\y.nP=z.nP/\(z=X/\y=x\/z=y/\z∈T0):=fun z hz hzc=>by
  rcases nM z hz with h|h|h
  ·exact⟨x,hx,by rw[h,fn],by rw[h,Wn],by rw[h,Wm],by rw[h,GD],by rw[h,Wo],.inl ⟨h,rfl⟩⟩
  ·exact absurd h hzc
  exact⟨z,.tail _ h,rfl,rfl,rfl,rfl,rfl,.inr ⟨rfl,h⟩⟩
 have ajF:∀z∈X::c::T0,z.n≠c.n->z≠c:=fun z _ h e=>h (by rw[e])
 have aei:∀e∈R,e.tk≠q x.n++tk::mY:=fun e he h=>by
  obtain⟨y,hy,e2⟩:=s.uZ e he;obtain⟨d,h1,h2,_⟩:=s.next hx hy (t:=tk) (by rw[e2,h];exact⟨mY,by simp⟩);exact xl d h1 h2
 have aej:(q x.n).head? =some (.b 47)\/q x.n=[]:=by
  obtain⟨e0,mL,oT⟩:=s.vC hR x hx;have hh:=s.hd e0 mL
  cases hq:q x.n with
  |nil=>exact .inr rfl
  |cons a l=>rw[hq] at oT;obtain⟨u,hu⟩:=oT;rw[<-hu] at hh;exact .inl hh
 have Wq:q x.n≠[]:=by
  obtain⟨rt,h3,h4,h5,h6,h7,h8,h9⟩:=s.rt;have:=s.Ds (s.reach x hx);intro e0;rw[e0,List.prefix_nil,h8] at this;exact h9 hR (by simpa[bs] using this)
 refine⟨⟨fun z hz a h=>?_,fun z hz a h=>?_,fun z hz a h=>?_,fun z hz=>?_,?_⟩,fun z d hz hd h=>?_,fun z d hz hd h=>?_,fun z d hz hd h=>?_,?_,fun h=>(by cases h),fun z d d' hz hd tO e1 e2 e3=>?_,
  fun z hz _=>?_,fun z hz=>?_,fun e he=>?_,fun e he=>?_,fun _ z hz=>?_,fun z hz m=>?_,fun z hz p6=>?_,fun z hz=>?_,fun z hz=>?_,fun z hz=>?_⟩
 ·rcases nM z hz with rfl|rfl|pR
  ·rcases(hk a).1 h with h|⟨_,rfl⟩
   ·obtain⟨y,hy,e⟩:=s.cl.kids x hx a h;obtain⟨y',h3,h4⟩:=y8 y hy;exact⟨y',h3,h4.trans e⟩
   exact⟨c,.tail _ (.head _),rfl⟩
  ·rw[wJ.1] at h;cases h
  obtain⟨y,hy,e⟩:=s.cl.kids z (.tail _ pR) a h;obtain⟨y',h3,h4⟩:=y8 y hy;exact⟨y',h3,h4.trans e⟩
 ·rcases nM z hz with rfl|rfl|pR
  ·rcases(hp a).1 h with h|⟨_,rfl⟩
   ·obtain⟨y,hy,e⟩:=s.cl.mV x hx a h;obtain⟨y',h3,h4⟩:=y8 y hy;exact⟨y',h3,h4.trans e⟩
   exact⟨c,.tail _ (.head _),rfl⟩
  ·rw[wJ.2.1] at h;cases h
  obtain⟨y,hy,e⟩:=s.cl.mV z (.tail _ pR) a h;obtain⟨y',h3,h4⟩:=y8 y hy;exact⟨y',h3,h4.trans e⟩
 ·rcases nM z hz with rfl|rfl|pR
  ·rcases(ha a).1 h with h|⟨_,rfl⟩
   ·obtain⟨y,hy,e⟩:=s.cl.mP x hx a h;obtain⟨y',h3,h4⟩:=y8 y hy;exact⟨y',h3,h4.trans e⟩
   exact⟨c,.tail _ (.head _),rfl⟩
  ·rw[wJ.2.2] at h;cases h
  obtain⟨y,hy,e⟩:=s.cl.mP z (.tail _ pR) a h;obtain⟨y',h3,h4⟩:=y8 y hy;exact⟨y',h3,h4.trans e⟩
 ·rcases nM z hz with rfl|rfl|pR
  ·rw[fn];refine⟨fun h=>?_,fun h=>?_,fun h=>?_⟩
   ·rcases(hk _).1 h with h|⟨_,h⟩
    ·exact AX.1 h
    exact rG h
   ·rcases(hp _).1 h with h|⟨_,h⟩
    ·exact AX.2.1 h
    exact rG h
   rcases(ha _).1 h with h|⟨_,h⟩
   ·exact AX.2.2 h
   exact rG h
  ·rw[wJ.1,wJ.2.1,wJ.2.2];simp
  exact s.cl.self z (.tail _ pR)
 ·have nj:=s.cl.nd;rw[aX,bf] at nj;simp only[aX,fn];refine bf.2 ⟨fun h=>?_,bf.2 ⟨fun h=>?_,nj.2⟩⟩
  ·rcases af.1 h with h|h
   ·exact rG h
   exact nj.1 h
  obtain⟨y,hy,e⟩:=aZ.1 h;exact tu y (.tail _ hy) e
 ·rcases nM z hz with rfl|rfl|pR
  ·rcases(hk _).1 h with h|⟨h0,h1⟩
   ·have ue:d≠c:=fun e=>(r5 x hx).1 (e▸h)
    obtain⟨y,hy,e1,e2,e3,e4,_⟩:=hold d hd ue;have h5:=s.q8 x y hx hy (by rw[e1];exact h);rw[<-e2,<-e3,<-e4,<-e1,qo y hy,qX,fn];exact h5
   have ue:d=c:=by
    rcases nM d hd with h|h|h
    ·rw[h,fn] at h1;exact absurd h1 rG
    ·exact h
    exact absurd h1 (tu d (.tail _ h))
   subst ue;rw[fn,qo x hx,qc];have mO:∀u∈tk::mY,u.st:=by rcases BX with h|h|h<;>first|exact h.2|(exfalso;omega)
   refine⟨by rw[L0,h0],qA,s8,?_,?_⟩
   ·rw[<-oB];intro b hb;obtain⟨u,hu,rfl⟩:=aZ.1 hb;have:=mO u hu;cases u<;>simp_all[Tok.st,Tok.byte]
   congr 1;rw[<-oB]
   have:∀l:List Tok,(∀u∈l,u.st)->l=bs (tb l):=by
    intro l hl
    induction l with
    |nil=>rfl
    |cons a l ih=>
     have h2:=hl a (.head _);have h3:=ih fun u hu=>hl u (.tail _ hu)
     cases a with
     |b c=>exact congrArg (Tok.b c:: ·) h3
     |P=>exact h2.elim
     |A=>exact h2.elim
   exact this _ mO
  ·rw[wJ.1] at h;cases h
  have ue:d≠c:=fun e=>(r5 z (.tail _ pR)).1 (e▸h)
  obtain⟨y,hy,e1,e2,e3,e4,_⟩:=hold d hd ue;have h5:=s.q8 z y (.tail _ pR) hy (by rw[e1];exact h);rw[<-e2,<-e3,<-e4,<-e1,qo y hy,qo z (.tail _ pR)];exact h5
 ·rcases nM z hz with rfl|rfl|pR
  ·rcases(hp _).1 h with h|⟨h0,h1⟩
   ·have ue:d≠c:=fun e=>(r5 x hx).2.1 (e▸h)
    obtain⟨y,hy,e1,e2,e3,e4,_⟩:=hold d hd ue;have h5:=s.mV x y hx hy (by rw[e1];exact h);rw[<-e2,<-e3,<-e4,<-e1,qo y hy,qX,fn];exact h5
   have ue:d=c:=by
    rcases nM d hd with h|h|h
    ·rw[h,fn] at h1;exact absurd h1 rG
    ·exact h
    exact absurd h1 (tu d (.tail _ h))
   subst ue;rw[fn,qo x hx,qc];have hP:tk::mY=[.P]:=by rcases BX with h|h|h<;>first|exact h.2|(exfalso;omega)
   exact⟨by rw[L0,h0],qA,by rw[<-oB,hP];rfl,by rw[hP]⟩
  ·rw[wJ.2.1] at h;cases h
  have ue:d≠c:=fun e=>(r5 z (.tail _ pR)).2.1 (e▸h)
  obtain⟨y,hy,e1,e2,e3,e4,_⟩:=hold d hd ue;have h5:=s.mV z y (.tail _ pR) hy (by rw[e1];exact h);rw[<-e2,<-e3,<-e4,<-e1,qo y hy,qo z (.tail _ pR)];exact h5
 ·have fin:∀(x0:NR),x0∈x::T0->∀y∈x::T0,x0.mP=some y.n->y≠x:=fun x0 L2 y hy hh e=>Dt (by have:=(s.mP x0 y L2 hy hh).1;rw[e] at this;exact this)
  rcases nM z hz with rfl|rfl|pR
  ·rcases(ha _).1 h with h|⟨h0,h1⟩
   ·have ue:d≠c:=fun e=>(r5 x hx).2.2 (e▸h)
    obtain⟨y,hy,e1,e2,e3,e4,e5,e6⟩:=hold d hd ue;have h5:=s.mP x y hx hy (by rw[e1];exact h);rcases e6 with⟨_,e6⟩|⟨e6,_⟩
    ·exact absurd e6 (fin x hx y hy (by rw[e1];exact h))
    rw[e6,qo y hy,qX,fn];exact h5
   have ue:d=c:=by
    rcases nM d hd with h|h|h
    ·rw[h,fn] at h1;exact absurd h1 rG
    ·exact h
    exact absurd h1 (tu d (.tail _ h))
   subst ue;rw[fn,qo x hx,qc];have hP:tk::mY=[.A]/\d.pc=ny (q x.n++[.A]):=by rcases BX with h|h|h<;>first|exact h.2|(exfalso;omega)
   exact⟨by rw[L0,h0],qA,by rw[<-oB,hP.1];rfl,by rw[hP.1],wJ.1,wJ.2.1,wJ.2.2,by rw[hP.1];exact hP.2⟩
  ·rw[wJ.2.2] at h;cases h
  have ue:d≠c:=fun e=>(r5 z (.tail _ pR)).2.2 (e▸h)
  obtain⟨y,hy,e1,e2,e3,e4,e5,e6⟩:=hold d hd ue;have h5:=s.mP z y (.tail _ pR) hy (by rw[e1];exact h);rcases e6 with⟨_,e6⟩|⟨e6,_⟩
  ·exact absurd e6 (fin z (.tail _ pR) y hy (by rw[e1];exact h))
  rw[e6,qo y hy,qo z (.tail _ pR)];exact h5
 ·obtain⟨rt,g1,g2,g3,g4,g5,g6,g7⟩:=s.rt;rcases af.1 g1 with h|h
  ·subst h;exact⟨X,.head _,by rw[fn,g2],by rw[Wm,g3],by rw[Wn,g4],by rw[GD];exact g5,by rw[<-g2,qo rt hx,g2,GD];exact g6,fun _=>by rw[GD];exact g7 hR⟩
  exact⟨rt,GF rt h,g2,g3,g4,g5,by rw[<-g2,qo rt g1,g2];exact g6,fun _=>g7 hR⟩
 ·have main:∀y∈x::T0,d≠c->d'≠c->d.n∈y.kids->d'.n∈y.kids->d.n=d'.n:=by
   intro y hy n1 n2 h1 h2;obtain⟨a,b1,b2,_,_,_,b6,_⟩:=hold d hd n1;obtain⟨a',b1',Wr,_,_,_,b6',_⟩:=hold d' tO n2;rw[<-b2,<-Wr];exact s.dl y a a' hy b1 b1' (by rw[b2];exact h1) (by rw[Wr];exact h2) (by rw[b6,b6'];exact e3)
  have Ws:∀u∈X::c::T0,u≠c->u.n∈x.kids->u.nP=c.nP->False:=by
   intro u hu n1 h1 h2;obtain⟨a,b1,b2,_,_,_,b6,_⟩:=hold u hu n1;obtain⟨t',l',w1,w2,w3,w4,_⟩:=s.ch (.st hx b1 (by rw[b2];exact h1):Ch (x::T0) x a);have nD:a.nP=tk.byte:=by rw[b6,h2,AY]
   have um:=s.q8 x a hx b1 (by rw[b2];exact h1)
   have u3:tk.ok:=by
    rcases BX with h|h|h
    ·exact(h.2 tk (.head _)).ok
    ·have:=h.2;simp only[aM] at this;rw[this.1];trivial
    have:=h.2.1;simp only[aM] at this;rw[this.1];trivial
   have:t'=tk:=Tok.Jp w3 u3 (by rw[w2,nD]);subst this;exact xl a (.st hx b1 (by rw[b2];exact h1)) (by rw[w1];exact⟨l',by simp⟩)
  rcases nM z hz with rfl|rfl|pR
  ·by_cases n1:d=c
   ·by_cases n2:d'=c
    ·rw[n1,n2]
    exfalso;rcases(hk _).1 e2 with h|⟨_,h⟩
    ·exact Ws d' tO n2 h (by rw[<-e3,n1])
    rcases nM d' tO with h'|h'|h'
    ·rw[h',fn] at h;exact rG h
    ·exact n2 h'
    exact tu d' (.tail _ h') h
   by_cases n2:d'=c
   ·exfalso;rcases(hk _).1 e1 with h|⟨_,h⟩
    ·exact Ws d hd n1 h (by rw[e3,n2])
    rcases nM d hd with h'|h'|h'
    ·rw[h',fn] at h;exact rG h
    ·exact n1 h'
    exact tu d (.tail _ h') h
   have hh:∀u∈z::c::T0,u≠c->u.n∈z.kids->u.n∈x.kids:=fun u hu nu h=>by
    rcases(hk _).1 h with h|⟨_,h⟩
    ·exact h
    exfalso;rcases nM u hu with h'|h'|h'
    ·rw[h',fn] at h;exact rG h
    ·exact nu h'
    exact tu u (.tail _ h') h
   exact main x hx n1 n2 (hh d hd n1 e1) (hh d' tO n2 e2)
  ·rw[wJ.1] at e1;cases e1
  exact main z (.tail _ pR) (fun e=>(r5 z (.tail _ pR)).1 (e▸e1)) (fun e=>(r5 z (.tail _ pR)).1 (e▸e2)) e1 e2
 ·rename_i pX;rcases nM z hz with rfl|rfl|pR
  ·rw[Wo,GD];exact s.nP x hx (by rw[<-GD];exact pX)
  ·rw[AY,<-oB];rfl
  exact s.nP z (.tail _ pR) pX
 ·have hXc:Ch (X::c::T0) X c:=by
   rcases BX with h|h|h
   ·exact .st (.head _) (.tail _ (.head _)) ((hk _).2 (.inr ⟨h.1,rfl⟩))
   ·exact .pa (.head _) (.tail _ (.head _)) ((hp _).2 (.inr ⟨h.1,rfl⟩))
   exact .an (.head _) (.tail _ (.head _)) ((ha _).2 (.inr ⟨h.1,rfl⟩))
  have key:∀a,uc (x::T0) root a->uc (X::c::T0) root a:=by
   intro a DW
   induction DW with
   |refl=>exact .refl
   | @step y d _ hc ih=>
    obtain⟨d',h3,h4⟩:=y8 d hc.r;rw[<-h4];rcases af.1 hc.l with h|h
    ·subst h;refine .step (x:=X) (by rw[fn];exact ih) ?_
     cases hc with
     |st _ _ h=>exact .st (.head _) h3 ((hk _).2 (.inl (by rw[h4];exact h)))
     |pa _ _ h=>exact .pa (.head _) h3 ((hp _).2 (.inl (by rw[h4];exact h)))
     |an _ _ h=>exact .an (.head _) h3 ((ha _).2 (.inl (by rw[h4];exact h)))
    refine .step (x:=y) ih ?_
    cases hc with
    |st _ _ h'=>exact .st (GF y h) h3 (by rw[h4];exact h')
    |pa _ _ h'=>exact .pa (GF y h) h3 (by rw[h4];exact h')
    |an _ _ h'=>exact .an (GF y h) h3 (by rw[h4];exact h')
  rcases nM z hz with rfl|rfl|pR
  ·rw[fn];exact key x.n (s.reach x hx)
  ·exact .step (x:=X) (by rw[fn];exact key x.n (s.reach x hx)) hXc
  exact key z.n (s.reach z (.tail _ pR))
 ·rcases af.1 he with rfl|he
  ·show(q x.n++tk::mY).head? =_;rcases aej with h|h
   ·cases hq:q x.n with
    |nil=>exact absurd hq Wq
    |cons a l=>rw[hq] at h;exact h
   exact absurd h Wq
  exact s.hd e he
 ·rcases af.1 he with rfl|he
  ·exact⟨c,.tail _ (.head _),qc⟩
  obtain⟨y,hy,e2⟩:=s.uZ e he;rcases af.1 hy with h|h
  ·exact⟨X,.head _,by rw[qX,<-h];exact e2⟩
  exact⟨y,GF y h,by rw[qo y hy];exact e2⟩
 ·rcases nM z hz with rfl|rfl|pR
  ·obtain⟨e,he,h⟩:=s.vC hR x hx;exact⟨e,.tail _ he,by rw[qX];exact h⟩
  ·exact⟨_,.head _,by rw[qc];exact cU⟩
  obtain⟨e,he,h⟩:=s.vC hR z (.tail _ pR);exact⟨e,.tail _ he,by rw[qo z (.tail _ pR)];exact h⟩
 ·show Bw.pE z m=sL R m _;rcases nM z hz with rfl|rfl|pR
  ·rw[qX,<-s.pE x hx m];simp only[Bw.pE,ff,L1,fnf]
  ·rw[qc,Wh aei];simp only[Bw.pE,Gz,uD,PY];split
   ·rfl
   unfold getM;split<;>rfl
  rw[qo z (.tail _ pR)];exact s.pE z (.tail _ pR) m
 ·rcases nM z hz with rfl|rfl|pR
  ·exact aeg
  ·rw[Jq,wJ.1,wJ.2.1,wJ.2.2];rfl
  exact s.leaf z (.tail _ pR) p6
 ·rcases nM z hz with rfl|rfl|pR
  ·rw[Wp,ff,L1];exact s.nn x hx
  ·rw[EL,uD,PY];rfl
  exact s.nn z (.tail _ pR)
 ·rcases nM z hz with rfl|rfl|pR
  ·rw[Wp,ff,L1,aef];exact s.nH x hx
  ·rw[EL];intro h;cases h
  exact s.nH z (.tail _ pR)
 rcases nM z hz with rfl|rfl|pR
 ·rw[L1];exact s.kv x hx
 ·rw[PY];intro p hp;cases hp
 exact s.kv z (.tail _ pR)
variable {T T0:List NR} {q:Nat->List Tok} {R:List En} {root:Nat}
theorem PZ {m:List UInt8} {i:Nat} (h:nY m=some i):i<11:=by
 unfold nY at h
 repeat' (split at h;· simp only[bk] at h;omega)
 cases h
theorem aen (f:Nat->Option Nat) (kv:AL) (m:List UInt8) (h:Nat):re (qI f m h) (pY kv m h)=true:=by
 unfold qI pY
 cases hm:nY m with
 |some i=>
  have:=PZ hm;have oF:i=0\/i=1\/i=2\/i=3\/i=4\/i=5\/i=6\/i=7\/i=8\/i=9\/i=10:=by omega
  rcases oF with rfl|rfl|rfl|rfl|rfl|rfl|rfl|rfl|rfl|rfl|rfl<;>simp[re]
 |none=>
  have:(tQ kv m h).isEmpty =false:=by
   cases kv with
   |nil=>rfl
   |cons p r=>obtain⟨k,v⟩:=p;simp only[tQ];split<;>rfl
  simp[re,this]
structure DS (r r':NR):Prop where
 f:r'.f=r.f
 kv:r'.kv=r.kv
 nf:r'.nf=r.nf
 nn:r'.nn=r.nn
 nH:r'.nH=r.nH
theorem DS.pE {r r':NR} (h:DS r r') (m):Bw.pE r' m=Bw.pE r m:=by simp only[Bw.pE,h.f,h.kv,h.nf]
theorem sy.ss {h hp bx r r1} (a:sy h hp bx r r1):SS r r1/\r1.leaf=r.leaf/\r1.pc=r.pc:=by
 rcases a with⟨_,rfl⟩|⟨_,a⟩
 ·exact⟨.refl _,rfl,rfl⟩
 cases a<;>exact⟨⟨rfl,rfl,rfl,rfl,rfl,rfl,rfl,rfl⟩,rfl,rfl⟩
theorem sy.facts {h hp bx r r1} (a:sy h hp bx r r1) (h1:r.nn=re r.f r.kv) (h2:r.nn=true->BN r.f r.kv r.nH) (h3:∀p∈r.kv,nY p.1=none/\p.1≠oo):
  r1.nn=re r1.f r1.kv/\(r1.nn=true->BN r1.f r1.kv r1.nH)/\(∀p∈r1.kv,nY p.1=none/\p.1≠oo)/\∀m,Bw.pE r1 m=if hp.isSome=true/\bx=m then some h else Bw.pE r m:=by
 rcases a with⟨rfl,rfl⟩|⟨hs,a⟩
 ·exact⟨h1,h2,h3,fun m=>by simp⟩
 refine⟨?_,?_,?_,fun m=>by rw[ad0 a];simp[hs]⟩
 ·cases a with
  |nf e=>exact h1
  |mk e m1 m2=>exact(aen _ _ _ _).symm
 ·cases a with
  |nf e=>exact h2
  |mk e m1 m2=>exact fun _=>m2
 cases a with
 |nf e=>exact h3
 |mk e m1 m2=>
  intro p hp;simp only[pY] at hp;split at hp
  ·exact h3 p hp
  rename_i hn;rcases LI _ _ _ _ hp with h4|⟨z,h4,h5⟩
  ·rw[h4];exact⟨hn,e⟩
  rw[<-h5];exact h3 z h4
theorem SS.trans {a b c:NR} (h:SS a b) (k:SS b c):SS a c:=⟨k.n.trans h.n,k.ng.trans h.ng,k.mV.trans h.mV,k.mP.trans h.mP,k.pre.trans h.pre,k.kids.trans h.kids,k.kd.trans h.kd,k.nP.trans h.nP⟩
theorem Sh.put (s:Sh T q R root) {r r1 r':NR} {h:Nat} {hp:Option Nat} {bx:List UInt8} {nA:List Tok} (hT:T.Perm (r::T0)) (hR:R≠[]) (ha:sy h hp bx r r1) (qG:SS r1 r') (BY:DS r1 r')
  (Jq:r.kd=1->r'.leaf=(r.kids.isEmpty&&r.mV.isNone&&r.mP.isNone)) (oH:r.kd=2->r'.pc=ny (q r.n)) (hq:q r.n=nA):
  Sh (r'::T0) q (⟨nA,hp.map fun _=>(bx,h)⟩::⟨nA,none⟩::R) root:=by
 have hr:r∈T:=hT.mem_iff.2 (.head _);obtain⟨f1,f2,f3,f4⟩:=ha.facts (s.nn r hr) (s.nH r hr) (s.kv r hr)
 have s1:=s.pM hT (.refl r) hR (R':=⟨nA,none⟩::R) (.inr ⟨_,rfl,hq.symm⟩) (fun m=>by rw[s.pE r hr m];rfl) (s.leaf r hr) (s.nn r hr) (s.nH r hr) (s.kv r hr) (fun hk=>by
  rcases s.up hr with h1|⟨x,h1⟩
  ·obtain⟨rt,g1,g2,_,g4,_⟩:=s.rt;rw[uC s.cl.nd hr g1 (h1.trans g2.symm)] at hk;omega
  cases h1 with
  |st hx hc h=>have:=(s.q8 x r hx hc h).1;omega
  |pa hx hc h=>have:=(s.mV x r hx hc h).1;omega
  |an hx hc h=>exact(s.mP x r hx hc h).2.2.2.2.2.2.2)
 refine s1.pM (.refl _) (ha.ss.1.trans qG) (by simp) (.inr ⟨_,rfl,hq.symm⟩) (fun m=>?_) Jq (by rw[BY.nn,BY.f,BY.kv];exact f1) (by rw[BY.nn,BY.f,BY.kv,BY.nH];exact f2) (by rw[BY.kv];exact f3) oH;rw[BY.pE,f4,s.pE r hr m,hq]
 cases hp with
 |none=>simp[sL]
 |some v=>simp[sL]
theorem NR.AZ {r:NR} {hp np pp}:SS r (r.po hp np pp)/\DS r (r.po hp np pp)/\(r.po hp np pp).leaf =r.leaf/\(r.po hp np pp).pc =if hp.isSome then np else r.pc:=by
 unfold NR.po;split<;>exact⟨⟨rfl,rfl,rfl,rfl,rfl,rfl,rfl,rfl⟩,⟨rfl,rfl,rfl,rfl,rfl⟩,rfl,rfl⟩
theorem NR.P1 {r:NR} {hp np}:SS r (r.pn hp np)/\DS r (r.pn hp np)/\(r.pn hp np).leaf =r.leaf/\(r.pn hp np).pc =if hp.isSome then np else r.pc:=by
 unfold NR.pn;split<;>exact⟨⟨rfl,rfl,rfl,rfl,rfl,rfl,rfl,rfl⟩,⟨rfl,rfl,rfl,rfl,rfl⟩,rfl,rfl⟩
theorem NR.L3 {r:NR}:SS r r.oP/\DS r r.oP/\r.oP.pc=r.pc:=⟨⟨rfl,rfl,rfl,rfl,rfl,rfl,rfl,rfl⟩,⟨rfl,rfl,rfl,rfl,rfl⟩,rfl⟩
theorem DS.trans {a b c:NR} (h:DS a b) (k:DS b c):DS a c:=⟨k.f.trans h.f,k.kv.trans h.kv,k.nf.trans h.nf,k.nn.trans h.nn,k.nH.trans h.nH⟩
theorem sy.pn {h hp bx np r r1} (a:sy h hp bx r r1):sy h hp bx (r.pn hp np) (r1.pn hp np):=by
 rcases a with⟨rfl,rfl⟩|⟨hs,a⟩
 ·exact .inl ⟨rfl,rfl⟩
 refine .inr ⟨hs,?_⟩;simp only[NR.pn,hs,if_true]
 cases a with
 |nf e=>exact .nf e
 |mk e m1 m2=>exact .mk (r:={r with pc:=np}) e m1 m2
theorem Jr {a b:List Tok} (ha:∀u∈a,u.ok) (hb:∀u∈b,u.ok):a.take (mK (tb a) (tb b))=b.take (mK (tb a) (tb b)):=by
 induction a generalizing b with
 |nil=>simp[tb,mK]
 |cons x a ih=>
  cases b with
  |nil=>simp[tb,PB]
  |cons y b=>
   simp only[tb,aX,mK];split
   ·rename_i e;have:x=y:=Tok.Jp (ha x (.head _)) (hb y (.head _)) e;have h2:=ih (b:=b) (fun u hu=>ha u (.tail _ hu)) (fun u hu=>hb u (.tail _ hu));simp only[tb] at h2;simp[this,h2]
   simp
theorem P2 {l:List Tok} {p:List UInt8} (h:tb l=p) (hp:okB p):l=bs p:=by
 induction l generalizing p with
 |nil=>subst h;rfl
 |cons x l ih=>
  subst h;have hx:=hp x.byte (by simp[tb]);have h2:=ih (p:=tb l) rfl fun c hc=>hp c (by simp only[tb,aX] at hc⊢;exact .tail _ hc)
  cases x with
  |b c=>simp only[tb,bs,aX,Tok.byte] at h2⊢;rw[<-h2]
  |P=>exact absurd rfl hx.1
  |A=>exact absurd rfl hx.2
theorem Sh.xt (s:Sh T q R root) {x:NR} (hx:x∈T) (hk:x.kd≠0):x.pre.length=1:=by
 rcases s.up hx with h1|⟨y,h1⟩
 ·obtain⟨rt,g1,g2,_,g4,_⟩:=s.rt;rw[uC s.cl.nd hx g1 (h1.trans g2.symm)] at hk;exact absurd g4 hk
 cases h1 with
 |st hy hc h=>exact absurd (s.q8 y x hy hc h).1 hk
 |pa hy hc h=>rw[(s.mV y x hy hc h).2.2.1];rfl
 |an hy hc h=>rw[(s.mP y x hy hc h).2.2.1];rfl
theorem Sh.aeo (s:Sh T q R root) {x:NR} (hx:x∈T) {u:Tok} (hu:u.ok) {c:Nat} (h:wX (x.kids.map fun a=>(a,q7 T a)) x.mV x.mP u.byte=some c):∃d,Ch T x d/\d.n=c/\q x.n++[u]<+:q d.n:=by
 have main:∀d,Ch T x d->d.nP=u.byte->q x.n++[u]<+:q d.n:=fun d hd e=>by
  obtain⟨t,l,e1,e2,e3,_⟩:=s.ch hd;have:t=u:=Tok.Jp e3 hu (by rw[e2,e]);rw[e1,this];exact⟨l,by simp⟩
 unfold wX at h
 cases hf:(x.kids.map fun a=>(a,q7 T a)).find? (fun p=>p.2==u.byte) with
 |some p=>
  rw[hf] at h;simp only[bk] at h;obtain⟨a,ha,rfl⟩:=aZ.1 (eD hf);obtain⟨d,hd,e⟩:=s.cl.kids x hx a ha;have h2:=List.find?_some hf;simp only[beq_iff_eq] at h2;have hc:Ch T x d:=.st hx hd (by rw[e];exact ha)
  exact⟨d,hc,by rw[e];exact h,main d hc (by rw[<-EH s.cl.nd hd,e];exact h2)⟩
 |none=>
  rw[hf] at h;simp only at h;split at h
  ·rename_i e58;obtain⟨d,hd,e⟩:=s.cl.mV x hx c h;have h4:=s.mV x d hx hd (by rw[e];exact h);have:u=.P :=Tok.Jp hu (t:=.P) trivial e58;exact⟨d,.pa hx hd (by rw[e];exact h),e,by rw[h4.2.2.2,this];exact cU⟩
  split at h
  ·rename_i e42;obtain⟨d,hd,e⟩:=s.cl.mP x hx c h;have h4:=s.mP x d hx hd (by rw[e];exact h);have:u=.A :=Tok.Jp hu (t:=.A) trivial e42;exact⟨d,.an hx hd (by rw[e];exact h),e,by rw[h4.2.2.2.1,this];exact cU⟩
  cases h
theorem Sh.aer (s:Sh T q R root) {x:NR} {u:Tok} (h:wX (x.kids.map fun a=>(a,q7 T a)) x.mV x.mP u.byte=none):∀d,Ch T x d->¬q x.n++[u]<+:q d.n:=by
 intro d hd hp;obtain⟨t,l,e1,e2,e3,_⟩:=s.ch hd
 have htu:t=u:=by
  rw[e1] at hp;have:=(bu _).1 hp;simpa using(ct.1 this).1.symm
 subst htu;unfold wX at h
 cases hf:(x.kids.map fun a=>(a,q7 T a)).find? (fun p=>p.2==t.byte) with
 |some p=>rw[hf] at h;cases h
 |none=>
  rw[hf] at h;simp only at h
  cases hd with
  |st hx hc hk=>
   have:=List.find?_eq_none.1 hf (d.n,q7 T d.n) (aZ.2 ⟨d.n,hk,rfl⟩);rw[EH s.cl.nd hc,<-e2] at this
   simp at this
  |pa hx hc hk=>
   have h4:=(s.mV x d hx hc hk).2.2.2;rw[e1] at h4;have:=aR h4;simp only[aM] at this
   rw[this.1] at h;simp[Tok.byte,hk] at h
  |an hx hc hk=>
   have h4:=(s.mP x d hx hc hk).2.2.2.1;rw[e1] at h4;have:=aR h4;simp only[aM] at this;rw[this.1] at h;simp[Tok.byte,hk] at h
structure BZ (T:List NR) (q:Nat->List Tok) (t:Nat) (hp:Option Nat) (np:Nat) (nA:List Tok):Prop where
 ok:∀u∈nA,u.ok
 hd:nA.head? =some (.b 47)
 A:∀p r,nA=p++.A ::r->r=[]
 pos:∀p u r,nA=p++u::r->¬u.st->(∃y∈T,q y.n=p++[u])\/(r=[]/\(∃y∈T,q y.n=p)/\(t=1/\u=.P \/t=2/\u=.A))
 k1:t=1->∃p,nA=p++[.P]
 k2:t=2->∃p,nA=p++[.A]
 t3:t<3
 np:hp.isSome=true->np=ny nA
 h2:t=2->hp.isSome=true
variable {T:List NR} {q:Nat->List Tok} {R:List En} {root:Nat}
theorem Sh.reR (s:Sh T q R root) {R':List En} (h1:∀e'∈R',∃e∈R,e.tk=e'.tk) (h2:∀e∈R,∃e'∈R',e'.tk=e.tk) (h3:∀m p,sL R' m p=sL R m p):Sh T q R' root:=by
 have mW:R'=[]<->R=[]:=by
  constructor
  ·intro h;cases R with
   |nil=>rfl
   |cons e R=>obtain⟨e',vJ,_⟩:=h2 e (.head _);rw[h] at vJ;cases vJ
  intro h;cases R' with
  |nil=>rfl
  |cons e R'=>obtain⟨e',vJ,_⟩:=h1 e (.head _);rw[h] at vJ;cases vJ
 exact{
  cl:=s.cl,q8:=s.q8,mV:=s.mV,mP:=s.mP
  rt:=by obtain⟨r,a1,a2,a3,a4,a5,a6,a7⟩:=s.rt;exact⟨r,a1,a2,a3,a4,a5,a6,fun h=>a7 fun h'=>h (mW.2 h')⟩
  one:=fun h=>s.one (mW.1 h),dl:=s.dl,nP:=s.nP,reach:=s.reach
  hd:=fun e he=>by obtain⟨e',h,h'⟩:=h1 e he;rw[<-h'];exact s.hd e' h
  uZ:=fun e he=>by obtain⟨e',h,h'⟩:=h1 e he;rw[<-h'];exact s.uZ e' h
  vC:=fun h r hr=>by obtain⟨e,he,hp⟩:=s.vC (fun h'=>h (mW.2 h')) r hr;obtain⟨e',vJ,h'⟩:=h2 e he;exact⟨e',vJ,h'▸hp⟩
  pE:=fun r hr m=>by rw[h3];exact s.pE r hr m
  leaf:=s.leaf,nn:=s.nn,nH:=s.nH,kv:=s.kv}
theorem Sh.dup {e e':En} (s:Sh T q (e::e'::e'::R) root):Sh T q (e::e'::R) root:=
 s.reR (fun x hx=>⟨x,by simp only[af] at hx⊢;rcases hx with h|h|h<;>simp[h],rfl⟩) (fun x hx=>⟨x,by simp only[af] at hx⊢;rcases hx with h|h|h|h<;>simp[h],rfl⟩) (fun m p=>by
  simp only[sL]
  cases e.rm with
  |none=>
   cases e'.rm with
   |none=>rfl
   |some v=>obtain⟨a,b⟩:=v;simp only;split<;>rfl
  |some w=>
   obtain⟨c,d⟩:=w
   cases e'.rm with
   |none=>rfl
   |some v=>obtain⟨a,b⟩:=v;simp only;split<;>(try rfl);split<;>rfl)
theorem Sh.aeu (s:Sh T q R root) {x c:NR} (h:Ch T x c) {l:List Tok} (e:q c.n=q x.n++l):∀u∈l,u.ok:=by
 cases h with
 |st hx hc h=>
  obtain⟨_,_,_,h4,h5⟩:=s.q8 x c hx hc h;rw[e] at h5;rw[aR h5]
  exact fun u hu=>(PS h4 u hu).ok
 |pa hx hc h=>
  have h5:=(s.mV x c hx hc h).2.2.2;rw[e] at h5;rw[aR h5]
  intro u hu;rw[aj.1 hu];trivial
 |an hx hc h=>
  have h5:=(s.mP x c hx hc h).2.2.2.1;rw[e] at h5;rw[aR h5];intro u hu;rw[aj.1 hu];trivial
theorem Sh.any (s:Sh T q R root) {r:NR} (hr:r∈T) (hk:r.kd=2):r.pc=ny (q r.n)/\∃p,q r.n=p++[.A]:=by
 rcases s.up hr with h1|⟨x,h1⟩
 ·obtain⟨rt,g1,g2,_,g4,_⟩:=s.rt;rw[uC s.cl.nd hr g1 (h1.trans g2.symm)] at hk;omega
 cases h1 with
 |st hx hc h=>have:=(s.q8 x r hx hc h).1;omega
 |pa hx hc h=>have:=(s.mV x r hx hc h).1;omega
 |an hx hc h=>exact⟨(s.mP x r hx hc h).2.2.2.2.2.2.2,_,(s.mP x r hx hc h).2.2.2.1⟩
theorem Sh.aev (s:Sh T q R root) (hR:R≠[]) {h:Nat} {hp:Option Nat} {bx:List UInt8} {t np:Nat} {pp:List UInt8} {nA:List Tok} (nG:BZ T q t hp np nA)
  {n:Nat} {sr:List UInt8} {T':List NR} (hI:xI T h hp bx t np pp n sr T') (nj:(T'.map NR.n).Nodup):
  ∀(ts xt start:List Tok) (x:NR),x∈T->x.n=n->q x.n=start++xt->tb xt=x.pre->(∀u∈xt,u.ok)->tb ts=sr->nA=start++ts->mK sr x.pre≠0->
   ∃q',Sh T' q' (⟨nA,hp.map fun _=>(bx,h)⟩::⟨nA,none⟩::R) root:=by
 have P3:∀p u,nA=p++[u]->u.st->t=0:=fun p u e hu=>by
  have h3:=nG.t3;rcases cn t 1 with h0|h0
  ·omega
  exfalso;have:t=1\/t=2:=by omega
  rcases this with h1|h1
  ·obtain⟨p',e'⟩:=nG.k1 h1;rw[e] at e';have:=(gk e' rfl).2;simp only[aM,and_true] at this;rw[this] at hu;exact hu
  obtain⟨p',e'⟩:=nG.k2 h1;rw[e] at e';have:=(gk e' rfl).2;simp only[aM,and_true] at this;rw[this] at hu;exact hu
 induction hI with
 |root hT hl ha=>
  rename_i r r1 T0 s0;intro ts xt start x hx z6 hq w5 A0 pz oB h0;have:x=r:=uC s.cl.nd hx (hT.mem_iff.2 (.head _)) z6;subst this
  exact absurd hl h0
 |split hT h0 hl hs ho ha=>
  rename_i r r1 T0 s0 b m ad cp Hs;intro ts xt start x hx z6 hq w5 A0 pz oB _;have:x=r:=uC s.cl.nd hx (hT.mem_iff.2 (.head _)) z6;subst this;have hk:x.kd=0:=cg fun hk=>by have:=s.xt hx hk;omega
  have nk:=(s.static hx hk).1;have Du:=P2 w5 nk;have u3:∀u∈ts,u.ok:=fun u hu=>nG.ok u (by rw[oB];exact au _ hu)
  have vD:=Jr u3 A0;rw[pz,w5] at vD;have mS:ts.length=s0.length:=by rw[<-pz];simp[tb]
  rw[bJ (by omega),Du] at vD;have L4:ts=bs (x.pre.take (mK s0 x.pre)):=by rw[vD];simp[bs]
  have hb:∀y∈T,y.n≠b:=fun y hy e=>by
   have e1:(r1.po hp np pp).oP.n =x.n:=by show(r1.po hp np pp).n =_;rw[NR.Gn,ha.n];rfl
   simp only[aX] at nj;rcases af.1 (hT.mem_iff.1 hy) with h1|h1
   ·rw[h1] at e;have:=(bf.1 nj).1;exact this (by rw[e1,e];exact .head _)
   have:=(bf.1 (bf.1 nj).2).1;refine this (aZ.2 ⟨_,aZ.2 ⟨y,h1,rfl⟩,oR.1.trans e⟩)
  have s1:=s.cut hT hR hk (Nat.pos_of_ne_zero h0) hl hb m ad cp Hs (start:=start) (by rw[hq,Du])
  have mW:x.pre.take (mK s0 x.pre)≠[]:=fun e=>by
   rw[List.take_eq_nil_iff] at e;rcases e with e|e
   ·exact h0 e
   rw[e] at hl;simp at hl
  have zR:t=0:=by
   obtain⟨u,hu⟩:∃u,ts.getLast? =some u:=by
    cases A3:ts.getLast? with
    |none=>rw[fK] at A3;rw[A3] at L4;exact absurd (by simpa[bs] using L4.symm) mW
    |some u=>exact⟨u,rfl⟩
   obtain⟨Cy,Dv⟩:=fL.1 hu;refine P3 (start++Cy) u (by rw[oB,Dv];simp) ?_;have:u∈bs (x.pre.take (mK s0 x.pre)):=by rw[<-L4,Dv];simp
   exact PS (fun c hc=>nk c (dY hc)) u this
  subst zR;refine⟨_,s1.put (r:=x.top m (mK s0 x.pre) [b] ad cp Hs) (.refl _) hR ha (NR.AZ.1.trans NR.L3.1) (NR.AZ.2.1.trans NR.L3.2.1) (fun h=>by cases h) (fun h=>by cases h) ?_⟩;show q1 q b x.n (start++bs (x.pre.take (mK s0 x.pre))) x.n=nA;have EM:x.n≠b:=hb x hx;simp only[q1,if_neg EM,if_true]
  rw[oB,L4]
 |PD hT h0 hl hs ho ha=>
  rename_i r r1 T0 s0 b m b2 m2 ad cp Hs;intro ts xt start x hx z6 hq w5 A0 pz oB _;have:x=r:=uC s.cl.nd hx (hT.mem_iff.2 (.head _)) z6;subst this;have hk:x.kd=0:=cg fun hk=>by have:=s.xt hx hk;omega
  have nk:=(s.static hx hk).1;have Du:=P2 w5 nk;have u3:∀u∈ts,u.ok:=fun u hu=>nG.ok u (by rw[oB];exact au _ hu)
  have vD:=Jr u3 A0;rw[pz,w5] at vD;have mS:ts.length=s0.length:=by rw[<-pz];simp[tb]
  have aew:ts.take (mK s0 x.pre)=bs (x.pre.take (mK s0 x.pre)):=by rw[vD,Du];simp[bs]
  have hb:∀y∈T,y.n≠b:=fun y hy e=>by
   simp only[aX] at nj;rcases af.1 (hT.mem_iff.1 hy) with h1|h1
   ·rw[h1] at e;have:=(bf.1 nj).1;exact this (by show x.n∈_;rw[e];exact .tail _ (.head _))
   have:=(bf.1 (bf.1 (bf.1 nj).2).2).1;refine this (aZ.2 ⟨_,aZ.2 ⟨y,h1,rfl⟩,oR.1.trans e⟩)
  have pI:(r1.po hp np pp).n =b2:=by rw[NR.Gn,ha.n];rfl
  have sf:∀y∈(x.top m (mK s0 x.pre) [b] none 0 []::x.low b (mK s0 x.pre)::T0.map (NR.nR (x.kids++x.mV.toList++x.mP.toList) b)),y.n≠b2:=fun y hy e=>by
   simp only[aX] at nj;rcases af.1 hy with h1|h1
   ·have:=(bf.1 nj).1;refine this ?_;show x.n∈_;rw[show x.n=b2 by rw[<-e,h1];rfl,<-pI];exact .head _
   have:=(bf.1 (bf.1 nj).2).1;refine this ?_;rw[pI,<-e];rcases af.1 h1 with h1|h1
   ·rw[h1];exact .head _
   exact .tail _ (aZ.2 ⟨y,h1,rfl⟩)
  have s1:=s.cut hT hR hk (Nat.pos_of_ne_zero h0) hl hb m none 0 [] (start:=start) (by rw[hq,Du])
  obtain⟨tk,mY,Dw⟩:∃tk mY,ts.drop (mK s0 x.pre)=tk::mY:=by
   cases hd:ts.drop (mK s0 x.pre) with
   |nil=>have:=congrArg List.length hd;simp at this;omega
   |cons a l=>exact⟨a,l,rfl⟩
  have EM:x.n≠b:=hb x hx;have P4:q1 q b x.n (start++bs (x.pre.take (mK s0 x.pre))) x.n=start++bs (x.pre.take (mK s0 x.pre)):=by simp only[q1,if_neg EM,if_true]
  have wb:nA=start++bs (x.pre.take (mK s0 x.pre))++tk::mY:=by rw[oB,<-aew,<-Dw,aw,a8]
  have z7:tb (tk::mY)=s0.drop (mK s0 x.pre):=by rw[<-Dw,<-pz];simp[tb]
  have yx:x.pre.drop (mK s0 x.pre)≠[]:=fun e=>by have:=congrArg List.length e;simp at this;omega
  have Wt:∀c cs,x.pre.drop (mK s0 x.pre)=c::cs->tk≠ .b c:=fun c cs hc e=>by
   have key:∀(a b:List UInt8) (c:UInt8) (x y:List UInt8),a.drop (mK a b)=c::x->b.drop (mK a b)=c::y->False:=by
    intro a
    induction a with
    |nil=>intro b c x y h1 h2;simp[mK] at h1
    |cons a0 a ih=>
     intro b c x y h1 h2
     cases b with
     |nil=>simp[mK] at h2
     |cons b0 b=>
      simp only[mK] at h1 h2;split at h1
      ·rename_i e;rw[if_pos e] at h2;exact ih b c x y (by simpa using h1) (by simpa using h2)
      rename_i e;rw[if_neg e] at h2;simp only[dT,aM] at h1 h2;exact e (h1.1.trans h2.1.symm)
   refine key s0 x.pre c (tb mY) cs ?_ hc;rw[<-z7,e];rfl
  obtain⟨c1,P5,oV⟩:∃c cs,x.pre.drop (mK s0 x.pre)=c::cs:=by
   cases hd:x.pre.drop (mK s0 x.pre) with
   |nil=>exact absurd hd yx
   |cons a l=>exact⟨a,l,rfl⟩
  obtain⟨c0,P6,yv⟩:∃c cs,x.pre=c::cs:=by
   cases hd:x.pre with
   |nil=>rw[hd] at hl;simp at hl
   |cons a l=>exact⟨a,l,rfl⟩
  have nN:∀y∈T,∀l,q y.n=start++bs (x.pre.take (mK s0 x.pre))++l->(l=[]\/∃l',l=tk::l')->False:=by
   intro y hy l sG A3
   have Wu:start++[.b c0]<+:q y.n:=by
    rw[sG,yv]
    cases V7:mK s0 (c0::P6) with
    |zero=>rw[yv] at h0;exact absurd V7 h0
    |succ j=>exact⟨bs (P6.take j)++l,by simp[bs]⟩
   have Wv:q x.n<+:q y.n:=by
    rcases(s.static hx hk).2 with h1|⟨z,hz,h1⟩
    ·rw[h1];exact s.Ds (s.reach y hy)
    have h5:=(s.q8 z x hz hx h1).2.2.2.2;have mO:start=q z.n:=by rw[hq,Du] at h5;exact fR h5
    rw[mO] at Wu;obtain⟨d,g1,g2,g3⟩:=s.next hz hy Wu;have:d=x:=s.LZ g1 (.st hz hx h1) g2 (by rw[h5,yv];exact⟨bs P6,by simp[bs]⟩);rw[<-this];exact g3
   rw[hq,Du,sG,aw] at Wv;have:=(bu _).1 Wv;rw[<-a8 (mK s0 x.pre) x.pre,CJ,oV] at this
   have h3:bs (c1::P5)<+:l:=by
    have:=this;rw[<-oV,a8,oV] at this;exact(bu _).1 this
   rcases A3 with h4|⟨l',h4⟩
   ·rw[h4] at h3;simp[bs] at h3
   rw[h4] at h3;have:=(ct.1 h3).1;exact Wt c1 P5 oV this.symm
  have Ww:∀u∈tk::mY,u.st:=by
   intro u hu;obtain⟨a,b',pq⟩:=eR hu;refine bD fun mO=>?_
   rcases nG.pos (start++bs (x.pre.take (mK s0 x.pre))++a) u b' (by rw[wb,pq];simp) mO with⟨y,hy,e⟩|⟨_,⟨y,hy,e⟩,_⟩
   ·refine nN y hy (a++[u]) (by rw[e];simp) (.inr ?_)
    cases a with
    |nil=>simp only[cv,aM] at pq;exact⟨[],by simp[pq.1]⟩
    |cons a0 a=>simp only[aW,aM] at pq;exact⟨a++[u],by simp[pq.1]⟩
   refine nN y hy a e ?_
   cases a with
   |nil=>exact .inl rfl
   |cons a0 a=>simp only[aW,aM] at pq;exact .inr ⟨a,by rw[pq.1]⟩
  have zR:t=0:=by
   obtain⟨u,hu⟩:∃u,(tk::mY).getLast? =some u:=by
    cases A3:(tk::mY).getLast? with
    |none=>rw[fK] at A3;cases A3
    |some u=>exact⟨u,rfl⟩
   obtain⟨Cy,Dv⟩:=fL.1 hu;exact P3 (start++bs (x.pre.take (mK s0 x.pre))++Cy) u (by rw[wb,Dv];simp)<|Ww u (by rw[Dv];simp)
  subst zR;have GG:(x.top m (mK s0 x.pre) [b] none 0 []).n =x.n:=rfl
  have s2:=s1.child (x:=x.top m (mK s0 x.pre) [b] none 0 []) (c:=sA b2 m2 x.n (s0.drop (mK s0 x.pre)) [] 0) (x':=x.top m (mK s0 x.pre) [b,b2] ad cp Hs) (tk:=tk) (mY:=mY) (t:=0) (.refl _) hR sf
   (BQ.st (r:=x.top m (mK s0 x.pre) [b] none 0 []) (b:=b2) (ad:=ad) (cp:=cp) (Hs:=Hs) rfl ho) rfl ⟨rfl,rfl,rfl⟩ rfl z7 (.inl ⟨rfl,Ww⟩) (fun d hd qZ=>by
    obtain⟨u,l,e1,e2,e3,_⟩:=s1.ch hd
    cases hd with
    |st _ N0 um=>
     have P7:=aj.1 um;have:d=x.low b (mK s0 x.pre):=uC s1.cl.nd N0 (.tail _ (.head _)) P7;subst this
     have e5:(q1 q b x.n (start++bs (x.pre.take (mK s0 x.pre)))) b=start++bs (x.pre.take (mK s0 x.pre))++bs (x.pre.drop (mK s0 x.pre)):=by
      simp only[q1,if_true];rw[hq,Du,aw,<-CJ,a8]
     rw[show(x.low b (mK s0 x.pre)).n =b from rfl,e5,GG,P4,oV] at qZ;have:=(bu _).1 qZ
     exact Wt c1 P5 oV (ct.1 this).1
    |pa _ _ h=>cases h
    |an _ _ h=>cases h) (by show(0:Nat)≠2;omega) rfl rfl rfl (by
    show(s0.drop (mK s0 x.pre)).headD 0=_
    rw[<-z7];rfl) rfl rfl
  have s3:=s2.perm (List.Perm.swap _ _ _)
  have s4:=s3.put (r:=sA b2 m2 x.n (s0.drop (mK s0 x.pre)) [] 0) (r':=r1.po hp np pp) (nA:=nA) (.refl _) (by simp) ha NR.AZ.1 NR.AZ.2.1 (fun h=>by cases h) (fun h=>by cases h) (by
   show q2 _ b2 _ b2=_
   simp only[q2,if_true];rw[GG,P4,wb])
  have e6:start++bs (x.pre.take (mK s0 x.pre))++tk::mY=nA:=wb.symm;have s5:=s4.perm (List.Perm.swap _ _ _);rw[GG,P4,e6] at s5
  refine⟨_,Sh.dup s5⟩
 |deep hT hl h0 hs hc hI ih=>
  rename_i r s0 c T1;intro ts xt start x hx z6 hq w5 A0 pz oB _;have:x=r:=uC s.cl.nd hx hT z6;subst this;have u3:∀u∈ts,u.ok:=fun u hu=>nG.ok u (by rw[oB];exact au _ hu)
  have vD:=Jr u3 A0;rw[pz,w5,hl] at vD;have mS:ts.length=s0.length:=by rw[<-pz];simp[tb]
  have yy:xt.length=x.pre.length:=by rw[<-w5];simp[tb]
  rw[<-yy,b8] at vD
  obtain⟨tk,mY,Dw⟩:∃tk mY,ts.drop (mK s0 x.pre)=tk::mY:=by
   cases hd:ts.drop (mK s0 x.pre) with
   |nil=>have:=congrArg List.length hd;simp at this;omega
   |cons a l=>exact⟨a,l,rfl⟩
  have Js:ts=xt++tk::mY:=by
   conv=>lhs;rw[<-a8 (mK s0 x.pre) ts]
   rw[Dw,hl,<-yy,vD]
  have z7:tb (tk::mY)=s0.drop (mK s0 x.pre):=by rw[<-Dw,<-pz];simp[tb]
  have Wx:tk.ok:=u3 tk (by rw[Js];simp)
  obtain⟨d,hd,P7,Bv⟩:=s.aeo hx Wx (c:=c) (by
   rw[<-z7] at hc;exact hc)
  obtain⟨u,l,e1,e2,e3,e4,e5,_⟩:=s.ch hd
  have hu:u=tk:=by
   rw[e1] at Bv;have:=(bu _).1 Bv;exact(ct.1 this).1.symm
  refine ih nj (tk::mY) (u::l) (q x.n) d hd.r P7 e1 e5 (s.aeu hd e1) z7 (by rw[oB,Js,hq,aw]) ?_;rw[<-z7,<-e5,hu]
  simp[tb,mK]
 |child hT h0 hl hs hc ha hr=>
  rename_i r r1 r2 T0 s0 b m;intro ts xt start x hx z6 hq w5 A0 pz oB _;have:x=r:=uC s.cl.nd hx (hT.mem_iff.2 (.head _)) z6;subst this;have u3:∀u∈ts,u.ok:=fun u hu=>nG.ok u (by rw[oB];exact au _ hu)
  have vD:=Jr u3 A0;rw[pz,w5,hl] at vD;have mS:ts.length=s0.length:=by rw[<-pz];simp[tb]
  have yy:xt.length=x.pre.length:=by rw[<-w5];simp[tb]
  rw[<-yy,b8] at vD
  obtain⟨tk,mY,Dw⟩:∃tk mY,ts.drop (mK s0 x.pre)=tk::mY:=by
   cases hd:ts.drop (mK s0 x.pre) with
   |nil=>have:=congrArg List.length hd;simp at this;omega
   |cons a l=>exact⟨a,l,rfl⟩
  have Js:ts=xt++tk::mY:=by
   conv=>lhs;rw[<-a8 (mK s0 x.pre) ts]
   rw[Dw,hl,<-yy,vD]
  have z7:tb (tk::mY)=s0.drop (mK s0 x.pre):=by rw[<-Dw,<-pz];simp[tb]
  have Wx:tk.ok:=u3 tk (by rw[Js];simp);have wb:nA=q x.n++tk::mY:=by rw[oB,Js,hq,aw]
  have xl:∀d,Ch T x d->¬q x.n++[tk]<+:q d.n:=s.aer (u:=tk) (by rw[<-z7] at hc;exact hc);have aex:r2.oP.n=x.n:=by cases hr<;>rfl
  have Wy:(r1.pn hp np).n =b:=by rw[NR.V2,ha.n];rfl
  have tu:∀y∈T,y.n≠b:=fun y hy e=>by
   simp only[aX] at nj;rcases af.1 (hT.mem_iff.1 hy) with h1|h1
   ·refine(bf.1 nj).1 ?_;rw[aex,Wy,<-h1,e];exact .head _
   refine(bf.1 (bf.1 nj).2).1 ?_;rw[Wy,<-e];exact aZ.2 ⟨y,h1,rfl⟩
  have Dt:x.kd≠2:=fun hk=>by
   obtain⟨p,uQ⟩:=(s.any hx hk).2;have:=nG.A p (tk::mY) (by rw[wb,uQ];simp);cases this
  have BX:(t=0/\∀u∈tk::mY,u.st)\/(t=1/\tk::mY=[.P])\/(t=2/\tk::mY=[.A]):=by
   have nN:∀y∈T,∀l,q y.n=q x.n++l->(∃l',l=tk::l')->False:=by
    rintro y hy l sG ⟨l',rfl⟩;obtain⟨d,g1,g2,_⟩:=s.next hx hy (t:=tk) (by rw[sG];exact⟨l',by simp⟩);exact xl d g1 g2
   by_cases pN:∀u∈tk::mY,u.st
   ·refine .inl ⟨?_,pN⟩
    obtain⟨u,hu⟩:∃u,(tk::mY).getLast? =some u:=by
     cases A3:(tk::mY).getLast? with
     |none=>rw[fK] at A3;cases A3
     |some u=>exact⟨u,rfl⟩
    obtain⟨Cy,Dv⟩:=fL.1 hu;exact P3 (q x.n++Cy) u (by rw[wb,Dv];simp) (pN u (by rw[Dv];simp))
   have:∃u∈tk::mY,¬u.st:=bD fun hn=>pN fun u hu=>bD fun sT=>hn ⟨u,hu,sT⟩
   obtain⟨u,hu,mO⟩:=this;obtain⟨a,b',pq⟩:=eR hu;rcases nG.pos (q x.n++a) u b' (by rw[wb,pq];simp) mO with⟨y,hy,e⟩|⟨No,⟨y,hy,e⟩,hk⟩
   ·exfalso;refine nN y hy (a++[u]) (by rw[e];simp) ?_
    cases a with
    |nil=>simp only[cv,aM] at pq;exact⟨[],by simp[pq.1]⟩
    |cons a0 a=>simp only[aW,aM] at pq;exact⟨a++[u],by simp[pq.1]⟩
   cases a with
   |nil=>
    rw[cv,No] at pq;rcases hk with⟨h1,h2⟩|⟨h1,h2⟩
    ·exact .inr (.inl ⟨h1,by rw[pq,h2]⟩)
    exact .inr (.inr ⟨h1,by rw[pq,h2]⟩)
   |cons a0 a=>
    exfalso;simp only[aW,aM] at pq;exact nN y hy (a0::a) e ⟨a,by rw[pq.1]⟩
  have Wz:t=2->((sA b m x.n (s0.drop (mK s0 x.pre)) pp t).pn hp np).pc =ny nA:=fun h=>by
   rw[NR.P1.2.2.2,if_pos (nG.h2 h)];exact nG.np (nG.h2 h)
  have qG:=NR.P1 (r:=sA b m x.n (s0.drop (mK s0 x.pre)) pp t) (hp:=hp) (np:=np);have r5:((sA b m x.n (s0.drop (mK s0 x.pre)) pp t).pn hp np).n =b:=qG.1.n
  have s2:=s.child (x:=x) (c:=(sA b m x.n (s0.drop (mK s0 x.pre)) pp t).pn hp np) (x':=r2) (tk:=tk) (mY:=mY) (t:=t) hT hR (by rw[r5];exact tu) (by rw[r5];exact hr) (by rw[qG.1.ng];rfl)
   ⟨by rw[qG.1.kids];rfl,by rw[qG.1.mV];rfl,by rw[qG.1.mP];rfl⟩ (by rw[qG.1.kd];rfl) (by rw[z7,qG.1.pre];rfl) (by
    rcases BX with h|h|h
    ·exact .inl h
    ·exact .inr (.inl h)
    ·exact .inr (.inr ⟨h.1,h.2,by rw[Wz h.1,wb,h.2]⟩)) xl Dt (by rw[qG.2.1.nf];rfl) (by rw[qG.2.1.f];rfl) (by rw[qG.2.1.kv];rfl) (by
    rw[qG.1.nP];show(s0.drop (mK s0 x.pre)).headD 0=_
    rw[<-z7];rfl) (by rw[qG.2.1.nn];rfl) (by rw[qG.2.2.1];rfl)
  rw[r5,<-wb] at s2;have s3:=s2.perm (List.Perm.swap _ _ _);have q4:=ha.pn (np:=np)
  have s4:=s3.put (r:=(sA b m x.n (s0.drop (mK s0 x.pre)) pp t).pn hp np) (r':=r1.pn hp np) (nA:=nA) (.refl _) (by simp) q4 (.refl _) ⟨rfl,rfl,rfl,rfl,rfl⟩ (fun _=>by
    rw[NR.P1.2.2.1,ha.ss.2.1,qG.1.kids,qG.1.mV,qG.1.mP];rfl) (fun hk=>by
    rw[qG.1.kd] at hk;rw[r5];rw[q4.ss.2.2,Wz hk]
    simp[q2]) (by rw[r5];simp[q2])
  exact⟨_,Sh.dup (s4.perm (List.Perm.swap _ _ _))⟩
 |same hT h0 hl hs ha=>
  rename_i r r1 T0 s0;intro ts xt start x hx z6 hq w5 A0 pz oB _;have:x=r:=uC s.cl.nd hx (hT.mem_iff.2 (.head _)) z6;subst this;have u3:∀u∈ts,u.ok:=fun u hu=>nG.ok u (by rw[oB];exact au _ hu)
  have vD:=Jr u3 A0;rw[pz,w5,hl] at vD;have mS:ts.length=s0.length:=by rw[<-pz];simp[tb]
  have yy:xt.length=x.pre.length:=by rw[<-w5];simp[tb]
  rw[<-yy,b8,bJ (by omega)] at vD;have WA:q x.n=nA:=by rw[hq,oB,vD]
  refine⟨_,s.put hT hR ha NR.AZ.1 NR.AZ.2.1 (fun hk=>?_) (fun hk=>?_) WA⟩
  ·rw[NR.AZ.2.2.1,ha.ss.2.1];exact s.leaf x hx hk
  rw[NR.AZ.2.2.2,ha.ss.2.2];split
  ·rename_i h1;rw[WA];exact nG.np h1
  exact(s.any hx hk).1
variable {T:List NR} {q:Nat->List Tok} {R:List En} {root:Nat}
theorem Sh.empty (r:NR) (h1:r.ng=none) (h2:r.mV=none) (h3:r.mP=none) (h4:r.nf=none) (h5:r.pre=[]) (h6:r.kids=[]) (h7:r.kd=0) (h8:r.nn=false) (h9:r.f=fun _=>none) (oF:r.kv=[]):
  Sh [r] (fun _=>[]) [] r.n:={
 cl:=⟨fun x hx a ha=>(by rw[aj.1 hx,h6] at ha;cases ha),fun x hx a ha=>(by rw[aj.1 hx,h2] at ha;cases ha),fun x hx a ha=>(by rw[aj.1 hx,h3] at ha;cases ha),
  fun x hx=>by rw[aj.1 hx,h6,h2,h3];simp,by simp⟩
 q8 x c hx hc h:=by rw[aj.1 hx,h6] at h;cases h
 mV x c hx hc h:=by rw[aj.1 hx,h2] at h;cases h
 mP x c hx hc h:=by rw[aj.1 hx,h3] at h;cases h
 rt:=⟨r,.head _,rfl,h1,h7,(by rw[h5];intro c hc;cases hc),(by rw[h5];rfl),fun h=>absurd rfl h⟩
 one _ x hx:=by rw[aj.1 hx];exact⟨rfl,h5,h6,h2,h3⟩
 dl x c d hx hc hd h:=by rw[aj.1 hx,h6] at h;cases h
 nP x hx h:=by rw[aj.1 hx] at h;exact absurd h5 h
 reach x hx:=by rw[aj.1 hx];exact .refl
 hd e he:=by cases he
 uZ e he:=by cases he
 vC h:=absurd rfl h
 pE x hx m:=by
  rw[aj.1 hx];simp only[Bw.pE,h4,h9,oF,sL];split
  ·rfl
  unfold getM;split<;>rfl
 leaf x hx h:=by rw[aj.1 hx,h7] at h;cases h
 nn x hx:=by rw[aj.1 hx,h8,h9,oF];rfl
 nH x hx h:=by rw[aj.1 hx,h8] at h;cases h
 kv x hx:=by rw[aj.1 hx,oF];intro p hp;cases hp}
theorem Sh.aey (s:Sh T q [] root) {h:Nat} {hp:Option Nat} {bx:List UInt8} {t np:Nat} {pp:List UInt8} {nA:List Tok} (nG:BZ T q t hp np nA)
  {T':List NR} (hI:xI T h hp bx t np pp root (tb nA) T'):∃q',Sh T' q' [⟨nA,hp.map fun _=>(bx,h)⟩,⟨nA,none⟩] root:=by
 obtain⟨rt,g1,g2,g3,g4,g5,g6,_⟩:=s.rt;have GJ:=s.one rfl
 have GG:∀y∈T,q y.n=[]:=fun y hy=>by
  rw[(GJ y hy).1,g6,(GJ rt g1).2.1];rfl
 have mO:∀u∈nA,u.st:=fun u hu=>by
  obtain⟨a,b,pq⟩:=eR hu;refine bD fun hn=>?_
  rcases nG.pos a u b pq hn with⟨y,hy,e⟩|⟨hb,⟨y,hy,e⟩,_⟩
  ·rw[GG y hy] at e;simp at e
  rw[GG y hy] at e;have:=nG.hd;rw[pq,<-e,hb] at this;simp only[cv,cw,bk] at this;rw[this] at hn;exact hn (by simp[Tok.st])
 have zR:t=0:=by
  have h3:=nG.t3;rcases cn t 1 with h0|h0
  ·omega
  exfalso;have:t=1\/t=2:=by omega
  rcases this with h1|h1
  ·obtain⟨p',e'⟩:=nG.k1 h1;exact mO .P (by rw[e'];simp)
  obtain⟨p',e'⟩:=nG.k2 h1;exact mO .A (by rw[e'];simp)
 subst zR;generalize pC:tb nA=sr at hI;generalize hn:root=n at hI;have pN:∀x∈T,x.pre=[]:=fun x hx=>(GJ x hx).2.1
 cases hI with
 |split hT h0 hl=>rw[pN _ (hT.mem_iff.2 (.head _))] at hl;simp at hl
 |PD hT h0 hl=>rw[pN _ (hT.mem_iff.2 (.head _))] at hl;simp at hl
 |deep hT hl h0=>exact absurd (pN _ hT) h0
 |child hT h0=>exact absurd (pN _ (hT.mem_iff.2 (.head _))) h0
 |same hT h0=>exact absurd (pN _ (hT.mem_iff.2 (.head _))) h0
 |root hT hl ha=>
  rename_i r r1 T0;have hr:r∈T:=hT.mem_iff.2 (.head _)
  have Gp:T0=[]:=by
   cases T0 with
   |nil=>rfl
   |cons y l=>
    exfalso;have nj:=(hT.map NR.n).nodup_iff.1 s.cl.nd;have hy:y∈T:=hT.mem_iff.2 (.tail _ (.head _));simp only[aX] at nj;exact(bf.1 nj).1 (by rw[(GJ r hr).1,(GJ y hy).1];exact .head _)
  subst Gp;have p9:r=rt:=uC s.cl.nd hr g1 (hn.symm.trans g2.symm);subst p9;obtain⟨o1,o2,o3,o4,o5⟩:=GJ r hr;have aez:nA≠[]:=fun e=>by have:=nG.hd;rw[e] at this;cases this
  have vm:okB sr:=by
   rw[<-pC];intro c hc;obtain⟨u,hu,rfl⟩:=aZ.1 hc;have:=mO u hu
   cases u with
   |b c=>exact this
   |P=>exact this.elim
   |A=>exact this.elim
  have Bm:nA=bs sr:=P2 pC vm;have aeA:sr≠[]:=fun e=>aez (by rw[Bm,e];rfl)
  generalize vS:(if hp.isSome then{r with nP:=sr.headD 0,pre:=sr,kd:=0} else{r with nP:=sr.headD 0,pre:=sr}:NR)=r0 at ha
  have y9:r0={r with nP:=sr.headD 0,pre:=sr}:=by
   rw[<-vS];split
   ·rw[<-g4]
   rfl
  have hX:SS r0 (r1.po hp np pp).oP :=ha.ss.1.trans (NR.AZ.1.trans NR.L3.1);have A4:DS r1 (r1.po hp np pp).oP :=NR.AZ.2.1.trans NR.L3.2.1;obtain⟨f1,f2,f3,f4⟩:=ha.facts (by rw[y9];exact s.nn r hr) (by rw[y9];exact s.nH r hr) (by rw[y9];exact s.kv r hr);generalize (r1.po hp np pp).oP =X at hX A4;have x1:X.n=root:=by rw[hX.n,y9];exact g2
  have x2:X.kids=[]:=by rw[hX.kids,y9];exact o3
  have x3:X.mV=none:=by rw[hX.mV,y9];exact o4
  have x4:X.mP=none:=by rw[hX.mP,y9];exact o5
  have x5:X.pre=sr:=by rw[hX.pre,y9]
  have x6:X.kd=0:=by rw[hX.kd,y9];exact g4
  have nM:∀x,x∈[X]->x=X:=fun x hx=>aj.1 hx
  refine⟨fun _=>nA,{
   cl:=⟨fun x hx a ha=>(by rw[nM x hx,x2] at ha;cases ha),fun x hx a ha=>(by rw[nM x hx,x3] at ha;cases ha),fun x hx a ha=>(by rw[nM x hx,x4] at ha;cases ha),fun x hx=>by rw[nM x hx,x2,x3,x4];simp,by simp⟩
   q8:=fun x c hx hc h=>by rw[nM x hx,x2] at h;cases h
   mV:=fun x c hx hc h=>by rw[nM x hx,x3] at h;cases h
   mP:=fun x c hx hc h=>by rw[nM x hx,x4] at h;cases h
   rt:=⟨X,.head _,x1.trans hn,by rw[hX.ng,y9];exact g3,x6,by rw[x5];exact vm,by rw[x5];exact Bm,fun _=>by rw[x5];exact aeA⟩
   one:=fun h=>by cases h
   dl:=fun x c d hx hc hd h=>by rw[nM x hx,x2] at h;cases h
   nP:=fun x hx h=>by rw[nM x hx,hX.nP,x5,y9]
   reach:=fun x hx=>by rw[nM x hx,x1,hn];exact .refl
   hd:=fun e he=>by
    simp only[af,aC,or_false] at he;rcases he with rfl|rfl<;>exact nG.hd
   uZ:=fun e he=>by
    simp only[af,aC,or_false] at he;rcases he with rfl|rfl<;>exact⟨X,.head _,rfl⟩
   vC:=fun _ x hx=>⟨_,.head _,cU⟩
   pE:=fun x hx m=>by
    rw[nM x hx,A4.pE,f4,y9];have:=s.pE r hr m;simp only[sL] at this;rw[show Bw.pE {r with nP:=sr.headD 0,pre:=sr} m=Bw.pE r m from rfl,this];cases hp<;>simp[sL]
   leaf:=fun x hx h=>by rw[nM x hx,x6] at h;cases h
   nn:=fun x hx=>by rw[nM x hx,A4.nn,A4.f,A4.kv];exact f1
   nH:=fun x hx=>by rw[nM x hx,A4.nn,A4.f,A4.kv,A4.nH];exact f2
   kv:=fun x hx=>by rw[nM x hx,A4.kv];exact f3}⟩
theorem Sh.ins (s:Sh T q R root) {h:Nat} {hp:Option Nat} {bx:List UInt8} {t np:Nat} {pp:List UInt8} {nA:List Tok} (nG:BZ T q t hp np nA)
  {T':List NR} (hI:xI T h hp bx t np pp root (tb nA) T') (nj:(T'.map NR.n).Nodup):∃q',Sh T' q' (⟨nA,hp.map fun _=>(bx,h)⟩::⟨nA,none⟩::R) root:=by
 by_cases hR:R=[]
 ·subst hR;exact s.aey nG hI
 obtain⟨rt,g1,g2,g3,g4,g5,g6,g7⟩:=s.rt;refine s.aev hR nG hI nj nA (bs rt.pre) [] rt g1 g2 (by rw[g2];exact g6) (adW _) (fun u hu=>(PS g5 u hu).ok) rfl rfl ?_;have mW:=g7 hR;obtain⟨e,he,uQ⟩:=s.vC hR rt g1;have hh:=s.hd e he;rw[g2,g6] at uQ
 cases nQ:rt.pre with
 |nil=>exact absurd nQ mW
 |cons c l=>
  rw[nQ] at uQ;obtain⟨u,hu⟩:=uQ;rw[<-hu] at hh;simp only[bs,aX,aW,cw,bk,Tok.b.injEq] at hh
  cases oB:nA with
  |nil=>have:=nG.hd;rw[oB] at this;cases this
  |cons t0 ts=>
   have:=nG.hd;rw[oB] at this;simp only[cw,bk] at this;subst this;subst hh;simp[tb,mK,Tok.byte]
end Bw
