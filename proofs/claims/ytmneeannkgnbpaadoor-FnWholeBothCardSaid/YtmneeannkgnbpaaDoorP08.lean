/- Lemmas of the walk and plain facts (JgE7 .. JgE10). -/
import Derived.Test.YtmneeannkgnbpaaDoorL1
import Derived.Test.YtmneeannkgnbpaaDoorL2
import Derived.Test.YtmneeannkgnbpaaDoorP07
import Derived.Test.YtmneeannkgnbpaaDoorP01
set_option maxRecDepth 20000
namespace Go.Proofs
open Go Bw Gt
variable {wl:Bool} {hv:Value} {Hh Hr:SH} {fr:SF}
theorem aak {R:Ending->World->Prop} {w:World} {D:Nat->Prop} {nb hb num:Nat} {p full tp idx:List UInt8} {nt pr:Nat} {h0:Option Nat} {f0:List UInt8} {kids:List T0} {bs:List Nat} {kv:Value} {Hs Hk:SH}
  (hs:Own 84 1 kv kids.length (bs.map (Pt · 0)) Hs) (hh:HV h0 hv Hh) (hk:oq kids bs Hk) (oE:∀c∈p,c≠92) (mM:p.length<=100000) (qh:kids.length<=90000) (mU:Sub [(0,Pt nb 0),(1,S p),(2,S full),(3,Sx hb 1 1)] fr) (wc:List UInt8) (i:Nat) (hf:fw p 0=some (42::wc,i)) (uO:∀c∈wc,c≠58/\c≠42) (qn:wc≠[]) (rj:p.length=i+(wc.length+1)) (ot:0<i->p[i-1]? =some 47) (rY:tp.length<=100000) (uP:tp.getLast? ≠some 47) (yS:0<i)
  (fin:∀nC w',HT (.node () (p.take (i-1)) [47] wl nt pr h0 f0 (qe wl kids (.node () [] [] true 3 1 none full [.node () (p.drop (i-1)) [] false 3 1 (some num) full []]))) nb nC->HF w D (nC++Hr) w'->R (.returned (.tuple #[])) w'):GC Tryd.prog ⟨70,Tryd.f70,R,w,D⟩ 221 D5 fr (Rx nb (mu tp idx wl nt pr kv hv f0) 115::((Hs++(Hh++Hk))++(Rx hb [I (num:Int)] 3::Hr))):=by
 refine gN mU ?_;clear mU;obtain⟨X,hX⟩:∃X,X=(Hh++Hk)++(Rx hb [I (num:Int)] 3::Hr):=⟨_,rfl⟩;refine hO (H':=Rx nb (mu tp idx wl nt pr kv hv f0) 115::(Hs++X)) (fun w1 h1=>by rw[hX,<-aw];exact h1) ?_;have rh:=hk.len
 have tF:∀w1,Calls Tryd.prog 81 #[S p] w1 fun e w'=>e=.returned (.tuple #[S (42::wc),I (i:Int),.bool true])/\HF w1 (fun _=>False) [] w':=by
  intro w1;have:=H6 w1 p oE (fun NO i2 h=>by rw[hf] at h;cases h;exact uO) mM;rw[hf] at this;exact this
 have rl:=aU.2 qn;have nD:(42::wc).length =wc.length+1:=rfl;refine gW<|gz<|gD<|gB<|iw Tryd.call81 rfl rfl (fun w1 fa=>tF w1)<|gB ?_;refine gA (iz rfl rfl)<|gA (iz rfl rfl)<|gA (iz rfl rfl)<|gF<|gF<|gF ?_;refine gC<|gz<|gz<|gD<|gB<|gA (ik rfl rfl) ?_;refine gC<|gS rfl (fun rR=>absurd rR (by omega)) (fun rR=>?_);refine gL<|gz<|gz<|gD<|gB<|gA (iU rfl) ?_;refine gC<|gV rfl (fun qu=>absurd qu (by decide)) (fun qu=>?_);refine gL<|gz<|gz<|gD<|gB<|gA (ig aa rfl) ?_;refine gA (ik rfl rfl)<|gC<|gS rfl (fun qF=>absurd qF (by rw[nD];omega)) (fun qF=>?_);refine gL<|gz<|gz<|gD<|gB<|gA (iG (i:=0) (b:=42) aa rfl rfl rfl) ?_;refine gA (ie rfl rfl)<|gC<|gS rfl (fun sH=>absurd sH (by decide)) (fun sH=>?_);refine gL<|gz<|gz<|gD<|gB<|gB ?_;refine gA (ig aa rfl)<|gA (iB (r:=((i+(wc.length+1):Nat):Int)) rfl rfl (by rw[nD];omega) (by omega) (by omega))<|gB<|gA (ig aa rfl)<|gA (iF rfl rfl)<|gC<|gV rfl (fun Ic=>absurd Ic (by rw[rj];simp)) (fun Ic=>?_);refine gL<|gz<|gz<|hY (fun bc H'=>∃t:Bool,(t=true<->tp.getLast? =some 47)/\Sub [(0,Pt nb 0),(1,S p),(2,S full),(3,Sx hb 1 1),(8,S (42::wc)),(9,I (i:Int)),(121,.bool t)] bc/\H'=(Rx nb (mu tp idx wl nt pr kv hv f0) 115)::(Hs++X)) (fun Ie=>?_) ?_
 ·refine iV mixed (by kernel_rfl)<|gK (gM rfl)<|gK (gX rfl)<|gK (gQ pU rfl)<|gK (gG ag rfl (.head _) rfl)<|gK (ig aa rfl)<|gK (iS rfl rfl)<|gK (gM rfl)<|jr 108 rfl (fun Br=>?_) (fun Br=>?_)
  ·have uP:tp≠[]:=fun e=>by rw[e] at Br;simp at Br
   have rY:=aU.2 uP;obtain⟨y,hy⟩:∃y,tp[tp.length-1]? =some y:=gx (by omega);refine gY (gM rfl)<|gY (gX rfl)<|gY (gQ pU rfl)<|gY (gG ag rfl (.head _) rfl)<|gY (gM rfl)<|gY (gX rfl)<|gY (gQ pU rfl)<|gY (gG ag rfl (.head _) rfl)<|gY (ig aa rfl)<|gY (iM (r:=((tp.length-1:Nat):Int)) rfl rfl (by omega) (by omega) (by omega))<|gY (iG (i:=tp.length-1) (b:=y) aa rfl rfl hy)<|gY (ie rfl rfl)<|gK (iL rfl rfl)<|iH<|Ie _ _ ⟨_,?_,.of rfl,rfl⟩;rw[decide_eq_true_eq,c8,hy];exact⟨fun e=>by rw[Av e],fun e=>by rw[bp e];rfl⟩
  refine gP ?_;refine gP ?_;refine gP ?_;refine gP ?_;refine gP ?_;refine gP ?_;refine gP ?_;refine gP ?_;refine gP ?_;refine gP ?_;refine gP ?_;refine gP ?_;refine gK (iD rfl rfl) ?_;refine iH ?_;refine Ie _ _ ⟨false,⟨fun h=>(by cases h),fun h=>?_⟩,.of rfl,rfl⟩;have uP:tp=[]:=bw.1 (by have:=of_decide_eq_false Br;omega);rw[uP] at h;cases h
 rintro bc H' ⟨t,ht,Ig,rfl⟩;refine gN Ig ?_;clear Ig;refine gV rfl (fun D6=>absurd (ht.1 D6) uP) (fun D6=>?_);refine gL<|gz ?_;refine gD<|gB ?_;refine gA (iM (r:=((i-1:Nat):Int)) rfl rfl (by omega) (by omega) (by omega))<|gF ?_;refine gC<|gz ?_;refine gz<|hY (fun bc H'=>Sub [(0,Pt nb 0),(1,S p),(2,S full),(3,Sx hb 1 1),(9,I ((i-1:Nat):Int)),(169,.bool false)] bc/\H'=(Rx nb (mu tp idx wl nt pr kv hv f0) 115)::(Hs++X)) (fun vQ=>?_) ?_
 ·refine gD<|gB<|gA (ik rfl rfl)<|gB<|gZ 164 rfl (fun Ih=>?_) (fun Ih=>?_)
  ·refine gE ?_;refine gE ?_;refine gE ?_;refine gE ?_;refine gT ?_;refine gC ?_;exact absurd (of_decide_eq_true Ih) (by omega)
  exact gU<|gU<|gI (iG (i:=i-1) (b:=47) aa rfl rfl (ot yS))<|gI (iF rfl rfl)<|hG<|gC<|vQ _ _ ⟨.of rfl,rfl⟩
 rintro bc H' ⟨vR,rfl⟩;refine gN vR ?_;clear vR;refine iJ rfl<|gL<|gz<|gD<|gB<|gB ?_;refine gB<|gA (jm (j:=i-1) aa rfl rfl (by omega))<|gJ rfl<|gH pU rfl<|gO ah rfl rfl rfl (.z) rfl rfl<|gC ?_;refine gz<|gD<|gB<|gA (iN (vs:=[(2,.bool true),(3,.int .u8 3),(7,S full)]) rfl (fun w1=>aad _ w1))<|jc (l:=mu [] [] true 3 0 (.slice none 0 0) (.slice none 0 0) full) rfl (by simp[qp,mu]) rfl (fun pb zy=>?_);refine gF<|gC<|gz<|gD<|gB<|gB ?_;rw[<-rh] at hs;refine jo (H1:=Rx nb (mu (p.take (i-1)) idx wl nt pr kv hv f0) 115::Hs) (Hk:=Rx pb (mu [] [] true 3 0 (.slice none 0 0) (.slice none 0 0) full) 115::X) (fun v ni=>v=.tuple #[]/\∃se nX,Own 84 1 se (bs.length+1) ((uL wl bs pb).map (Pt · 0)) nX/\ni=(Rx nb (mu (p.take (i-1)) idx wl nt pr se hv f0) 115)::nX) (bG (l₁:=Rx nb (mu (p.take (i-1)) idx wl nt pr kv hv f0) 115::Hs)).symm (fun e0 mL=>?_) Tryd.call73 rfl rfl (fun w1 fa _=>?_) ?_
 ·rcases af.1 mL with rfl|mL
  ·rfl
  exact hs.w e0 mL
 ·refine(H5 w1 _ nb pb (p.take (i-1)) idx wl nt pr hv f0 kv bs Hs (by omega) hs fa).mono fun e w' ⟨h1,se,nX,h2,h3⟩=>⟨_,_,h1,fun e0 mL=>?_,h3,rfl,se,nX,h2,rfl⟩
  rcases af.1 mL with rfl|mL
  ·rfl
  exact h2.w e0 mL
 rintro v ni ⟨rfl,ov,nU,mJ,rfl⟩;refine jb (H':=Rx pb (mu [] [] true 3 0 (.slice none 0 0) (.slice none 0 0) full) 115::Rx nb (mu (p.take (i-1)) idx wl nt pr ov hv f0) 115::(nU++X)) (fun w1 h1=>h1.perm (bG (l₁:=Rx nb (mu (p.take (i-1)) idx wl nt pr ov hv f0) 115::nU)))<|gC<|gz<|gD<|gB<|gJ rfl<|gH sP rfl<|gO ah rfl rfl rfl (.s .z) rfl rfl<|gC<|gz<|gD<|gB<|gF<|gC<|gz<|gD<|gB<|gJ rfl<|gH tz rfl<|gA (gG da rfl (.head _) rfl)<|gA (jj rfl rfl) ?_;rw[Bn];refine gJ rfl<|gH tz rfl<|gO cy rfl rfl rfl (.z) rfl rfl<|gC<|gz<|gD<|gB<|gB<|gA (iX (i:=i-1) aa rfl rfl (by omega))<|gB<|gB<|gA (iN (vs:=[(0,S (p.drop (i-1))),(3,.int .u8 3),(6,Sx hb 1 1),(4,.int .u32 1),(7,S full)]) rfl (fun w1=>aae _ _ _ w1))<|jc (l:=mu (p.drop (i-1)) [] false 3 1 (.slice none 0 0) (Sx hb 1 1) full) rfl (by simp[qp,mu]) rfl (fun cb rF=>?_);refine gF<|gC<|gz<|gD<|gB<|gB<|je (jn az bi Tryd.zeroValue84 (v:=Pt cb 0) rfl) rfl rfl (fun sb vm=>?_);refine gJ rfl<|gH p5 rfl<|gO de rfl rfl rfl (.s (.s .z)) rfl rfl<|gC<|hO (H':=Rx sb [Pt cb 0] 84::Rx cb (mu (p.drop (i-1)) [] false 3 1 (.slice none 0 0) (Sx hb 1 1) full) 115::Rx pb (mu [] [] true 3 1 (Sx sb 1 1) (.slice none 0 0) full) 115::Rx nb (mu (p.take (i-1)) [47] wl nt pr ov hv f0) 115::(nU++X)) (fun w1 h1=>h1)<|jD rfl fun w' ia=>?_
 have qL:=HT.mk (path:=p.drop (i-1)) (idx:=[]) (mm:=false) (nt:=3) (pr:=1) (full:=full) (nb:=cb) Own.nil (HV.row (k:=num) (hb:=hb)) oq.nil;have nx:Own 84 1 (Sx sb 1 1) 1 ([cb].map (Pt · 0)) [Rx sb [Pt cb 0] 84]:=Own.row (xs:=[Pt cb 0]) (spare:=[]) rfl rfl (bI _);obtain⟨uN,ow,qZ⟩:=hk.add (mm:=wl) (HT.mk (path:=[]) (idx:=[]) (mm:=true) (nt:=3) (pr:=1) (full:=full) (nb:=pb) (kids:=[.node () (p.drop (i-1)) [] false 3 1 (some num) full []]) nx HV.nil (oq.one qL));rw[rh] at mJ;rw[<-KL wl kids (.node () [] [] true 3 1 none full [.node () (p.drop (i-1)) [] false 3 1 (some num) full []])] at mJ;refine fin _ w' (HT.mk mJ hh ow) (ia.perm ?_);rw[hX];have e1:uN.Perm (Rx pb (mu [] [] true 3 1 (Sx sb 1 1) (.slice none 0 0) full) 115::Rx sb [Pt cb 0] 84::Rx cb (mu (p.drop (i-1)) [] false 3 1 (.slice none 0 0) (Sx hb 1 1) full) 115::Rx hb [I (num:Int)] 3::Hk):=by simpa using qZ
 have p1:=oN [[Rx sb [Pt cb 0] 84],[Rx cb (mu (p.drop (i-1)) [] false 3 1 (.slice none 0 0) (Sx hb 1 1) full) 115],[Rx pb (mu [] [] true 3 1 (Sx sb 1 1) (.slice none 0 0) full) 115],[Rx nb (mu (p.take (i-1)) [47] wl nt pr ov hv f0) 115],nU,Hh,Hk,[Rx hb [I (num:Int)] 3],Hr] [0,1,2,3,4,5,6,7,8] [3,4,5,2,0,1,7,6,8] (by decide);refine List.Perm.trans (l₂:=Rx nb (mu (p.take (i-1)) [47] wl nt pr ov hv f0) 115::(nU++(Hh++((Rx pb (mu [] [] true 3 1 (Sx sb 1 1) (.slice none 0 0) full) 115::Rx sb [Pt cb 0] 84::Rx cb (mu (p.drop (i-1)) [] false 3 1 (.slice none 0 0) (Sx hb 1 1) full) 115::Rx hb [I (num:Int)] 3::Hk)++Hr)))) (by simpa using p1) ?_;have p2:=(((e1.symm.append_right Hr).append_left Hh).append_left nU).cons (Rx nb (mu (p.take (i-1)) [47] wl nt pr ov hv f0) 115);simpa using p2
theorem TC {R:Ending->World->Prop} {w:World} {D:Nat->Prop} {nb hb num:Nat} {p full tp idx:List UInt8} {nt pr:Nat} {h0:Option Nat} {f0:List UInt8} {kids:List T0} {bs:List Nat} {kv:Value} {Hs Hk:SH}
  (hs:Own 84 1 kv kids.length (bs.map (Pt · 0)) Hs) (TB:HV h0 hv Hh) (hk:oq kids bs Hk) (oE:∀c∈p,c≠92) (mM:p.length<=100000) (aah:kids.length<=90000) (mU:Sub [(0,Pt nb 0),(1,S p),(2,S full),(3,Sx hb 1 1)] fr) (wc:List UInt8) (i:Nat) (hf:fw p 0=some (42::wc,i)) (uO:∀c∈wc,c≠58/\c≠42) (qn:wc≠[]) (rj:p.length=i+(wc.length+1)) (ajg:0<i->p[i-1]? =some 47) (rY:tp.length<=100000) (hx:tp.getLast? =some 47\/i=0) (qv:full.length<=100000) (tB:∀k∈kids,k.path.length<=100000)
  (sj:∀e w',wP e->HF w D [] w'->R e w'):GC Tryd.prog ⟨70,Tryd.f70,R,w,D⟩ 221 D5 fr (Rx nb (mu tp idx wl nt pr kv hv f0) 115::((Hs++(Hh++Hk))++(Rx hb [I (num:Int)] 3::Hr))):=by
 refine gN mU ?_;clear mU;obtain⟨X,hX⟩:∃X,X=(Hh++Hk)++(Rx hb [I (num:Int)] 3::Hr):=⟨_,rfl⟩;refine hO (H':=Rx nb (mu tp idx wl nt pr kv hv f0) 115::(Hs++X)) (fun w1 h1=>by rw[hX,<-aw];exact h1) ?_;have rh:=hk.len;obtain⟨ad,cap,rfl⟩:=hs.slice
 have tF:∀w1,Calls Tryd.prog 81 #[S p] w1 fun e w'=>e=.returned (.tuple #[S (42::wc),I (i:Int),.bool true])/\HF w1 (fun _=>False) [] w':=by
  intro w1;have:=H6 w1 p oE (fun NO i2 h=>by rw[hf] at h;cases h;exact uO) mM;rw[hf] at this;exact this
 have rl:=aU.2 qn;have nD:(42::wc).length =wc.length+1:=rfl;refine gW<|gz<|gD<|gB<|iw Tryd.call81 rfl rfl (fun w1 fa=>tF w1)<|gB ?_;refine gA (iz rfl rfl)<|gA (iz rfl rfl)<|gA (iz rfl rfl)<|gF<|gF<|gF ?_;refine gC<|gz<|gz<|gD<|gB<|gA (ik rfl rfl) ?_;refine gC<|gS rfl (fun rR=>absurd rR (by omega)) (fun rR=>?_);refine gL<|gz<|gz<|gD<|gB<|gA (iU rfl) ?_;refine gC<|gV rfl (fun qu=>absurd qu (by decide)) (fun qu=>?_);refine gL<|gz<|gz<|gD<|gB<|gA (ig aa rfl) ?_;refine gA (ik rfl rfl)<|gC<|gS rfl (fun qF=>absurd qF (by rw[nD];omega)) (fun qF=>?_);refine gL<|gz<|gz<|gD<|gB<|gA (iG (i:=0) (b:=42) aa rfl rfl rfl) ?_;refine gA (ie rfl rfl)<|gC<|gS rfl (fun sH=>absurd sH (by decide)) (fun sH=>?_);refine gL<|gz<|gz<|gD<|gB<|gB ?_;refine gA (ig aa rfl)<|gA (iB (r:=((i+(wc.length+1):Nat):Int)) rfl rfl (by rw[nD];omega) (by omega) (by omega))<|gB<|gA (ig aa rfl)<|gA (iF rfl rfl)<|gC<|gV rfl (fun Ic=>absurd Ic (by rw[rj];simp)) (fun Ic=>?_);refine gL<|gz<|gz<|hY (fun bc H'=>∃t:Bool,(t=true<->tp.getLast? =some 47)/\Sub [(0,Pt nb 0),(1,S p),(2,S full),(3,Sx hb 1 1),(8,S (42::wc)),(9,I (i:Int)),(121,.bool t)] bc/\H'=(Rx nb (mu tp idx wl nt pr (.slice ad kids.length cap) hv f0) 115)::(Hs++X)) (fun Ie=>?_) ?_
 ·refine iV mixed (by kernel_rfl)<|gK (gM rfl)<|gK (gX rfl)<|gK (gQ pU rfl)<|gK (gG ag rfl (.head _) rfl)<|gK (ig aa rfl)<|gK (iS rfl rfl)<|gK (gM rfl)<|jr 108 rfl (fun Br=>?_) (fun Br=>?_)
  ·have uP:tp≠[]:=fun e=>by rw[e] at Br;simp at Br
   have rY:=aU.2 uP;obtain⟨y,hy⟩:∃y,tp[tp.length-1]? =some y:=gx (by omega);refine gY (gM rfl)<|gY (gX rfl)<|gY (gQ pU rfl)<|gY (gG ag rfl (.head _) rfl)<|gY (gM rfl)<|gY (gX rfl)<|gY (gQ pU rfl)<|gY (gG ag rfl (.head _) rfl)<|gY (ig aa rfl)<|gY (iM (r:=((tp.length-1:Nat):Int)) rfl rfl (by omega) (by omega) (by omega))<|gY (iG (i:=tp.length-1) (b:=y) aa rfl rfl hy)<|gY (ie rfl rfl)<|gK (iL rfl rfl)<|iH<|Ie _ _ ⟨_,?_,.of rfl,rfl⟩;rw[decide_eq_true_eq,c8,hy];exact⟨fun e=>by rw[Av e],fun e=>by rw[bp e];rfl⟩
  refine gP ?_;refine gP ?_;refine gP ?_;refine gP ?_;refine gP ?_;refine gP ?_;refine gP ?_;refine gP ?_;refine gP ?_;refine gP ?_;refine gP ?_;refine gP ?_;refine gK (iD rfl rfl) ?_;refine iH ?_;refine Ie _ _ ⟨false,⟨fun h=>(by cases h),fun h=>?_⟩,.of rfl,rfl⟩;have uP:tp=[]:=bw.1 (by have:=of_decide_eq_false Br;omega);rw[uP] at h;cases h
 rintro bc H' ⟨t,ht,Ig,rfl⟩;refine gN Ig ?_;clear Ig;refine gV rfl (fun D6=>?_) (fun D6=>?_)
 ·refine gz<|gD<|gF<|gC<|gz<|gz<|gD<|gB<|gJ rfl<|gH p5 rfl<|gA (gG bj rfl (.head _) rfl)<|gA (iu az rfl)<|gA (iF rfl rfl)<|gC<|hY (fun bc H'=>∃sg:List UInt8,sg.length<=100000/\Sub [(0,Pt nb 0),(1,S p),(2,S full),(13,S sg)] bc/\H'=(Rx nb (mu tp idx wl nt pr (.slice ad kids.length cap) hv f0) 115)::(Hs++X)) (fun TD=>?_) ?_
  ·refine gV rfl (fun zA=>?_) (fun zA=>?_)
   ·have od:0<kids.length:=by
     rcases fO kids.length with e|e
     ·rw[e] at zA;simp at zA
     exact e
    obtain⟨rb,xu,spare,e1,rfl⟩:=hs.at od;cases e1;obtain⟨k0,TE⟩:=gx od;obtain⟨b0,kv0,CM,FA,Ii⟩:=hk.mem TE;have aal:=tB k0 (ap TE);refine gD<|gB<|gJ rfl<|gH p5 rfl<|gA (gG bj rfl (.head _) rfl)<|gA (ij (i:=0) az bi rfl rfl od)<|gA (gG bK rfl (.tail _ (.head _)) (by rw[n8,ak (by rw[aQ,rh];exact od),aD,FA];rfl)) ?_;refine gJ rfl<|gH pU rfl<|gA (gG ag rfl (.tail _ (au _ (by rw[hX];exact ay _ (au _ Ii)))) rfl)<|iP (fun v H2=>∃a b t,a<+:k0.path/\v=.tuple #[S a,S b,.bool t]/\H2=(Rx nb (mu tp idx wl nt pr (Sx rb kids.length cap) hv f0) 115)::([Rx rb (bs.map (Pt · 0)++spare) 84]++X)) Tryd.call74 rfl rfl (fun w1 fa=>(Te w1 k0.path [47] (by omega) (by simp)).mono fun e w' ⟨a,b,t,h1,h2,h3⟩=>⟨_,_,h2,fa.o9 h3 (fun e he=>by cases he),a,b,t,h1,rfl,rfl⟩) ?_;rintro v H2 ⟨a,b,t2,nG,rfl,rfl⟩;exact gB<|gA (iz rfl rfl)<|gA (iz rfl rfl)<|gA (iz rfl rfl)<|gF<|gC<|TD _ _ ⟨a,br nG.length_le aal,.of rfl,rfl⟩
   exact gL<|TD _ _ ⟨[],by simp,.of rfl,rfl⟩
  rintro bc H' ⟨sg,hsg,TF,rfl⟩;refine gN TF ?_;clear TF;refine gD ?_;refine gB ?_;refine gA (iR rfl rfl (by simp;omega)) ?_;refine gA (iR rfl rfl (by simp;omega)) ?_;refine gB ?_;refine gA (iR rfl rfl (by simp;omega)) ?_;refine gA (iR rfl rfl (by simp;omega)) ?_;refine gB ?_;refine gA (iR rfl rfl (by simp;omega)) ?_;refine gA (iR rfl rfl (by simp;omega)) ?_;refine gB ?_;refine gJ rfl ?_;refine gH pU rfl ?_;refine gA (gG ag rfl (.head _) rfl) ?_;refine gA (iR rfl rfl (by simp;omega)) ?_;refine gB ?_;refine gA (iR rfl rfl (by simp;omega)) ?_;refine gA (iR rfl rfl (by simp;omega)) ?_;refine gA (kq aa rfl) ?_;refine kp rfl fun w' ia=>sj _ _ ⟨_,_,rfl⟩ (ia.sub (ar _))
 refine gL<|gz ?_
 have yS:i=0:=by
  rcases hx with h|h
  ·exact absurd (ht.2 h) (by simp[D6])
  exact h
 refine gD<|gB<|gA (iM (r:=((i:Int)-1)) rfl rfl rfl (by omega) (by omega))<|gF<|gC<|gz<|gz<|hY (fun bc H'=>Sub [(2,S full),(169,.bool true)] bc/\H'=(Rx nb (mu tp idx wl nt pr (.slice ad kids.length cap) hv f0) 115)::(Hs++X)) (fun vQ=>?_) ?_
 ·refine gD<|gB<|gA (ik rfl rfl)<|gB<|gZ 164 rfl (fun Ih=>?_) (fun Ih=>?_)
  ·refine gE ?_;refine gE ?_;refine gE ?_;refine gE ?_;refine gT ?_;refine gC ?_;exact vQ _ _ ⟨.of rfl,rfl⟩
  exact absurd (of_decide_eq_false Ih) (by omega)
 rintro bc H' ⟨vR,rfl⟩;refine gN vR ?_;clear vR;refine ji rfl ?_;refine gD ?_;refine gB ?_;refine gA (iR rfl rfl (by simp;omega)) ?_;refine gA (iR rfl rfl (by simp;omega)) ?_;refine gA (kq aa rfl) ?_;refine kp rfl fun w' ia=>sj _ _ ⟨_,_,rfl⟩ (ia.sub (ar _))
theorem TG {R:Ending->World->Prop} {w:World} {D:Nat->Prop} {hb num:Nat} {full:List UInt8} (qv:full.length<=100000):∀(g:Nat) (sl:Bool) (s:List Tok) (t:T0) (nb:Nat) (Hn Hr:SH) (fr:SF) (na:Option T0),Ok sl s->(∀c∈lg s,c≠92)->(lg s).length <=100000->
  t.kids.length<=90000->t.path.length<=100000->(∀k∈t.kids,k.path.length<=100000)->HT t nb Hn->sF g t (lg s) full num=some na->Sub [(0,Pt nb 0),(1,S (lg s)),(2,S full),(3,Sx hb 1 1)] fr->
  (∀t',na=some t'->∀nC w',HT t' nb nC->HF w D (nC++Hr) w'->R (.returned (.tuple #[])) w')->(na=none->∀e w',wP e->HF w D [] w'->R e w')->
  GC Tryd.prog ⟨70,Tryd.f70,R,w,D⟩ 221 D5 fr (Hn++(Rx hb [I (num:Int)] 3::Hr))
 |0,sl,s,t,nb,Hn,Hr,fr,na,_,_,_,_,_,_,_,h,_,_,_=>by unfold sF at h;cases h
 |g+1,sl,s,t,nb,Hn,Hr,fr,na,nk,oE,mM,qh,rY,tB,ht,h,mU,fin,sj=>by
  cases ht with
  | @mk tp idx wl nt pr h0 f0 kids _ bs kv hv Hs Hh Hk hs hh hk=>
  obtain⟨pre,r,rfl,hp,hr,Ay⟩:=NK sl s nk;simp only[Tr.kids,Tr.path] at qh rY tB;rw[CI,Fx] at oE mM h mU;rcases Ay with rfl|⟨n,q,rfl⟩|⟨n,rfl⟩
  ·have hf:=NG pre 0 hp;simp only[lg,aS] at oE mM h mU;unfold sF at h;simp only[hf] at h;cases h;exact aag hs hh hk oE mM qh mU hf (fin _ rfl)
  ·obtain⟨h1,hn,hq,tS⟩:=hr;have oD:0<n.length:=aU.2 hn.1;have hf:=NI (t:=lg q) hp hn (KJ hq);have uO:∀c∈n,c≠58/\c≠42:=fun c hc=>(hn.2 c hc).2
   simp only[lg] at oE mM h mU;have KM:(pre++58::(n++lg q)).length =pre.length+(n.length+1)+(lg q).length :=by simp;omega
   unfold sF at h;have hl:¬(58::n).length <2:=by simp;omega
   have hd:(58::(n++lg q)).drop (58::n).length =lg q:=by simp
   simp only[hf,hl,if_false,cw,if_true,eE,hd] at h;have yP:(if 0<pre.length then(pre++58::(n++lg q)).take pre.length else tp)=rS tp (pre++58::(n++lg q)) pre.length:=rfl;rw[yP] at h;rcases hq with rfl|⟨q',rfl⟩
   ·have h2:¬(58::n).length <(58::(n++lg [])).length :=by simp[lg]
    rw[if_neg h2] at h;cases h;exact aai hs hh hk oE mM qh mU n pre.length hf uO hn.1 (by simp) (by simp[lg]) (fin _ rfl)
   have h2:(58::n).length <(58::(n++lg (.b 47::q'))).length :=by simp[lg]
   rw[if_pos h2] at h;obtain⟨r2,rT,ol⟩:=aN.1 h;refine aaj hs hh hk oE mM qh mU n pre.length hf uO hn.1 (by simp) (by simp[lg]) fun pb cb ov CL nU vP bc mJ vi yT=>?_
   have e1:(pre++58::(n++lg (.b 47::q'))).drop (pre.length+(58::n).length)=lg (.b 47::q'):=by
    rw[<-bZ,eE];simp
   rw[e1] at yT;have rh:=hk.len;refine TG qv g false (.b 47::q') (.node () [] [] false 0 1 none full []) cb [_] _ bc r2 tS (fun c hc=>oE c (by simp[hc])) (by rw[KM] at mM;omega) (by simp[Tr.kids]) (by simp[Tr.path]) (by simp[Tr.kids]) (HT.mk Own.nil HV.nil oq.nil) rT yT ?_ ?_
   ·intro c2 oc rU w' hc ia;subst oc;obtain⟨uN,ow,qZ⟩:=hk.add (mm:=wl) (HT.mk (path:=58::n) (idx:=[]) (mm:=false) (nt:=2) (pr:=1) (h:=none) (full:=full) (nb:=pb) (kids:=[c2]) (bs:=[cb]) vi HV.nil (oq.one hc));rw[rh] at mJ;rw[<-KL wl kids (.node () (58::n) [] false 2 1 none full [c2])] at mJ;refine fin _ ol.symm _ w' (HT.mk mJ hh ow) (ia.perm ?_);generalize (Rx nb (mu (rS tp (pre++58::(n++lg (.b 47::q'))) pre.length) idx true nt pr ov hv f0) 115:oJ)=EC at*;generalize (Rx pb (mu (58::n) [] false 2 1 CL (.slice none 0 0) full) 115:oJ)=PE at*;have e2:uN.Perm (PE::(vP++rU)++Hk):=by simpa using qZ
    have p1:=oN [rU,[EC],nU,Hh,Hk,[PE],vP,Hr] [0,1,2,3,4,5,6,7] [1,2,3,5,6,0,4,7] (by decide);refine List.Perm.trans (l₂:=EC::(nU++(Hh++((PE::(vP++rU)++Hk)++Hr)))) (by simpa using p1) ?_;have p2:=(((e2.symm.append_right Hr).append_left Hh).append_left nU).cons EC;simpa using p2
   intro vS;subst vS;exact sj ol.symm
  obtain⟨h1,hn,_⟩:=hr;have oD:0<n.length:=aU.2 hn.1;have uO:∀c∈n,c≠58/\c≠42:=fun c hc=>(hn.2 c hc).2
  have e1:lg [.A n]=42::n:=by simp[lg]
  rw[e1] at oE mM h mU;have hf:=NJ hp hn
  have ot:0<pre.length->(pre++42::n)[pre.length-1]? =some 47:=by
   intro h0;have mW:pre≠[]:=aU.1 h0;rw[if_neg mW] at h1;rw[ak (by omega),<-c8];simpa using h1
  have hlen:(pre++42::n).length =pre.length+(n.length+1):=by simp
  unfold sF at h;have hl:¬(42::n).length <2:=by simp;omega
  have Ij:¬((some 42:Option UInt8)=some 58):=by decide
  have xy:¬(pre.length+(42::n).length ≠(pre++42::n).length):=by simp
  simp only[hf,hl,if_false,cw,Ij,xy] at h;by_cases uP:tp.getLast? =some 47
  ·rw[if_pos uP] at h;cases h;exact TC hs hh hk oE mM qh mU n pre.length hf uO hn.1 hlen ot rY (.inl uP) qv tB (sj rfl)
  rw[if_neg uP] at h;by_cases h0:pre.length=0
  ·rw[if_pos (.inl h0)] at h;cases h;exact TC hs hh hk oE mM qh mU n pre.length hf uO hn.1 hlen ot rY (.inr h0) qv tB (sj rfl)
  have h3:=ot (by omega);rw[if_neg (by rintro(e|e);exact h0 e;exact e h3)] at h;cases h;exact aak hs hh hk oE mM qh mU n pre.length hf uO hn.1 hlen ot rY uP (by omega) (fin _ rfl)
theorem TH (w:World) (D:Nat->Prop) {hb num:Nat} {full:List UInt8} (qv:full.length<=100000) (g:Nat) (sl:Bool) (s:List Tok) (t:T0) (nb:Nat) (Hn Hr:SH) (na:Option T0) (nk:Ok sl s) (oE:∀c∈lg s,c≠92) (mM:(lg s).length <=100000)
  (qh:t.kids.length<=90000) (rY:t.path.length<=100000) (tB:∀k∈t.kids,k.path.length<=100000) (ht:HT t nb Hn) (ol:sF g t (lg s) full num=some na) (hH:HF w D (Hn++(Rx hb [I (num:Int)] 3::Hr)) w):
  Calls Tryd.prog 70 #[Pt nb 0,S (lg s),S full,Sx hb 1 1] w fun e w'=>(∃t' nC,na=some t'/\e=.returned (.tuple #[])/\HT t' nb nC/\HF w D (nC++Hr) w')\/(na=none/\wP e/\HF w D [] w'):=by
 refine enter D (Hn++(Rx hb [I (num:Int)] 3::Hr)) Tryd.func70 rfl Tryd.ntmps70 rfl rfl hH fun c hc=>?_
 subst hc;exact gz<|gW<|jw<|TG qv g sl s t nb Hn Hr _ na nk oE mM qh rY tB ht ol (.of rfl) (fun t' h1 nC w' h2 h3=>.inl ⟨t',nC,h1,rfl,h2,h3⟩) (fun h1 e w' h2 h3=>.inr ⟨h1,h2,h3⟩)
theorem _root_.Bw.mi {P:Program} {c:Cx} {n:Nat} {H:SH} {ty t u:TypeId} {x y:Operand} {p q:Nat} (hq:q=p+4294967295) (hx:ev fr x=some (.int .u32 ((p%4294967296:Nat):Int))) (hy:ev fr y=some (.int .u32 1)):nB P c n (.binOp .sub t x y u) ty fr H (.int .u32 ((q%4294967296:Nat):Int)):=by
 subst hq;have:=j4 (P:=P) (c:=c) (n:=n) (H:=H) (ty:=ty) (t:=t) (u:=u) hx hy;rw[ZV] at this;exact this
theorem aam (a b f:List UInt8) (wl:Bool) (k1 k2:Option Addr) (n1 c1 n2 c2 p:Nat) (w:World):(Instr.build 115 #[(0,S a),(2,.bool wl),(3,.int .u8 0),(1,S b),(5,.slice k1 n1 c1),(6,.slice k2 n2 c2),(4,.int .u32 ((p%4294967296:Nat):Int)),(7,S f)]).run Tryd.prog w=.ok (.agg (mu a b wl 0 p (.slice k1 n1 c1) (.slice k2 n2 c2) f).toArray) w:=by
 simp[Instr.build,dD,dp,ah,aP,dS,cy,de,cu,qp,Instr.fill,tR,HZ,Bk,DX,mu]
def sR:Code->Code
 |.seq _ b=>b
 |c=>c
def aan:List Item->List Item
 |.code (.block id y)::k=>.code (sR (sR y))::.inBlock id::k
 |k=>k
noncomputable def FB:List Item:=(Ax ((Tryd.f57.body).getD .skip) []).getD []
noncomputable def CN:List Item:=aan FB
theorem TI {R:Ending->World->Prop} {w:World} {D:Nat->Prop} {nb hb num nc:Nat} {p full tp idx:List UInt8} {nt pr:Nat} {h0:Option Nat} {f0:List UInt8} {kids:List T0} {bs:List Nat} {kv:Value} {Hs Hk:SH}
  (hs:Own 84 1 kv kids.length (bs.map (Pt · 0)) Hs) (hh:HV h0 hv Hh) (hk:oq kids bs Hk) (mM:p.length<=100000) (qv:full.length<=100000) (vo:nc+p.length<=full.length) (mU:Sub [(0,Pt nb 0),(1,S p),(2,Sx hb 1 1),(6,S full),(7,I (nc:Int))] fr)
  (go:∀vp bc,HT (if Gs.mK p tp<tp.length then split (.node () tp idx wl nt pr h0 f0 kids) () (Gs.mK p tp) (full.take (nc+Gs.mK p tp)) else .node () tp idx wl nt pr h0 f0 kids) nb vp->Sub [(0,Pt nb 0),(1,S p),(2,Sx hb 1 1),(6,S full),(7,I (nc:Int)),(8,I (Gs.mK p tp:Nat))] bc->GC Tryd.prog ⟨57,Tryd.f57,R,w,D⟩ 377 CN bc (vp++(Rx hb [I (num:Int)] 3::Hr))):
  GC Tryd.prog ⟨57,Tryd.f57,R,w,D⟩ 377 FB fr (Rx nb (mu tp idx wl nt pr kv hv f0) 115::((Hs++(Hh++Hk))++(Rx hb [I (num:Int)] 3::Hr))):=by
 refine gN mU ?_;clear mU;obtain⟨X,hX⟩:∃X,X=(Hh++Hk)++(Rx hb [I (num:Int)] 3::Hr):=⟨_,rfl⟩;refine hO (H':=Rx nb (mu tp idx wl nt pr kv hv f0) 115::(Hs++X)) (fun w1 h1=>by rw[hX,<-aw];exact h1) ?_;have rh:=hk.len;obtain⟨vT,TJ⟩:∃q,q=pr+4294967295:=⟨_,rfl⟩;have hle:=Gs.zu p tp;obtain⟨ad,cap,rfl⟩:=hs.slice;obtain⟨mX,l2,c2,rfl,pX⟩:=hh.slice;generalize hi:Gs.mK p tp=i at*;have oB:p.take i=tp.take i:=by rw[<-hi];exact(Gs.Ns p tp)
 refine gW<|gz<|gD<|gB<|gB<|gJ rfl<|gH pU rfl<|gA (gG ag rfl (.head _) rfl)<|iw Tryd.call71 rfl rfl (fun w1 fa=>by have:=ZG w1 p tp (by omega);rw[hi] at this;exact this)<|gF<|gC<|gz<|gz<|gD<|gB<|gB<|gJ rfl<|gH pU rfl<|gA (gG ag rfl (.head _) rfl)<|gA (ig aa rfl)<|gA (ik rfl rfl)<|gC<|hY (fun bc H'=>∃vp,HT (if i<tp.length then split (.node () tp idx wl nt pr h0 f0 kids) () i (full.take (nc+i)) else .node () tp idx wl nt pr h0 f0 kids) nb vp/\Sub [(0,Pt nb 0),(1,S p),(2,Sx hb 1 1),(6,S full),(7,I (nc:Int)),(8,I (i:Nat))] bc/\(∀w1,HF w D H' w1->HF w D (vp++(Rx hb [I (num:Int)] 3::Hr)) w1)) (fun TK=>?_) ?_
 ·refine gS rfl (fun CO=>?_) (fun CO=>?_)
  ·refine gz<|jT 33 (fun w1=>w1.heap[nb]? =some (oe.den (.row (mu tp idx wl nt pr (.slice ad kids.length cap) (.slice mX l2 c2) f0) 115 (0,0)))) mixed (by kernel_rfl)<|jN (fun w1 h1=>h1.has (Rx nb (mu tp idx wl nt pr (.slice ad kids.length cap) (.slice mX l2 c2) f0) 115) (by first|exact .head _|exact .tail _ (.head _))) fun hS=>?_
   refine iq 0 rfl hS (gM rfl)<|iq 1 rfl hS (gX rfl)<|iq 2 rfl hS (gQ pU rfl)<|jh 3 rfl hS ag rfl (fun w1 h1=>uk h1 rfl)<|iq 4 rfl hS (gM rfl)<|iq 5 rfl hS (iX (i:=i) aa rfl rfl (by omega))<|iq 6 rfl hS (gM rfl)<|iq 7 rfl hS (gX rfl)<|iq 8 rfl hS (gQ uI rfl)<|jh 9 rfl hS bQ rfl (fun w1 h1=>uk h1 rfl)<|iq 10 rfl hS (gM rfl)<|iq 11 rfl hS (gX rfl)<|iq 12 rfl hS (gQ sP rfl)<|jh 13 rfl hS ag rfl (fun w1 h1=>uk h1 rfl)<|iq 14 rfl hS (gM rfl)<|iq 15 rfl hS (gX rfl)<|iq 16 rfl hS (gQ p5 rfl)<|jh 17 rfl hS bj rfl (fun w1 h1=>uk h1 rfl)<|iq 18 rfl hS (gM rfl)<|iq 19 rfl hS (gX rfl)<|iq 20 rfl hS (gQ sY rfl)<|jh 21 rfl hS bX rfl (fun w1 h1=>uk h1 rfl)<|iq 22 rfl hS (gM rfl)<|iq 23 rfl hS (gX rfl)<|iq 24 rfl hS (gQ tz rfl)<|jh 25 rfl hS da rfl (fun w1 h1=>uk h1 rfl)<|iq 26 rfl hS (mi TJ rfl rfl)<|iq 27 rfl hS (gM rfl)<|iq 28 rfl hS (gX rfl)<|iq 29 rfl hS (gQ Aq rfl)<|jh 30 rfl hS ag rfl (fun w1 h1=>uk h1 rfl)<|iq 31 rfl hS (iN (vs:=[(0,S (tp.drop i)),(2,.bool wl),(3,.int .u8 0),(1,S idx),(5,.slice ad kids.length cap),(6,.slice mX l2 c2),(4,.int .u32 ((vT%4294967296:Nat):Int)),(7,S f0)]) rfl (fun w1=>aam _ _ _ _ _ _ _ _ _ _ _ w1))<|jC 32 rfl (by kernel_rfl)<|mg (l:=mu [] [] false 0 0 (.slice none 0 0) (.slice none 0 0) []) dD (by simp[qp,mu]) (fun w1 h1=>h1.has (Rx nb (mu tp idx wl nt pr (.slice ad kids.length cap) (.slice mX l2 c2) f0) 115) (.head _)) rfl (fun cb=>?_);refine jU (by kernel_rfl)<|iO (cs:=mu (tp.drop i) idx wl 0 vT (.slice ad kids.length cap) (.slice mX l2 c2) f0) Tryd.sizeOf115 rfl rfl (ZR rfl rfl) .z rfl<|gC<|gz<|gD<|gB<|je (jn az bi Tryd.zeroValue84 (v:=Pt cb 0) rfl) rfl rfl (fun sb vm=>?_);refine gJ rfl<|gH p5 rfl<|gO de rfl rfl rfl (.s (.s .z)) rfl rfl<|gC<|gz ?_;have mS:i<tp.length:=by omega
   obtain⟨x,hx⟩:=gx mS;refine gD<|gB ?_;refine gB<|gJ rfl ?_;refine gH pU rfl<|gA (gG ag rfl (m2 (.head _)) rfl) ?_;refine gB<|gA (iG (i:=i) (b:=x) aa rfl rfl hx)<|je (jn aL bV dH (v:=.int .u8 (x.toNat:Int)) rfl) rfl rfl (fun tb NP=>?_);refine gA (j8 (l:=[x]) (T:=5) (wf:=true) aL bT aa rfl (.head _) (by simp))<|gJ rfl ?_;refine gH sP rfl<|gO ah rfl rfl rfl (.s (.s (.s .z))) rfl rfl ?_;refine gC<|gz ?_;refine gD<|gB ?_;refine gB<|gB ?_;refine gA (jm (j:=i) aa rfl rfl (by omega))<|gJ rfl ?_;refine gH pU rfl<|gO ah rfl rfl rfl (.s (.s (.s .z))) rfl rfl ?_;refine gC<|gz ?_;refine gD<|gB ?_;refine gJ rfl<|gH sY rfl ?_;refine gO cu rfl rfl rfl (.s (.s (.s .z))) rfl rfl<|gC ?_;refine gz<|gD ?_;refine gB<|gJ rfl ?_;refine gH uI rfl<|gO aP rfl rfl rfl (.s (.s (.s .z))) rfl rfl ?_;refine gC<|gD ?_;refine gB<|gB ?_;refine gB<|gB ?_;refine gA (iB (r:=((nc+i:Nat):Int)) rfl rfl (by omega) (by omega) (by omega))<|gA (jm (j:=nc+i) aa rfl rfl (by omega)) ?_;refine gJ rfl<|gH Aq rfl ?_;refine gO ah rfl rfl rfl (.s (.s (.s .z))) rfl rfl<|gC ?_;have nx:Own 84 1 (Sx sb 1 1) 1 ([cb].map (Pt · 0)) [Rx sb [Pt cb 0] 84]:=Own.row (xs:=[Pt cb 0]) (spare:=[]) rfl rfl (bI _);have NQ:=HT.mk (path:=tp.drop i) (idx:=idx) (mm:=wl) (nt:=0) (pr:=vT) (h:=h0) (full:=f0) (nb:=cb) hs hh hk;have hT:=HT.mk (path:=p.take i) (idx:=[x]) (mm:=false) (nt:=nt) (pr:=pr) (h:=none) (full:=full.take (nc+i)) (nb:=nb) (kids:=[.node () (tp.drop i) idx wl 0 vT h0 f0 kids]) nx HV.nil (oq.one NQ)
   have e0:(if i<tp.length then split (.node () tp idx wl nt pr h0 f0 kids) () i (full.take (nc+i)) else .node () tp idx wl nt pr h0 f0 kids)=.node () (p.take i) [x] false nt pr none (full.take (nc+i)) [.node () (tp.drop i) idx wl 0 vT h0 f0 kids]:=by
    rw[if_pos mS,oB];have e1:(tp.drop i).take 1=[x]:=by rw[drop_cons hx];rfl
    unfold split;simp only[Tr.path,Tr.an,Tr.nt,Tr.pr,Tr.idx,Tr.mm,Tr.h,Tr.full,Tr.kids,e1,TJ]
   refine TK _ _ ⟨_,by rw[e0];exact hT,.of rfl,fun w1 h1=>?_⟩;rw[hX] at h1;have h2:HF w D (Rx tb (bC [x]) 5::Rx sb [Pt cb 0] 84::Rx cb (mu (tp.drop i) idx wl 0 vT (.slice ad kids.length cap) (.slice mX l2 c2) f0) 115::Rx nb (mu (p.take i) [x] false nt pr (Sx sb 1 1) (.slice none 0 0) (full.take (nc+i))) 115::(Hs++((Hh++Hk)++(Rx hb [I (num:Int)] 3::Hr)))) w1:=h1;generalize (Rx nb (mu (p.take i) [x] false nt pr (Sx sb 1 1) (.slice none 0 0) (full.take (nc+i))) 115:oJ)=E6 at*;generalize (Rx cb (mu (tp.drop i) idx wl 0 vT (.slice ad kids.length cap) (.slice mX l2 c2) f0) 115:oJ)=C6 at*;have p1:=oN [[Rx tb (bC [x]) 5],[Rx sb [Pt cb 0] 84],[C6],[E6],Hs,Hh,Hk,[Rx hb [I (num:Int)] 3],Hr] [0,1,2,3,4,5,6,7,8] [0,3,1,2,4,5,6,7,8] (by decide);have h3:=h2.perm (H':=Rx tb (bC [x]) 5::((E6::([Rx sb [Pt cb 0] 84]++([]++(C6::(Hs++(Hh++Hk))))))++(Rx hb [I (num:Int)] 3::Hr))) (by simpa using p1);exact h3.sub (ai _ _)
  refine gL ?_;have Bi:¬i<tp.length:=by omega
  refine TK _ _ ⟨_,by rw[if_neg Bi];exact HT.mk hs hh hk,.of rfl,fun w1 h1=>?_⟩;rw[hX] at h1;rw[aW,aw];exact h1
 rintro bc H' ⟨vp,pI,aao,aap⟩;exact hO aap (go vp _ pI aao)
def thn:Code->Code
 |.cond _ a _=>a
 |c=>c
def aar:List Item->List Item
 |.code (.seq (.seq _ cnd) tail)::k=>.code (sR (sR (sR (sR (thn cnd)))))::.code tail::k
 |k=>k
noncomputable def FC:List Item:=aar CN
theorem Ik {c:UInt8}:∀{l:List UInt8} {j:Nat},idxOf c l=some j->l[j]? =some c/\∀q:Nat,q<j->l[q]? ≠some c
 |[],j,h=>by cases h
 |d::l,j,h=>by
  unfold idxOf at h;by_cases e:c=d
  ·rw[if_pos e] at h;cases h;exact⟨by simp[e],fun q hq=>by omega⟩
  rw[if_neg e] at h;obtain⟨j',h1,rfl⟩:=aN.1 h;obtain⟨h2,h3⟩:=Ik h1;refine⟨by simpa using h2,fun q hq=>?_⟩
  cases q with
  |zero=>simp;exact fun e2=>e e2.symm
  |succ q=>simpa using h3 q (by omega)
theorem KN {c:UInt8}:∀{l:List UInt8},idxOf c l=none->∀q:Nat,l[q]? ≠some c
 |[],h,q=>by simp
 |d::l,h,q=>by
  unfold idxOf at h;by_cases e:c=d
  ·rw[if_pos e] at h;cases h
  rw[if_neg e] at h
  cases q with
  |zero=>simp;exact fun e2=>e e2.symm
  |succ q=>simpa using KN (eW.1 h) q
theorem aat {R:Ending->World->Prop} {w:World} {D:Nat->Prop} {nb hb num nc i:Nat} {p full tp idx:List UInt8} {nt pr:Nat} {h0:Option Nat} {f0:List UInt8} {kids:List T0} {bs:List Nat} {kv:Value} {Hs Hk:SH}
  (hs:Own 84 1 kv kids.length (bs.map (Pt · 0)) Hs) (hh:HV h0 hv Hh) (hk:oq kids bs Hk) (su:p.length<=100000) (KO:full.length<=100000) (TM:nc+p.length<=full.length) (aau:i<=p.length) (Az:tp.length=i) (mU:Sub [(0,Pt nb 0),(1,S p),(2,Sx hb 1 1),(6,S full),(7,I (nc:Int)),(8,I (i:Nat))] fr) (vh:i=p.length) (hn:h0=none)
  (fin:∀nC w',HT (.node () tp idx wl nt pr (some num) full kids) nb nC->HF w D (nC++Hr) w'->R (.returned (.tuple #[])) w'):
  GC Tryd.prog ⟨57,Tryd.f57,R,w,D⟩ 377 CN fr (Rx nb (mu tp idx wl nt pr kv hv f0) 115::((Hs++(Hh++Hk))++(Rx hb [I (num:Int)] 3::Hr))):=by
 refine gN mU ?_;clear mU;obtain⟨X,hX⟩:∃X,X=(Hh++Hk)++(Rx hb [I (num:Int)] 3::Hr):=⟨_,rfl⟩;refine hO (H':=Rx nb (mu tp idx wl nt pr kv hv f0) 115::(Hs++X)) (fun w1 h1=>by rw[hX,<-aw];exact h1) ?_;have rh:=hk.len;obtain⟨ad,cap,rfl⟩:=hs.slice;obtain⟨mX,l2,c2,rfl,pX⟩:=hh.slice;rw[hn] at pX;have Il:mX=none:=by cases mX with|none=>rfl|some _=>cases pX
 subst Il;refine gz<|gz<|gD<|gB<|gB<|gA (ig aa rfl) ?_;refine gA (ik rfl rfl)<|gC<|gS rfl (fun xz=>absurd xz (by omega)) (fun xz=>?_);refine gL<|gz<|gz<|gD<|gB<|gJ rfl ?_;refine gH sY rfl<|gA (gG bX rfl (.head _) rfl)<|gA (jB bR rfl)<|gC<|gV rfl (fun AA=>absurd AA (by decide)) (fun AA=>?_);refine gL<|gz<|gD<|gB<|gB<|gJ rfl ?_;refine gH sY rfl<|gO cu rfl rfl rfl (.z) rfl rfl<|gC<|gz<|gD<|gB ?_;refine gB<|gJ rfl<|gH Aq rfl<|gO ah rfl rfl rfl (.z) rfl rfl<|gC<|hO (H':=Rx nb (mu tp idx wl nt pr (.slice ad kids.length cap) (Sx hb 1 1) full) 115::(Hs++X)) (fun w1 h1=>h1)<|jD rfl fun w' ia=>fin _ w' (HT.mk hs (HV.row (k:=num) (hb:=hb)) hk) ?_
 rw[hX] at ia;have p1:=oN [[Rx nb (mu tp idx wl nt pr (.slice ad kids.length cap) (Sx hb 1 1) full) 115],Hs,Hh,Hk,[Rx hb [I (num:Int)] 3],Hr] [0,1,2,3,4,5] [2,0,1,4,3,5] (by decide);have h2:=ia.perm (H':=Hh++((Rx nb (mu tp idx wl nt pr (.slice ad kids.length cap) (Sx hb 1 1) full) 115::(Hs++([Rx hb [I (num:Int)] 3]++Hk)))++Hr)) (by simpa using p1);exact h2.sub (aG _ _)
theorem aav {R:Ending->World->Prop} {w:World} {D:Nat->Prop} {nb hb num nc i:Nat} {p full tp idx:List UInt8} {nt pr:Nat} {h0:Option Nat} {f0:List UInt8} {kids:List T0} {bs:List Nat} {kv:Value} {Hs Hk:SH}
  (hs:Own 84 1 kv kids.length (bs.map (Pt · 0)) Hs) (hh:HV h0 hv Hh) (hk:oq kids bs Hk) (su:p.length<=100000) (qv:full.length<=100000) (TM:nc+p.length<=full.length) (aau:i<=p.length) (Az:tp.length=i) (mU:Sub [(0,Pt nb 0),(1,S p),(2,Sx hb 1 1),(6,S full),(7,I (nc:Int)),(8,I (i:Nat))] fr) (vh:i=p.length) (hn:h0.isSome=true)
  (sj:∀e w',wP e->HF w D [] w'->R e w'):
  GC Tryd.prog ⟨57,Tryd.f57,R,w,D⟩ 377 CN fr (Rx nb (mu tp idx wl nt pr kv hv f0) 115::((Hs++(Hh++Hk))++(Rx hb [I (num:Int)] 3::Hr))):=by
 refine gN mU ?_;clear mU;obtain⟨X,hX⟩:∃X,X=(Hh++Hk)++(Rx hb [I (num:Int)] 3::Hr):=⟨_,rfl⟩;refine hO (H':=Rx nb (mu tp idx wl nt pr kv hv f0) 115::(Hs++X)) (fun w1 h1=>by rw[hX,<-aw];exact h1) ?_;have rh:=hk.len;obtain⟨ad,cap,rfl⟩:=hs.slice;obtain⟨mX,l2,c2,rfl,pX⟩:=hh.slice;obtain⟨x8,rfl⟩:∃a,mX=some a:=by cases mX with|none=>rw[<-cI,<-pX] at hn;cases hn|some a=>exact⟨a,rfl⟩
 refine gz<|gz ?_;refine gD<|gB ?_;refine gB<|gA (ig aa rfl) ?_;refine gA (ik rfl rfl)<|gC<|gS rfl (fun xz=>absurd xz (by omega)) (fun xz=>?_);refine gL<|gz ?_;refine gz<|gD ?_;refine gB<|gJ rfl ?_;refine gH sY rfl<|gA (gG bX rfl (.head _) rfl) ?_;refine gA (jB bR rfl)<|gC<|gV rfl (fun AA=>?_) (fun AA=>absurd AA (by simp));refine gD<|gB ?_;refine gA (iR rfl rfl (by simp;omega))<|gA (iR rfl rfl (by simp;omega)) ?_;refine gA (kq aa rfl)<|kp rfl fun w' ia=>sj _ _ ⟨_,_,rfl⟩ (ia.sub (ar _))
theorem aaw {R:Ending->World->Prop} {w:World} {D:Nat->Prop} {nb hb num nc i:Nat} {p full tp idx:List UInt8} {nt pr:Nat} {h0:Option Nat} {f0:List UInt8} {kids:List T0} {bs:List Nat} {kv:Value} {Hs Hk:SH}
  (hs:Own 84 1 kv kids.length (bs.map (Pt · 0)) Hs) (hh:HV h0 hv Hh) (hk:oq kids bs Hk) (su:p.length<=100000) (qv:full.length<=100000) (vo:nc+p.length<=full.length) (xV:i<=p.length) (Az:tp.length=i) (mU:Sub [(0,Pt nb 0),(1,S p),(2,Sx hb 1 1),(6,S full),(7,I (nc:Int)),(8,I (i:Nat))] fr) {c:UInt8} {k0:T0} (mS:i<p.length) (hc:p[i]? =some c) (Im:c=47) (oy:nt=2) (um:kids=[k0])
  (go:∀cb qE tT bc,HT k0.nL cb qE->(∀k' sI,HT k' cb sI->∃nC,HT (.node () tp idx wl nt pr h0 f0 [k']) nb nC/\(sI++tT).Perm (nC++Hr))->Sub [(0,Pt cb 0),(1,S (p.drop i)),(2,Sx hb 1 1),(6,S full),(7,I ((nc+tp.length:Nat):Int))] bc->GC Tryd.prog ⟨57,Tryd.f57,R,w,D⟩ 377 FB bc (qE++(Rx hb [I (num:Int)] 3::tT))):
  GC Tryd.prog ⟨57,Tryd.f57,R,w,D⟩ 377 CN fr (Rx nb (mu tp idx wl nt pr kv hv f0) 115::((Hs++(Hh++Hk))++(Rx hb [I (num:Int)] 3::Hr))):=by
 refine gN mU ?_;clear mU;obtain⟨X,hX⟩:∃X,X=(Hh++Hk)++(Rx hb [I (num:Int)] 3::Hr):=⟨_,rfl⟩;refine hO (H':=Rx nb (mu tp idx wl nt pr kv hv f0) 115::(Hs++X)) (fun w1 h1=>by rw[hX,<-aw];exact h1) ?_;have rh:=hk.len;obtain⟨ad,cap,rfl⟩:=hs.slice;obtain⟨mX,l2,c2,rfl,pX⟩:=hh.slice;subst um;obtain⟨rb,xu,spare,e1,rfl⟩:=hs.at (i:=0) (by simp);cases e1
 cases hk with
 | @cons _ b1 K1 _ _ _ p6 od=>
 cases od
 cases p6 with
 | @mk n4 qf rE pO pd ko qR ul _ Bo rP rQ Ks Kh Kk ks kh kk=>
 refine gz<|gz<|gD<|gB<|gB<|gA (ig aa rfl) ?_;refine gA (ik rfl rfl)<|gC<|gS rfl (fun xz=>?_) (fun xz=>absurd (by omega) xz);refine gz<|gD<|gB<|gB<|gA (iX (i:=i) aa rfl rfl xV)<|gF ?_;refine gC<|gz<|gD<|gB<|gA (iG (i:=0) (b:=c) aa rfl rfl (by rw[bL];exact hc)) ?_;refine gF<|gC<|gz<|gz<|hY (fun bc H'=>Sub [(0,Pt nb 0),(1,S (p.drop i)),(2,Sx hb 1 1),(6,S full),(7,I (nc:Int)),(151,.bool true)] bc/\H'=(Rx nb (mu tp idx wl nt pr (Sx rb 1 cap) (.slice mX l2 c2) f0) 115)::([Rx rb ([b1].map (Pt · 0)++spare) 84]++X)) (fun Bs=>?_) ?_
 ·refine gD<|gB<|gJ rfl<|gH sX rfl<|gA (gG cf rfl (.head _) rfl)<|gA (ie rfl rfl)<|gB<|gZ 140 rfl (fun CP=>?_) (fun CP=>?_)
  ·refine gU<|gI (ie rfl rfl)<|gT<|gB<|gZ 144 rfl (fun CQ=>?_) (fun CQ=>?_)
   ·refine gU<|gI (gX rfl)<|gI (gQ p5 rfl)<|gI (gG bj rfl (.head _) rfl)<|gI (iu az rfl)<|gI (ie rfl rfl) ?_;exact gT<|gC<|Bs _ _ ⟨.of rfl,rfl⟩
   refine gE ?_;refine gE ?_;refine gE ?_;refine gE ?_;refine gE ?_;refine gE ?_;refine hG ?_;refine gC ?_;exact absurd CQ (by rw[Im];decide)
  refine gE ?_;refine gE ?_;refine hG ?_;refine gB ?_;refine gE ?_;refine gE ?_;refine gE ?_;refine gE ?_;refine gE ?_;refine gE ?_;refine hG ?_;refine gC ?_;exact absurd CP (by rw[oy];decide)
 rintro bc H' ⟨CR,rfl⟩;refine gN CR ?_;clear CR;refine ji rfl<|gz<|gD<|gB<|gB<|gJ rfl ?_;refine gH pU rfl<|gA (gG ag rfl (.head _) rfl)<|gA (ig aa rfl)<|gA (iB (r:=((nc+tp.length:Nat):Int)) rfl rfl rfl (by omega) (by omega))<|gF<|gC ?_;refine gz<|gD<|gB<|gJ rfl<|gH p5 rfl<|gA (gG bj rfl (.head _) rfl) ?_;refine gA (ij (i:=0) az bi rfl rfl (by omega))<|gA (gG bK rfl (.tail _ (.head _)) rfl)<|gF<|gC<|gz<|hO (H':=Rx b1 (mu n4 qf rE pO pd rP rQ qR) 115::(Rx nb (mu tp idx wl nt pr (Sx rb 1 cap) (.slice mX l2 c2) f0) 115::Rx rb ([b1].map (Pt · 0)++spare) 84::(Hh++((Ks++(Kh++Kk))++(Rx hb [I (num:Int)] 3::Hr))))) (fun w1 h1=>?_) ?_
 ·rw[hX] at h1;have p1:=oN [[Rx nb (mu tp idx wl nt pr (Sx rb 1 cap) (.slice mX l2 c2) f0) 115],[Rx rb ([b1].map (Pt · 0)++spare) 84],Hh,[Rx b1 (mu n4 qf rE pO pd rP rQ qR) 115],(Ks++(Kh++Kk)),[Rx hb [I (num:Int)] 3],Hr] [0,1,2,3,4,5,6] [3,0,1,2,4,5,6] (by decide);exact h1.perm (by simpa using p1)
 refine gD<|gB<|gJ rfl<|gH tz rfl<|gA (gG da rfl (.head _) rfl)<|gA (jj rfl rfl) ?_;rw[Bn];refine gJ rfl<|gH tz rfl<|gO cy rfl rfl rfl (.z) rfl rfl<|gC<|ir rfl<|jx<|hO (H':=(Rx b1 (mu n4 qf rE pO (pd+1) rP rQ qR) 115::(Ks++(Kh++Kk)))++(Rx hb [I (num:Int)] 3::(Rx nb (mu tp idx wl nt pr (Sx rb 1 cap) (.slice mX l2 c2) f0) 115::Rx rb ([b1].map (Pt · 0)++spare) 84::(Hh++Hr)))) (fun w1 h1=>?_) (go b1 _ _ _ (HT.mk (pr:=pd+1) ks kh kk) (fun k' sI s7=>⟨_,HT.mk (kids:=[k']) (bs:=[b1]) hs hh (oq.one s7),?_⟩) (.of rfl))
 ·have h2:HF w D (Rx b1 (mu n4 qf rE pO (pd+1) rP rQ qR) 115::(Rx nb (mu tp idx wl nt pr (Sx rb 1 cap) (.slice mX l2 c2) f0) 115::Rx rb ([b1].map (Pt · 0)++spare) 84::(Hh++((Ks++(Kh++Kk))++(Rx hb [I (num:Int)] 3::Hr))))) w1:=h1;have p1:=oN [[Rx b1 (mu n4 qf rE pO (pd+1) rP rQ qR) 115],[Rx nb (mu tp idx wl nt pr (Sx rb 1 cap) (.slice mX l2 c2) f0) 115,Rx rb ([b1].map (Pt · 0)++spare) 84],Hh,(Ks++(Kh++Kk)),[Rx hb [I (num:Int)] 3],Hr] [0,1,2,3,4,5] [0,3,4,1,2,5] (by decide);exact h2.perm (by simpa using p1)
 have p1:=oN [sI,[Rx nb (mu tp idx wl nt pr (Sx rb 1 cap) (.slice mX l2 c2) f0) 115,Rx rb ([b1].map (Pt · 0)++spare) 84],Hh,Hr] [0,1,2,3] [1,2,0,3] (by decide);simpa using p1
end Go.Proofs
