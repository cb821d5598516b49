/- Lemmas of this claim; the last text says what is proved. -/
import Derived.Test.YtblencgndjjleaaGreatDoorK10
set_option linter.all false
namespace Go.Sx
open Go
variable [Syms]
structure Way where
 e:AExit
 X:Type
 c:X->Prop
 s:X->List (Nat×AVal)
 b:X->List (Nat×ABlk)
 d:X->List DItem:=fun _=>[]
 n:Nat
def f_7:AExit->AExit->Bool
 | .normal,.normal=>true
 | .exit i,.exit j=>Nat.beq i j
 | .ret,.ret=>true
 |_,_=>false
theorem i_i{a b:AExit}(h:f_7 a b=true):a=b:=by
 cases a<;>cases b<;>simp only[f_7] at h<;>first|rfl|(rw[Nat.eq_of_beq_eq_true h])|cases h
def i_j(e:AExit):List Way->Option Way
 |[]=>none
 |W::r=>cond (f_7 e W.e) (some W) (i_j e r)
theorem i_k{e:AExit}:∀{l:List Way} {W:Way},i_j e l=some W->W∈l/\W.e=e
 |V::r,W,h=>by
  simp only[i_j] at h
  cases hb:f_7 e V.e with
  |true=>rw[hb,cond_true] at h;cases h;exact⟨List.mem_cons_self ..,(i_i hb).symm⟩
  |false=>
   rw[hb,cond_false] at h
   obtain⟨h1,h2⟩:=i_k h
   exact⟨List.mem_cons_of_mem _ h1,h2⟩
structure LoopD where
 J:Type
 side:J->Prop
 μ:J->Nat
 fn:Nat
 p:Nat:=0
 s:J->List (Nat×AVal)
 b:J->List (Nat×ABlk)
 d:J->List DItem:=fun _=>[]
 n:Nat
 ros:List Nat
 st:SId->Option ABlk
 ways:List Way
def LoopD.fr(D:LoopD)(j:D.J):Fr:=t_N D.fn (D.s j)
def LoopD.hp(D:LoopD)(j:D.J):AHeap:=hpD ⟨D.n,D.ros,D.st⟩ (D.b j) (D.d j)
def Way.fr(W:Way)(fn:Nat)(x:W.X):Fr:=t_N fn (W.s x)
def Way.hp(W:Way)(ros:List Nat)(st:SId->Option ABlk)(x:W.X):AHeap:=hpD ⟨W.n,ros,st⟩ (W.b x) (W.d x)
def LoopD.K(D:LoopD)(j:D.J):AExit->Fr->AHeap->Prop:=fun e fr H=>match e with
 | .normal=>∃j',D.side j'/\D.μ j'<D.μ j/\m_o D.p fr H D.fn ⟨D.n,D.ros,D.st⟩ (D.s j') (D.b j') (D.d j')
 |e=>match i_j e D.ways with
  |some W=>∃x:W.X,W.c x/\m_o D.p fr H D.fn ⟨W.n,D.ros,D.st⟩ (W.s x) (W.b x) (W.d x)
  |none=>False
def x_Z(fn:Nat)(ros:List Nat)(st:SId->Option ABlk)(K:AExit->Fr->AHeap->Prop):List Way->Prop
 |[]=>True
 |[W]=>∀x,W.c x->K W.e (W.fr fn x) (W.hp ros st x)
 |W::r=>(∀x,W.c x->K W.e (W.fr fn x) (W.hp ros st x))/\x_Z fn ros st K r
theorem e_Q{fn:Nat}{ros:List Nat}{st:SId->Option ABlk}{K:AExit->Fr->AHeap->Prop}:∀{l:List Way},x_Z fn ros st K l->∀W∈l,∀x,W.c x->K W.e (W.fr fn x) (W.hp ros st x)
 |[W],h,V,hV,x,hx=>by rw[List.mem_singleton] at hV;subst hV;exact h x hx
 |W::V'::r,h,V,hV,x,hx=>by
  rcases List.mem_cons.1 hV with rfl|hV
  ·exact h.1 x hx
  ·exact e_Q h.2 V hV x hx
def LoopD.at(D:LoopD)(j:D.J):d_l:=fun fr H K=>D.side j/\m_o D.p fr H D.fn ⟨D.n,D.ros,D.st⟩ (D.s j) (D.b j) (D.d j)/\x_Z D.fn D.ros D.st K D.ways
def LoopD.Body(D:LoopD)(P:Program)(x:Code):Prop:=∀j,D.side j->WPw D.p P x (D.fr j) (D.hp j) (D.K j)
theorem LoopD.ok{D:LoopD}{P:Program}{x:Code}(h:D.Body P x){j:D.J}{fr:Fr}{H:AHeap}{K:AExit->Fr->AHeap->Prop}(hk:D.at j fr H K):WPw D.p P (.loop x) fr H K:=by
 obtain⟨h1,h2,h3⟩:=hk
 refine WPw.ent (c_u h2) ?_
 refine(r_R (P:=P) (pn:=D.p) D.side D.μ D.fr D.hp (x:=x) (K:=fun e fr H=>match i_j e D.ways with
  |some W=>∃x:W.X,W.c x/\m_o D.p fr H D.fn ⟨W.n,D.ros,D.st⟩ (W.s x) (W.b x) (W.d x)
  |none=>False) (fun j hj=>(h j hj).mono fun e fr H hK=>?_) j h1).post fun e fr H hK=>?_
 ·cases e with
  |normal=>
   obtain⟨j',a,b,c⟩:=hK
   exact⟨j',a,b,c_u c⟩
  |exit i=>exact hK
  |ret=>exact hK
 ·split at hK
  ·rename_i W hW
   obtain⟨x,hx,hent⟩:=hK
   obtain⟨hm,he⟩:=i_k hW
   subst he
   exact⟨_,_,c_u hent,e_Q h3 W hm x hx⟩
  ·exact hK.elim
theorem LTok.nil{pn:Nat}{P:Program}{root:Code}:LTok pn P root []:=fun _ hx=>bv
theorem LTok.cons{pn:Nat}{P:Program}{root:Code}{p:List Nat}{s:d_l}{LT:List (List Nat×d_l)}(h:∀fr H K,s fr H K->WPw pn P (sub root p) fr H K)(hr:LTok pn P root LT):LTok pn P root ((p,s)::LT):=fun x hx=>by
 rcases List.mem_cons.1 hx with rfl|hx
 ·exact h
 ·exact hr x hx
end Go.Sx
namespace Go.Sx
open Go
variable [Syms]
section
variable {P:Program} {w0 w:World} {F0:Fp} {ι:Inj} {H:AHeap}
def H0(st:SId->Option ABlk):AHeap:=⟨.nil,0,[],[],st⟩
def noF(ι:Inj):Fp:=⟨fun _=>False,fun _=>False,fun r=>∃o,ι.m r=some o⟩
theorem Inv.empty(hi:Inv w0 F0 ι H w):Inv w (noF ι) (ι.bare 0) (H0 H.st) w:=
 ⟨fun id b h=>aZ,fun i j b c r h=>aZ,fun _ _=>by simp[Inj.bare],fun _ _ _=>rfl,Nat.le_refl _,rfl,rfl,rfl,⟨hi.good,fun x hx=>⟨Nat.lt_of_lt_of_le (hi.glob.2 x hx).1 hi.size,fun h=>h⟩⟩,
  ⟨fun r o hm=>⟨(hi.fz.frz r o hm).1,.inl ⟨o,hm⟩⟩,fun k b r h=>aZ,fun x b r hx hr=>by rw[Inj.bare_bare];exact hi.fz.st x b r hx hr,hi.fz.stinj,hi.fz.stad⟩⟩
def Inj.with(ι ι':Inj):Inj:=⟨ι.f,ι'.m,ι'.ad⟩
def nlS:AVal->Bool
 | .lit _=>true
 | .any=>true
 | .top=>true
 | .str _=>true
 | .rope _=>true
 | .lenr _=>true
 | .ub _=>true
 | .sp _ _=>true
 | .ssl _ _ _=>true
 | .smp _=>true
 | .by_ _=>true
 | .bp _ _=>true
 | .e0=>true
 |_=>false
def nl:AVal->Bool
 | .tup []=>true
 | .tup [a]=>nlS a
 | .tup [a,b]=>nlS a&&nlS b
 | .tup [a,b,c]=>nlS a&&(nlS b&&nlS c)
 |v=>nlS v
theorem a_g{p:Nat}{a:AVal}(h:nlS a=true):SubA p a a:=by
 intro ι ι' v hle hd
 cases hd<;>first
  |exact .lit
  |(rename_i h1 h2;exact .any h1 h2)
  |exact .top
  |exact .str
  |exact .rope
  |exact .lenr
  |(rename_i h1;exact .ub h1)
  |(rename_i h1;exact .sp (hle.ad _ _ h1))
  |(rename_i h1 h2;exact .ssl (hle.ad _ _ h1) h2)
  |(rename_i h1;exact .smp (hle.ad _ _ h1))
  |(rename_i h1 h2 h3;exact .by_ (hle.m _ _ h1) h2 h3)
  |exact .by0
  |(rename_i h1 h2;exact .bp (hle.m _ _ h1) h2)
  |exact .e0
  |cases h
theorem SubL.nil{p:Nat}:SubL p [] []:=fun ι ι' v _ hd=>by cases hd;exact .nil
theorem SubL.cons{p:Nat}{a b:AVal}{as bs:List AVal}(h:SubA p a b)(hs:SubL p as bs):SubL p (a::as) (b::bs):=fun ι ι' v hle hd=>by
 cases hd with
 |cons h1 h2=>exact .cons (h ι ι' _ hle h1) (hs ι ι' _ hle h2)
theorem SubA.tup{p:Nat}{as bs:List AVal}(h:SubL p as bs):SubA p (.tup as) (.tup bs):=fun ι ι' v hle hd=>by
 cases hd with
 |tup h1=>exact .tup (h ι ι' _ hle h1)
theorem SubA.agg{p:Nat}{as bs:List AVal}(h:SubL p as bs):SubA p (.agg as) (.agg bs):=fun ι ι' v hle hd=>by
 cases hd with
 |agg h1=>exact .agg (h ι ι' _ hle h1)
theorem SubA.ifc{p:Nat}{t:TypeId}{a b:AVal}(h:SubA p a b):SubA p (.ifc t a) (.ifc t b):=fun ι ι' v hle hd=>by
 cases hd with
 |ifc h1=>exact .ifc (h ι ι' _ hle h1)
theorem SubA.fn{p:Nat}{f:Fn}{as bs xs ys:List AVal}(h:SubL p as bs)(h':SubL p xs ys):SubA p (.fn f as xs) (.fn f bs ys):=fun ι ι' v hle hd=>by
 cases hd with
 |fn h1 h2=>exact .fn (h ι ι' _ hle h1) (h' ι ι' _ hle h2)
theorem SubA.ptr{p i o:Nat}(h:i<p):SubA p (.ptr i o) (.ptr i o):=fun ι ι' v hle hd=>by
 cases hd with
 |ptr hr=>exact .ptr (hle.f _ _ (by simp[Inj.bare,h,hr]))
theorem SubA.fam{p n:Nat}{f g:Nat->AVal}(h:∀k,k<n->SubA p (f k) (g k)):SubA p (.fam f n) (.fam g n):=fun ι ι' v hle hd=>by
 cases hd with
 |fam hm hn hv hl ho=>exact .fam (hle.m _ _ hm) hn (fun k v hk=>h k (by have:=(List.getElem?_eq_some_iff.1 hk).1;omega) ι ι' v hle (hv k v hk)) hl ho
 |fam0=>exact .fam0
theorem SubA.famx{p n:Nat}{f g:Nat->AVal}(h:∀k,k<n->SubA p (f k) (g k)):SubA p (.famx f n) (.famx g n):=fun ι ι' v hle hd=>by
 cases hd with
 |famx h1=>exact .famx (SubA.fam h ι ι' _ hle h1)
theorem SubA.fmw{p wd n:Nat}{f g:Nat->List AVal}(h:∀k,k<n->SubL p (f k) (g k)):SubA p (.fmw f wd n) (.fmw g wd n):=fun ι ι' v hle hd=>by
 cases hd with
 |fmw hm hn hv hl ho=>exact .fmw (hle.m _ _ hm) hn (fun k hk=>h k hk ι ι' _ hle (hv k hk)) hl ho
 |fmw0=>exact .fmw0
theorem SubA.fpt{p o:Nat}{as bs:List AVal}(h:SubL p as bs):SubA p (.fpt as o) (.fpt bs o):=fun ι ι' v hle hd=>by
 cases hd with
 |fpt hm hv=>exact .fpt (hle.m _ _ hm) (h ι ι' _ hle hv)
theorem SubA.ite{p:Nat}{c d:Bool}{a b a' b':AVal}(e:c=d)(h:c=true->SubA p a a')(h':c=false->SubA p b b'):SubA p (.ite c a b) (.ite d a' b'):=fun ι ι' v hle hd=>by
 subst e
 cases hd with
 |ite ht hf=>exact .ite (fun e=>h e ι ι' v hle (ht e)) (fun e=>h' e ι ι' v hle (hf e))
theorem t_P{p:Nat}{a:AVal}(h:nl a=true):SubA p a a:=by
 unfold nl at h
 split at h
 ·exact .tup .nil
 ·exact .tup (.cons (a_g h) .nil)
 ·simp only[Bool.and_eq_true] at h
  exact .tup (.cons (a_g h.1) (.cons (a_g h.2) .nil))
 ·simp only[Bool.and_eq_true] at h
  exact .tup (.cons (a_g h.1) (.cons (a_g h.2.1) (.cons (a_g h.2.2) .nil)))
 ·exact a_g h
theorem a_r{p:Nat}:∀{l:List AVal},l.all nl=true->SubL p l l
 |[],_=>.nil
 |a::as,h=>by
  simp only[List.all_cons,Bool.and_eq_true] at h
  exact .cons (t_P h.1) (a_r h.2)
theorem SubF.refl{f:Nat->AVal}{n:Nat}{us:List (Nat×AVal)}(h:∀k,k<n->SubA 0 (f k) (f k)):SubF f f n us:=fun k hk _=>h k hk
theorem PinF.of{p:Nat}{f:Nat->List AVal}(h:∀k,SubL p (f k) (f k)):PinF p f:=h
end
theorem a_p{b:Bool}{p:Prop}:gd b p↔(b=true/\p):=⟨a_h,fun h=>l_q h.1 h.2⟩
theorem a_j{b:Bool}{p q:Prop}:br b p q↔((b=true->p)/\(b=false->q)):=
 ⟨fun h=>by
  cases b
  ·exact⟨fun e=>aW,fun _=>h⟩
  ·exact⟨fun _=>h,fun e=>aW⟩,fun h=>x_I h.1 h.2⟩
theorem a_z{a b:Nat}:Nat.blt a b=true↔a<b:=⟨a_Y,fun h=>Nat.ble_eq_true_of_le h⟩
theorem a_C{a b:Nat}:Nat.blt a b=false↔b<=a:=by
 rw[←Bool.not_eq_true,a_z];omega
end Go.Sx
namespace Go.Sx
open Go
variable [Syms]
def x_0(ρ:Nat->Nat):ACap->ACap
 | .u i s=>.u (ρ i) s
 |c=>c
def t_r(ρ:Nat->Nat):ATot->ATot
 | .u i m=>.u (ρ i) m
 |t=>t
def MP.ren(ρ:Nat->Nat)(q:MP):MP where
 p:=fun ι v=>q.p ⟨fun i=>ι.f (ρ i),ι.m,ι.ad⟩ v
 mono:=fun ι ι' v h hp=>q.mono ⟨fun i=>ι.f (ρ i),ι.m,ι.ad⟩ ⟨fun i=>ι'.f (ρ i),ι'.m,ι'.ad⟩ v ⟨fun i r (h':ι.f (ρ i)=some r)=>h.f (ρ i) r h',h.m,h.ad⟩ hp
 one:=fun _ _ h=>q.one _ _ h
 kp:=q.kp
def i_8(ρ:Nat->Nat):Nat->AVal->AVal
 |0,_=>.top
 |n+1,v=>match v with
  | .ptr i o=>.ptr (ρ i) o
  | .slc i o l c=>.slc (ρ i) o l (x_0 ρ c)
  | .rsl i p m c=>.rsl (ρ i) p m (x_0 ρ c)
  | .map i=>.map (ρ i)
  | .fn f a b=>.fn f (a.map (i_8 ρ n)) (b.map (i_8 ρ n))
  | .ifc t v=>.ifc t (i_8 ρ n v)
  | .agg cs=>.agg (cs.map (i_8 ρ n))
  | .tup cs=>.tup (cs.map (i_8 ρ n))
  | .fpt cs o=>.fpt (cs.map (i_8 ρ n)) o
  | .ite c a b=>.ite c (i_8 ρ n a) (i_8 ρ n b)
  | .mp q=>.mp (q.ren ρ)
  |v=>v
def p_g{α:Type}(f:α->Prop):List α->Prop
 |[]=>True
 |[a]=>f a
 |a::r=>f a/\p_g f r
theorem c_m{α:Type}{f:α->Prop}:∀{l:List α},p_g f l->∀x∈l,f x
 |[a],h,x,hx=>by rw[List.mem_singleton] at hx;subst hx;exact h
 |a::b::r,h,x,hx=>by
  rcases List.mem_cons.1 hx with rfl|hx
  ·exact h.1
  ·exact c_m h.2 x hx
def nfV:Nat->AVal->Prop
 |0,_=>True
 |n+1,v=>match v with
  | .fn _ a b=>p_g (nfV n) a/\p_g (nfV n) b
  | .ifc _ v=>nfV n v
  | .agg cs=>p_g (nfV n) cs
  | .tup cs=>p_g (nfV n) cs
  | .fpt cs _=>p_g (nfV n) cs
  | .ite _ a b=>nfV n a/\nfV n b
  | .fam f k=>∀i,i<k->SubA 0 (f i) (f i)
  | .famx f k=>∀i,i<k->SubA 0 (f i) (f i)
  | .fmw f _ k=>∀i,i<k->SubL 0 (f i) (f i)
  | .fwp f _ k _ _=>∀i,i<k->SubL 0 (f i) (f i)
  | .fmp f k _=>∀i,i<k->SubA 0 (f i) (f i)
  |_=>True
structure RenOk (ι:Inj) (ρ:Nat->Nat) (ι':Inj):Prop where
 f:∀i r,ι i=some r->ι' (ρ i)=some r
 m:∀r o,ι.m r=some o->ι'.m r=some o
 ad:∀x r,ι.ad x=some r->ι'.ad x=some r
theorem RenOk.bare{ι ι':Inj}{ρ:Nat->Nat}(h:RenOk ι ρ ι'):(ι.bare 0).le ι':=⟨fun i r hr=>by simp[Inj.bare] at hr,h.m,h.ad⟩
theorem m_r{ι ι':Inj}{ρ:Nat->Nat}(h:RenOk ι ρ ι'){c:ACap}{n:Nat}(hc:c.den ι n):(x_0 ρ c).den ι' n:=by
 cases c with
 |n k=>exact hc
 |u i s=>obtain⟨d,hd,h63,e⟩:=hc;exact⟨d,h.f _ _ hd,h63,e⟩
 |x=>trivial
theorem f_k{ι ι':Inj}{ρ:Nat->Nat}(h:RenOk ι ρ ι'){c:ATot}{n:Nat}(hc:c.ok ι n):(t_r ρ c).ok ι' n:=by
 cases c with
 |n k=>exact hc
 |u i s=>obtain⟨d,hd,e⟩:=hc;exact⟨d,h.f _ _ hd,e⟩
theorem d_B{ι ι':Inj}{f:AVal->AVal}{P:AVal->Prop}(h:∀a v,P a->Den ι a v->Den ι' (f a) v):∀{as:List AVal} {vs:List Value},(∀x∈as,P x)->DenL ι as vs->DenL ι' (as.map f) vs
 |[],_,_,.nil=>.nil
 |a::as,_,hp,.cons h1 h2=>.cons (h a _ (hp a (List.mem_cons_self ..)) h1) (d_B h (fun x hx=>hp x (List.mem_cons_of_mem _ hx)) h2)
theorem h_e{ι ι':Inj}{ρ:Nat->Nat}(h:RenOk ι ρ ι'):∀(n:Nat) (a:AVal) (v:Value),nfV n a->Den ι a v->Den ι' (i_8 ρ n a) v:=by
 intro n
 induction n with
 |zero=>intro a v _ _;exact .top
 |succ n ih=>
  intro a v hn hd
  cases hd with
  |ptr hr=>exact .ptr (h.f _ _ hr)
  |slc hr hl ho hc=>exact .slc (h.f _ _ hr) hl ho (m_r h hc)
  |rsl hr hl ho hc=>exact .rsl (h.f _ _ hr) hl ho (m_r h hc)
  |map hr=>exact .map (h.f _ _ hr)
  |fn h1 h2=>exact .fn (d_B ih (c_m hn.1) h1) (d_B ih (c_m hn.2) h2)
  |ifc h1=>exact .ifc (ih _ _ hn h1)
  |agg h1=>exact .agg (d_B ih (c_m hn) h1)
  |tup h1=>exact .tup (d_B ih (c_m hn) h1)
  |fpt hm h1=>exact .fpt (h.m _ _ hm) (d_B ih (c_m hn) h1)
  |ite ht hf=>exact .ite (fun e=>ih _ _ hn.1 (ht e)) (fun e=>ih _ _ hn.2 (hf e))
  |fam hm hl hv hle ho=>exact .fam (h.m _ _ hm) hl (fun k v hk=>hn k (by have:=(List.getElem?_eq_some_iff.1 hk).1;omega) _ _ _ h.bare (hv k v hk)) hle ho
  |fam0=>exact .fam0
  |fmp hm hl hv ho=>exact .fmp (h.m _ _ hm) hl (fun k v hk=>hn k (by have:=(List.getElem?_eq_some_iff.1 hk).1;omega) _ _ _ h.bare (hv k v hk)) ho
  |famx hd=>
   refine .famx ?_
   cases hd with
   |fam hm hl hv hle ho=>exact .fam (h.m _ _ hm) hl (fun k v hk=>hn k (by have:=(List.getElem?_eq_some_iff.1 hk).1;omega) _ _ _ h.bare (hv k v hk)) hle ho
   |fam0=>exact .fam0
  |fmw hm hl hv hle ho=>exact .fmw (h.m _ _ hm) hl (fun k hk=>hn k hk _ _ _ h.bare (hv k hk)) hle ho
  |fmw0=>exact .fmw0
  |fwp hm hl hv hk ho=>exact .fwp (h.m _ _ hm) hl (fun k hk=>hn k hk _ _ _ h.bare (hv k hk)) hk ho
  |lit=>exact .lit
  |any h1 h2=>exact .any h1 h2
  |top=>exact .top
  |str=>exact .str
  |rope=>exact .rope
  |lenr=>exact .lenr
  |ub h1=>exact .ub h1
  |sp had=>exact .sp (h.ad _ _ had)
  |ssl had hl=>exact .ssl (h.ad _ _ had) hl
  |smp had=>exact .smp (h.ad _ _ had)
  |by_ h1 h2 h3=>exact .by_ (h.m _ _ h1) h2 h3
  |by0=>exact .by0
  |bp h1 h2=>exact .bp (h.m _ _ h1) h2
  |e0=>exact .e0
  |@mp q v h1=>exact .mp (q:=q.ren ρ) (q.mono ι ⟨fun i=>ι'.f (ρ i),ι'.m,ι'.ad⟩ v ⟨fun i r h'=>h.f i r h',h.m,h.ad⟩ h1)
def x_6(ρ:Nat->Nat):List (AVal×AVal×Nat)->List (AVal×AVal×Nat)
 |[]=>[]
 |(k,v,n)::r=>(i_8 ρ 24 k,i_8 ρ 24 v,n)::x_6 ρ r
def nfE:List (AVal×AVal×Nat)->Prop
 |[]=>True
 |(k,v,_)::r=>nfV 24 k/\nfV 24 v/\nfE r
theorem m_s{ι ι':Inj}{ρ:Nat->Nat}(h:RenOk ι ρ ι'):∀{es:List (AVal×AVal×Nat)} {l:List MapEntry},nfE es->EDen ι es l->EDen ι' (x_6 ρ es) l
 |[],[],_,_=>trivial
 |(_,_,_)::_,_::_,hn,hd=>⟨h_e h 24 _ _ hn.1 hd.1,h_e h 24 _ _ hn.2.1 hd.2.1,hd.2.2.1,m_s h hn.2.2 hd.2.2.2⟩
 |[],_::_,_,hd=>by cases hd
 |(_,_,_)::_,[],_,hd=>by cases hd
def t_Q(ρ:Nat->Nat):ABlk->ABlk
 | .row cs e t=>.row (cs.map (i_8 ρ 24)) e (t_r ρ t)
 | .bytes l e t=>.bytes l e (t_r ρ t)
 | .rbytes l e t=>.rbytes l e (t_r ρ t)
 | .fam f n us xs e t=>.fam f n us xs e (t_r ρ t)
 | .famw f wd n xs e t=>.famw f wd n xs e (t_r ρ t)
 | .map es c=>.map (x_6 ρ es) c
 | .siter l p=>.siter l p
def nfB:ABlk->Prop
 | .row cs _ _=>p_g (nfV 24) cs
 | .fam f n us xs _ _=>us=[]/\xs=[]/\∀i,i<n->SubA 0 (f i) (f i)
 | .famw f _ n xs _ _=>xs=[]/\∀i,i<n->SubL 0 (f i) (f i)
 | .map es _=>nfE es
 |_=>True
theorem r_U{ι ι':Inj}{ρ:Nat->Nat}(h:RenOk ι ρ ι'){b:ABlk}{o:Obj}(hn:nfB b)(hd:BDen ι b o):BDen ι' (t_Q ρ b) o:=by
 cases b with
 |row cs e t=>
  obtain⟨vs,rest,rfl,hv,ht⟩:=hd
  exact⟨vs,rest,rfl,d_B (h_e h 24) (c_m hn) hv,f_k h ht⟩
 |bytes l e t=>
  obtain⟨rest,fz,rfl,ht,hfz⟩:=hd
  exact⟨rest,fz,rfl,f_k h ht,hfz⟩
 |rbytes l e t=>
  obtain⟨rest,fz,rfl,ht,hfz⟩:=hd
  exact⟨rest,fz,rfl,f_k h ht,hfz⟩
 |fam f n us xs e t=>
  obtain⟨rfl,rfl,hs⟩:=hn
  obtain⟨vs,ys,rest,rfl,hl,hv,hy,ht⟩:=hd
  exact⟨vs,ys,rest,rfl,hl,fun k v hk=>hs k (by have:=(List.getElem?_eq_some_iff.1 hk).1;omega) _ _ _ h.bare (hv k v hk),by cases hy;exact .nil,f_k h ht⟩
 |famw f wd n xs e t=>
  obtain⟨rfl,hs⟩:=hn
  obtain⟨vs,ys,rest,rfl,hl,hv,hy,ht⟩:=hd
  exact⟨vs,ys,rest,rfl,hl,fun k hk=>hs k hk _ _ _ h.bare (hv k hk),by cases hy;exact .nil,f_k h ht⟩
 |map es c=>
  obtain⟨ent,rfl,hE⟩:=hd
  exact⟨ent,rfl,m_s h hn hE⟩
 |siter l p=>exact hd
def d_m(ros:List Nat)(σ:Sg):List (Nat×ABlk)->List Nat
 |[]=>[]
 |(i,_)::r=>cond (d_F ros i) (d_m ros σ r) (match a_5 σ i with
  |some (.id j)=>j::d_m ros σ r
  |_=>d_m ros σ r)
def rho(σ:Sg)(p next:Nat):Nat->Nat:=fun i=>cond (Nat.blt i p) (match a_5 σ i with|some (.id j)=>j|_=>0) (next+(i-p))
def t_R(ρ:Nat->Nat)(l:List (Nat×ABlk))(T:Tr ABlk):Tr ABlk:=l.foldr (fun x T=>T.set (ρ x.1) (some (t_Q ρ x.2))) T
def j_O(i:Nat):List (Nat×ABlk)->Bool
 |[]=>false
 |(k,_)::r=>Nat.beq k i||j_O i r
def j_P(l:List (Nat×ABlk)):Nat->Bool
 |0=>true
 |n+1=>j_O n l&&j_P l n
structure GenS where
 A:Type
 st:SId->Option ABlk
 dec:List AVal->AHeap->Option A
 dom:A->Prop
 args1:A->List AVal
 blks1:A->List (Nat×ABlk)
 next1:Nat
 ros1:List Nat
 p1:Nat
 X:Type
 G:A->X->Prop
 val:X->AVal
 out:X->List (Nat×ABlk)
 n2:Nat
def GenS.okC(S:GenS)(a:S.A)(σ:Sg):Bool:=c_S S.next1 σ&&(c_c (o_H σ (S.blks1 a))&&(i_7 (o_H σ (S.blks1 a)) (fzs σ)&&j_P (S.blks1 a) S.p1))
def GenS.spec(S:GenS):Spec:=fun args H K=>match S.dec args H with
 |some a=>H.st=S.st/\S.dom a/\mLs (mV H 24) args (S.args1 a) [] (fun σ=>k_y H S.ros1 (S.blks1 a) σ (fun σ=>gd (S.okC a σ)
  (∀x,S.G a x->K (i_8 (rho σ S.p1 H.next) 24 (S.val x)) ⟨t_R (rho σ S.p1 H.next) (S.out x) (a_O (d_m S.ros1 σ (S.blks1 a)) (a_O (fzs σ) H)).blks,H.next+(S.n2-S.p1),H.defs,H.ros,H.st⟩)))
 |none=>False
def r_V(p:Nat)(v:AVal)(H:AHeap)(D:HD)(t:AVal)(blks:List (Nat×ABlk)):Prop:=
 H.st=D.st/\nfV 24 t/\p_g (fun x=>nfB x.2) blks/\mV H 24 v t (m_n p) (fun σ=>k_y H D.ros blks σ (fun σ=>okS D blks σ))
def GenS.Body(S:GenS)(P:Program)(f:FuncId):Prop:=
 ∀a,S.dom a->∀(w0:World) (F0:Fp) (ι:Inj) (w:World) (vs:List Value),Inv w0 F0 ι (hpD ⟨S.next1,S.ros1,S.st⟩ (S.blks1 a) []) w->DenL ι (S.args1 a) vs->
  Calls P f vs.toArray w (d_M w0 F0 (ι.bare S.p1) (fun v H=>∃x,S.G a x/\r_V S.p1 v H ⟨S.n2,[],S.st⟩ (S.val x) (S.out x)))
section
variable {P:Program} {w0 w:World} {F0:Fp} {ι:Inj} {H:AHeap}
theorem f_l{p:Nat}{v:AVal}{D:HD}{t:AVal}{blks:List (Nat×ABlk)}{x:Value}(h:r_V p v H D t blks)(hi:Inv w0 F0 ι H w)(hd:Den ι v x):
 ∃ι3,(ι.bare p).le ι3/\Inv w0 F0 ι3 (hpD D blks []) w/\Den ι3 t x:=by
 obtain⟨hst,_,_,h⟩:=h
 obtain⟨σ1,e1,h,d1⟩:=e_o hi 24 h hd
 obtain⟨σ2,e2,h,d2⟩:=e_O hi h
 have e12:=Sg.ext_trans e1 e2
 exact⟨b_r w ι σ2,h_c hi e12,c_7 hi hst d2 h (e12.n (m_q H p)),d1.mono (a_S e2)⟩
theorem d_S{ρ:Nat->Nat}:∀{l:List (Nat×ABlk)} {T:Tr ABlk} {k:Nat} {b:ABlk},(t_R ρ l T).get k=some b->(∃i c,Tr.get (l.foldr (fun x T=>T.set x.1 (some x.2)) .nil) i=some c/\ρ i=k/\b=t_Q ρ c)\/T.get k=some b
 |[],T,k,b,h=>.inr h
 |(i,c)::r,T,k,b,h=>by
  have h:((t_R ρ r T).set (ρ i) (some (t_Q ρ c))).get k=some b:=h
  rw[Tr.get_set] at h
  by_cases e:k=ρ i
  ·rw[if_pos e] at h
   cases h
   exact .inl ⟨i,c,by simp only[List.foldr_cons,Tr.get_set,if_true],e.symm,rfl⟩
  ·rw[if_neg e] at h
   rcases d_S h with⟨i',c',h1,h2,h3⟩|h1
   ·refine .inl ⟨i',c',?_,h2,h3⟩
    simp only[List.foldr_cons,Tr.get_set]
    rw[if_neg (fun e'=>e (by rw[←h2,e']))]
    exact h1
   ·exact .inr h1
theorem d_T{ros:List Nat}{σ:Sg}:∀{l:List (Nat×ABlk)} {j:Nat},j∈d_m ros σ l->∃z∈l,d_F ros z.1=false/\a_5 σ z.1=some (.id j)
 |(i,b)::us,j,h=>by
  simp only[d_m] at h
  cases hr:d_F ros i with
  |true=>
   rw[hr,cond_true] at h
   obtain⟨z,hz,hzl⟩:=d_T h
   exact⟨z,List.mem_cons_of_mem _ hz,hzl⟩
  |false=>
   rw[hr,cond_false] at h
   split at h
   ·rename_i j' hl
    rcases List.mem_cons.1 h with rfl|h
    ·exact⟨_,List.mem_cons_self ..,hr,hl⟩
    ·obtain⟨z,hz,hzl⟩:=d_T h
     exact⟨z,List.mem_cons_of_mem _ hz,hzl⟩
   ·obtain⟨z,hz,hzl⟩:=d_T h
    exact⟨z,List.mem_cons_of_mem _ hz,hzl⟩
theorem i_l{ros:List Nat}{σ:Sg}:∀{l:List (Nat×ABlk)} {z:Nat×ABlk} {j:Nat},z∈l->d_F ros z.1=false->a_5 σ z.1=some (.id j)->j∈d_m ros σ l
 |(i,b)::us,z,j,hz,hn,hl=>by
  simp only[d_m]
  rcases List.mem_cons.1 hz with rfl|hz
  ·rw[hn,cond_false,hl];exact List.mem_cons_self ..
  ·have:=i_l hz hn hl
   cases d_F ros i with
   |true=>exact this
   |false=>
    rw[cond_false]
    split
    ·exact List.mem_cons_of_mem _ this
    ·exact this
theorem i_m{i:Nat}:∀{l:List (Nat×ABlk)},j_O i l=true->∃x∈l,x.1=i
 |(k,b)::r,h=>by
  simp only[j_O,Bool.or_eq_true] at h
  rcases h with h|h
  ·exact⟨(k,b),List.mem_cons_self ..,Nat.eq_of_beq_eq_true h⟩
  ·obtain⟨x,hx,e⟩:=i_m h
   exact⟨x,List.mem_cons_of_mem _ hx,e⟩
theorem i_n{l:List (Nat×ABlk)}:∀{n i:Nat},j_P l n=true->i<n->∃x∈l,x.1=i
 |n+1,i,h,hi=>by
  simp only[j_P,Bool.and_eq_true] at h
  by_cases e:i=n
  ·subst e;exact i_m h.1
  ·exact i_n h.2 ac
def k_z(w:World)(ι:Inj)(H:AHeap)(ros:List Nat)(σ:Sg)(l:List (Nat×ABlk)):Fp:=
 ⟨fun r=>∃j∈d_m ros σ l,∃b,H.get j=some b/\ι j=some r,fun r=>∃z∈l,d_F ros z.1=true/\∃j b,a_5 σ z.1=some (.id j)/\H.get j=some b/\ι j=some r,fun r=>∃o,(b_r w ι σ).m r=some o⟩
theorem h_f{ros:List Nat}{σ:Sg}{l:List (Nat×ABlk)}(d:BlkD w0 F0 w ι H ros σ l){r:Nat}(h:(k_z w ι H ros σ l).w r):F0.w r\/w0.heap.size<=r:=by
 obtain⟨j,hj,b,hg,hr⟩:=h
 obtain⟨z,hz,hn,hl⟩:=d_T hj
 obtain⟨j',c,r',o,hl',hg',hr',_,_,hF,_⟩:=d z hz
 rw[hl] at hl';cases hl'
 rw[hr] at hr';cases hr'
 rcases hF with h1|h1|h1
 ·exact .inl h1
 ·exact .inr h1
 ·rw[hn] at h1;cases h1.2
theorem k_A(hi:Inv w0 F0 ι H w){D:HD}{σ:Sg}{l:List (Nat×ABlk)}(hst:H.st=D.st)(d:BlkD w0 F0 w ι H D.ros σ l)(hok:okS D l σ)(hz:t_q H σ):
 Inv w (k_z w ι H D.ros σ l) (b_r w ι σ) (hpD D l []) w:=by
 have hs:=c_7 (ds:=[]) hi hst d hok hz
 refine⟨?_,hs.inj,hs.fresh,fun _ _ _=>rfl,Nat.le_refl _,rfl,rfl,rfl,⟨hi.good,fun x hx=>?_⟩,⟨fun r o hm=>⟨(hs.fz.frz r o hm).1,.inl ⟨o,hm⟩⟩,hs.fz.nofz,hs.fz.st,hs.fz.stinj,hs.fz.stad⟩⟩
 ·intro i b hg
  obtain⟨j,c,r,o,hl,hg',hr,ho,hb,hF,_⟩:=d (i,b) (a_1 hg)
  refine⟨r,o,by rw[a_w hl];exact hr,ho,hb,?_⟩
  cases hn:d_F D.ros i with
  |true=>exact .inr (.inr ⟨⟨(i,b),a_1 hg,hn,j,c,hl,hg',hr⟩,hn⟩)
  |false=>exact .inl ⟨j,i_l (a_1 hg) hn hl,c,hg',hr⟩
 ·obtain⟨g1,g2⟩:=hi.glob.2 x hx
  refine⟨Nat.lt_of_lt_of_le g1 hi.size,fun hf=>?_⟩
  rcases h_f d hf with hf|hf
  ·exact g2 hf
  ·omega
theorem f_8{S:GenS}{K:AVal->AHeap->Prop}{vs:List Value}{a:S.A}{σ2:Sg}(hi:Inv w0 F0 ι H w)(hst:H.st=S.st)(hdom:S.dom a)(d1:DenL (b_r w ι σ2) (S.args1 a) vs)(d2:BlkD w0 F0 w ι H S.ros1 σ2 (S.blks1 a))(hz:t_q H σ2)(hc:S.okC a σ2=true)
 (hK:∀x,S.G a x->K (i_8 (rho σ2 S.p1 H.next) 24 (S.val x)) ⟨t_R (rho σ2 S.p1 H.next) (S.out x) (a_O (d_m S.ros1 σ2 (S.blks1 a)) (a_O (fzs σ2) H)).blks,H.next+(S.n2-S.p1),H.defs,H.ros,H.st⟩):
 ∃a F1 ι1,S.dom a/\Inv w F1 ι1 (hpD ⟨S.next1,S.ros1,S.st⟩ (S.blks1 a) []) w/\DenL ι1 (S.args1 a) vs/\
  ∀e w',d_M w F1 (ι1.bare S.p1) (fun v H=>∃x,S.G a x/\r_V S.p1 v H ⟨S.n2,[],S.st⟩ (S.val x) (S.out x)) e w'->d_M w0 F0 ι K e w':=by
 simp only[GenS.okC,Bool.and_eq_true] at hc
 have hok:okS ⟨S.next1,S.ros1,S.st⟩ (S.blks1 a) σ2:=l_q (by simp only[Bool.and_eq_true];exact⟨hc.1,hc.2.1,hc.2.2.1⟩) trivial
 have hsmall:=k_A hi (D:=⟨S.next1,S.ros1,S.st⟩) hst d2 hok hz
 have hcompfz:=(c_7 (ds:=[]) hi (D:=⟨S.next1,S.ros1,S.st⟩) hst d2 hok hz).fz
 refine⟨a,_,b_r w ι σ2,hdom,hsmall,d1,fun e w' he=>?_⟩
 cases e with
 |panicked c=>exact he.elim
 |outgrown=>exact he.elim
 |returned v=>
 obtain⟨av,H',ι',⟨x,hG,hent⟩,hdx,hle',hinv'⟩:=he
 have hnf:=hent.2.1
 have hnfb:=hent.2.2.1
 obtain⟨ι3,hle3,hinv,hdv⟩:=f_l hent hinv' hdx
 clear hent hinv' hdx
 have hle:((b_r w ι σ2).bare S.p1).le ι3:=Inj.le_trans (Inj.bare_step hle') hle3
 have hlt:∀{id b r},H.get id=some b->ι id=some r->r<w.heap.size:=fun hg hr=>by
  obtain⟨r',o,hr',ho,_⟩:=hi.blk _ _ hg
  rw[hr] at hr';cases hr'
  rcases Nat.lt_or_ge _ w.heap.size with h'|h'
  ·exact h'
  ·rw[Array.getElem?_eq_none h'] at ho;cases ho
 have hnext:∀{k r},ι k=some r->k<H.next:=fun{k r} hr=>by
  rcases Nat.lt_or_ge k H.next with h'|h'
  ·exact h'
  ·rw[hi.fresh k h'] at hr;cases hr
 let ι4:Inj:=⟨fun k=>if k<H.next then ι k else ι3 (S.p1+(k-H.next)),ι3.m,ι3.ad⟩
 have hle4:ι.le ι4:=⟨fun k r hr=>by simp[ι4,hnext hr,hr],fun r o hm=>hle.m _ _ (a_6 hi hm),hle.ad⟩
 have hρ:RenOk ι3 (rho σ2 S.p1 H.next) ι4:=by
  refine⟨fun i r hr=>?_,fun _ _ h=>h,fun _ _ h=>h⟩
  ·unfold rho
   by_cases hp:i<S.p1
   ·rw[a_z.2 hp,cond_true]
    obtain⟨z,hz,rfl⟩:=i_n hc.2.2.2 hp
    obtain⟨j,c,r0,o,hl,hg,hr0,_⟩:=d2 z hz
    rw[hl]
    have h3:=hle.f z.1 r0 (by
     show(if z.1<S.p1 then(b_r w ι σ2) z.1 else none)=_
     rw[if_pos hp,a_w hl];exact hr0)
    rw[hr] at h3;cases h3
    simp[ι4,hnext hr0,hr0]
   ·rw[a_C.2 (Nat.le_of_not_lt hp),cond_false]
    have e:S.p1+(H.next+(i-S.p1)-H.next)=i:=ac
    have hn:¬H.next+(i-S.p1)<H.next:=ac
    show(if H.next+(i-S.p1)<H.next then ι (H.next+(i-S.p1)) else ι3 (S.p1+(H.next+(i-S.p1)-H.next)))=some r
    rw[if_neg hn,e]
    exact hr
 have hold:∀{k b r},(a_O (d_m S.ros1 σ2 (S.blks1 a)) (a_O (fzs σ2) H)).get k=some b->ι k=some r->H.get k=some b/\k∉fzs σ2/\¬(k_z w ι H S.ros1 σ2 (S.blks1 a)).w r:=by
  intro k b r hk hr
  rw[a_K] at hk
  split at hk
  ·cases hk
  ·rename_i hn
   rw[a_K] at hk
   split at hk
   ·cases hk
   ·rename_i hn2
    refine⟨hk,hn2,?_⟩
    rintro⟨j,hj,bj,hgj,hrj⟩
    have:=hi.inj k j b bj r hk hgj hr hrj
    subst this
    exact hn hj
 have hnew:∀{r},(k_z w ι H S.ros1 σ2 (S.blks1 a)).w r\/w.heap.size<=r->F0.w r\/w0.heap.size<=r:=fun h=>by
  rcases h with h|h
  ·exact h_f d2 h
  ·exact .inr (Nat.le_trans hi.size h)
 have hout:∀{i c},Tr.get ((S.out x).foldr (fun x T=>T.set x.1 (some x.2)) .nil) i=some c->∃r o,ι3 i=some r/\w'.heap[r]?=some o/\BDen ι4 (t_Q (rho σ2 S.p1 H.next) c) o/\((k_z w ι H S.ros1 σ2 (S.blks1 a)).w r\/w.heap.size<=r)/\ι3.m r=none:=by
  intro i c hg
  have hg':(hpD ⟨S.n2,[],S.st⟩ (S.out x) []).get i=some c:=hg
  obtain⟨r,o,hr,ho,hb,hF⟩:=hinv.blk _ _ hg'
  refine⟨r,o,hr,ho,r_U hρ (c_m hnfb _ (e_N _ _ hg)) hb,?_,hinv.fz.nofz _ _ _ hg' hr⟩
  rcases hF with h1|h1|h1
  ·exact .inl h1
  ·exact .inr h1
  ·cases h1.2
 have hk4:∀{k r},ι k=some r->ι4 k=some r:=fun h=>hle4.f _ _ h
 refine⟨_,_,ι4,hK x hG,h_e hρ 24 _ _ hnf hdv,hle4,⟨?_,?_,?_,?_,Nat.le_trans hi.size hinv.size,hinv.tape.trans hi.tape,hinv.os.trans hi.os,hinv.output.trans hi.output,hi.glob,⟨?_,?_,?_,hinv.fz.stinj,fun x r hr=>by
  show ∃b,H.st x=some b
  rw[hst];exact hinv.fz.stad x r hr⟩⟩⟩
 ·intro k b hk
  rcases d_S hk with⟨i,c,hg,rfl,rfl⟩|hk
  ·obtain⟨r,o,hr,ho,hb,hF,_⟩:=hout hg
   exact⟨r,o,hρ.f _ _ hr,ho,hb,(hnew hF).elim .inl fun h=>.inr (.inl h)⟩
  ·have hk1:=hk
   rw[show Tr.get (a_O (d_m S.ros1 σ2 (S.blks1 a)) (a_O (fzs σ2) H)).blks k=(a_O (d_m S.ros1 σ2 (S.blks1 a)) (a_O (fzs σ2) H)).get k from rfl,a_K] at hk1
   split at hk1
   ·cases hk1
   ·rw[a_K] at hk1
    split at hk1
    ·cases hk1
    ·obtain⟨r,o,hr,ho,hb,hF⟩:=hi.blk k b hk1
     obtain⟨_,_,hnw⟩:=hold hk hr
     refine⟨r,o,hk4 hr,?_,hb.mono hle4,hF⟩
     rw[hinv.frame r (hlt hk1 hr) hnw]
     exact ho
 ·have old:∀{k b r},(a_O (d_m S.ros1 σ2 (S.blks1 a)) (a_O (fzs σ2) H)).get k=some b->ι4 k=some r->ι k=some r/\H.get k=some b/\¬(k_z w ι H S.ros1 σ2 (S.blks1 a)).w r/\r<w.heap.size:=by
   intro k b r hk hr
   have hk1:=hk
   rw[a_K] at hk1
   split at hk1
   ·cases hk1
   ·rw[a_K] at hk1
    split at hk1
    ·cases hk1
    ·obtain⟨r0,o,hr0,_⟩:=hi.blk k b hk1
     have:=hk4 hr0
     rw[hr] at this;cases this
     obtain⟨_,_,hnw⟩:=hold hk hr0
     exact⟨hr0,hk1,hnw,hlt hk1 hr0⟩
  intro i j b c r h1 h2 h3 h4
  rcases d_S h1 with⟨i1,c1,hg1,rfl,rfl⟩|h1<;>rcases d_S h2 with⟨i2,c2,hg2,rfl,rfl⟩|h2
  ·obtain⟨r1,o1,hr1,_⟩:=hout hg1
   obtain⟨r2,o2,hr2,_⟩:=hout hg2
   have e1:=hρ.f _ _ hr1
   have e2:=hρ.f _ _ hr2
   rw[h3] at e1;rw[h4] at e2;cases e1;cases e2
   have:=hinv.inj i1 i2 c1 c2 r hg1 hg2 hr1 hr2
   rw[this]
  ·obtain⟨r1,o1,hr1,_,_,hF,_⟩:=hout hg1
   have e1:=hρ.f _ _ hr1
   rw[h3] at e1;cases e1
   obtain⟨_,_,hnw,hl⟩:=old h2 h4
   rcases hF with hF|hF
   ·exact(hnw hF).elim
   ·omega
  ·obtain⟨r1,o1,hr1,_,_,hF,_⟩:=hout hg2
   have e1:=hρ.f _ _ hr1
   rw[h4] at e1;cases e1
   obtain⟨_,_,hnw,hl⟩:=old h1 h3
   rcases hF with hF|hF
   ·exact(hnw hF).elim
   ·omega
  ·obtain⟨a1,a2,_⟩:=old h1 h3
   obtain⟨b1,b2,_⟩:=old h2 h4
   exact hi.inj i j b c r a2 b2 a1 b1
 ·intro k hk
  have hk:H.next+(S.n2-S.p1)<=k:=hk
  have:¬k<H.next:=ac
  simp only[ι4,this,if_false]
  exact hinv.fresh _ (by show S.n2<=_;omega)
 ·intro r hr hnf
  rw[hinv.frame r (Nat.lt_of_lt_of_le hr hi.size) ?_]
  ·exact hi.frame r hr hnf
  ·intro hw
   rcases h_f d2 hw with h1|h1
   ·exact hnf h1
   ·omega
 ·intro r o hm
  obtain⟨h1,h2⟩:=hinv.fz.frz r o hm
  refine⟨h1,?_⟩
  rcases h2 with⟨o',ho'⟩|h2|h2
  ·exact(hcompfz.frz r o' ho').2
  ·rcases h_f d2 h2 with h3|h3
   ·exact .inr (.inl h3)
   ·exact .inr (.inr h3)
  ·exact .inr (.inr (Nat.le_trans hi.size h2))
 ·intro k b r hk hr
  rcases d_S hk with⟨i,c,hg,rfl,rfl⟩|hk
  ·obtain⟨r1,o1,hr1,_,_,_,hm⟩:=hout hg
   have e1:=hρ.f _ _ hr1
   rw[hr] at e1;cases e1
   exact hm
  ·have hk1:=hk
   rw[show Tr.get (a_O (d_m S.ros1 σ2 (S.blks1 a)) (a_O (fzs σ2) H)).blks k=(a_O (d_m S.ros1 σ2 (S.blks1 a)) (a_O (fzs σ2) H)).get k from rfl,a_K] at hk1
   split at hk1
   ·cases hk1
   ·rw[a_K] at hk1
    split at hk1
    ·cases hk1
    ·obtain⟨r0,o0,hr0,_⟩:=hi.blk k b hk1
     have:=hk4 hr0
     rw[hr] at this;cases this
     obtain⟨_,hnz,hnw⟩:=hold hk hr0
     cases hm:ι4.m r with
     |none=>rfl
     |some o=>
      obtain⟨_,h2⟩:=hinv.fz.frz r o hm
      rcases h2 with⟨o',ho'⟩|h2|h2
      ·simp only[b_r] at ho'
       split at ho'
       ·rename_i hcase
        rcases hcase with h1|⟨j,hj,hjr⟩
        ·rw[hi.fz.nofz k b r hk1 hr0] at h1;cases h1
        ·obtain⟨b',hg2,_⟩:=hz j hj
         have:=hi.inj j k b' b r hg2 hk1 hjr hr0
         subst this
         exact(hnz hj).elim
       ·cases ho'
      ·exact(hnw h2).elim
      ·exact absurd (hlt hk1 hr0) (Nat.not_lt.2 h2)
 ·intro sx b r hx hr
  obtain⟨o,h1,h2⟩:=hinv.fz.st sx b r (by show S.st sx=some b;rw[←hst];exact hx) hr
  exact⟨o,h1,h2.mono ⟨fun i r h=>bc,fun _ _ h=>h,fun _ _ h=>h⟩⟩
theorem i_o{S:GenS}{args:List AVal}{K:AVal->AHeap->Prop}{vs:List Value}(hs:S.spec args H K)(hi:Inv w0 F0 ι H w)(hd:DenL ι args vs):
 ∃a F1 ι1,S.dom a/\Inv w F1 ι1 (hpD ⟨S.next1,S.ros1,S.st⟩ (S.blks1 a) []) w/\DenL ι1 (S.args1 a) vs/\
  ∀e w',d_M w F1 (ι1.bare S.p1) (fun v H=>∃x,S.G a x/\r_V S.p1 v H ⟨S.n2,[],S.st⟩ (S.val x) (S.out x)) e w'->d_M w0 F0 ι K e w':=by
 unfold GenS.spec at hs
 split at hs
 rotate_left
 ·exact hs.elim
 rename_i a _
 obtain⟨hst,hdom,hs⟩:=hs
 obtain⟨σ1,e1,hs,d1⟩:=c_W (e_o hi 24) hs hd
 obtain⟨σ2,e2,hs,d2⟩:=e_O hi hs
 obtain⟨hc,hK⟩:=a_h hs
 clear hs
 exact f_8 hi hst hdom (d1.mono (a_S e2)) d2 ((Sg.ext_trans e1 e2).n (fun j hj=>by cases hj)) hc hK
def GenS.specV(S:GenS):Spec:=fun args H K=>match S.dec args H with
 |some a=>H.st=S.st/\S.dom a/\SubL 0 args (S.args1 a)/\gd (h_7 (S.blks1 a)&&S.okC a [])
  (∀x,S.G a x->K (i_8 (rho [] S.p1 H.next) 24 (S.val x)) ⟨t_R (rho [] S.p1 H.next) (S.out x) H.blks,H.next+(S.n2-S.p1),H.defs,H.ros,H.st⟩)
 |none=>False
theorem k_B{S:GenS}{args:List AVal}{K:AVal->AHeap->Prop}{vs:List Value}(hs:S.specV args H K)(hi:Inv w0 F0 ι H w)(hd:DenL ι args vs):
 ∃a F1 ι1,S.dom a/\Inv w F1 ι1 (hpD ⟨S.next1,S.ros1,S.st⟩ (S.blks1 a) []) w/\DenL ι1 (S.args1 a) vs/\
  ∀e w',d_M w F1 (ι1.bare S.p1) (fun v H=>∃x,S.G a x/\r_V S.p1 v H ⟨S.n2,[],S.st⟩ (S.val x) (S.out x)) e w'->d_M w0 F0 ι K e w':=by
 unfold GenS.specV at hs
 split at hs
 rotate_left
 ·exact hs.elim
 rename_i a _
 obtain⟨hst,hdom,hsub,hs⟩:=hs
 obtain⟨hc,hK⟩:=a_h hs
 clear hs
 rw[Bool.and_eq_true] at hc
 have hnil:=f_j hc.1
 refine f_8 (σ2:=[]) hi hst hdom (hsub _ _ _ (b_c hi) hd) (by rw[hnil];exact fun x hx=>bv) (fun j hj=>by cases hj) hc.2 ?_
 rw[hnil]
 exact hK
theorem a_d{S:GenS}{f:FuncId}(hf:a_t P f)(h:S.Body P f):b_q P f S.spec:=by
 intro args H K hs
 refine b_p hf ?_
 intro w0 F0 ι w vs hi hd
 obtain⟨a,F1,ι1,hdom,h1,h2,h3⟩:=i_o hs hi hd
 exact Calls.mono (h a hdom w F1 ι1 w vs h1 h2) h3
theorem b_z{S:GenS}{f:FuncId}(hf:a_t P f)(h:S.Body P f):b_q P f S.specV:=by
 intro args H K hs
 refine b_p hf ?_
 intro w0 F0 ι w vs hi hd
 obtain⟨a,F1,ι1,hdom,h1,h2,h3⟩:=k_B hs hi hd
 exact Calls.mono (h a hdom w F1 ι1 w vs h1 h2) h3
def GenS.BodyD(S:GenS)(P:Program)(f:FuncId):Prop:=
 ∀a,S.dom a->∀(w0:World) (F0:Fp) (ι:Inj) (w:World) (vs:List Value),Inv w0 F0 ι (hpD ⟨S.next1,S.ros1,S.st⟩ (S.blks1 a) []) w->DenL ι (S.args1 a) vs->
  CallsD P f vs.toArray .returning w (fun e u' w'=>u'=.returning/\d_M w0 F0 (ι.bare S.p1) (fun v H=>∃x,S.G a x/\r_V S.p1 v H ⟨S.n2,[],S.st⟩ (S.val x) (S.out x)) e w')
theorem c_n{S:GenS}{f:FuncId}(hf:a_t P f)(h:S.BodyD P f):e_m P f S.spec:=by
 refine⟨hf,fun args H K hs=>?_⟩
 intro w0 F0 ι w vs hi hd
 obtain⟨a,F1,ι1,hdom,h1,h2,h3⟩:=i_o hs hi hd
 exact CallsD.mono (h a hdom w F1 ι1 w vs h1 h2) fun e u' w' ⟨hu,he⟩=>⟨hu,h3 e w' he⟩
structure Ho (p:Prop):Prop where
 out:p
theorem Ho.of{p:Prop}(q:Prop)(e:p=q)(h:q):Ho p:=⟨e▸h⟩
theorem LoopD.bodyH{D:LoopD}{ft:FuncId->Option Func}{T:Tabs}{LT:List (List Nat×d_l)}{root:Code}(p:List Nat)(hft:o_5 P ft)(htab:TabOk P T)(hLT:LTok D.p P root LT)(n:Nat)
 (h:∀j,D.side j->Ho (exW P ft T LT n root p (sub root p) (D.fr j) (D.hp j) (D.K j))):D.Body P (sub root p):=fun j hj=>f_h hft htab hLT n (h j hj).out rfl
theorem a_c{S:GenS}{f:FuncId}{fn:Func}{b:Code}{ft:FuncId->Option Func}{T:Tabs}{LT:S.A->List (List Nat×d_l)}(hft:o_5 P ft)(htab:TabOk P T)(n:Nat)(hLT:∀a,S.dom a->LTok S.p1 P b (LT a))
 (hf:P.funcs[f]?=some fn) (hb:fn.body=some b)
 (h:∀a,S.dom a->Ho (exW P ft T (LT a) n b [] b (p_Z fn.ntmps (S.args1 a)) (hpD ⟨S.next1,S.ros1,S.st⟩ (S.blks1 a) []) (t_G P (lvl P ft T n).dx fn (fun v H=>∃x,S.G a x/\r_V S.p1 v H ⟨S.n2,[],S.st⟩ (S.val x) (S.out x))))):S.Body P f/\S.BodyD P f:=by
 refine⟨fun a ha w0 F0 ι w vs hi hd=>?_,fun a ha w0 F0 ι w vs hi hd=>?_⟩
 ·exact calls_of_wp_defers hf hb (Code.wp_mono (fun e a w hp=>j_H (m_g hft htab n).2 hp) (f_h hft htab (hLT a ha) n (h a ha).out rfl w0 F0 ι w _ hi (d_Q hd) .nil))
 ·exact c_a hf hb (Code.wp_mono (fun e a w hp=>j_H (m_g hft htab n).2 hp) (f_h hft htab (hLT a ha) n (h a ha).out rfl w0 F0 ι w _ hi (d_Q hd) .nil))
end
end Go.Sx
namespace Go.Sx
open Go
variable [Syms]
section
variable {P:Program} {w0 w:World} {F0:Fp} {ι:Inj} {H:AHeap}
theorem Inv.reB(h:Inv w0 F0 ι H w){H':AHeap}(hn:H'.next=H.next)(hro:H'.ros=H.ros)(hst:H'.st=H.st)(hb:∀id b,H'.get id=some b->∃c,H.get id=some c/\∀o,BDen ι c o->BDen ι b o):Inv w0 F0 ι H' w:=by
 refine⟨fun id b hg=>?_,fun i j b c r h1 h2 h3 h4=>?_,fun id hid=>h.fresh id (by rw[←hn];exact hid),h.frame,h.size,h.tape,h.os,h.output,h.glob,⟨h.fz.frz,fun k b r hk hr=>?_,fun x b r hx hr=>h.fz.st x b r (by rw[←hst];exact hx) hr,h.fz.stinj,fun x r hr=>by rw[hst];exact h.fz.stad x r hr⟩⟩
 ·obtain⟨c,hc,hcb⟩:=hb id b hg
  obtain⟨r,o,hr,ho,hbd,hF⟩:=h.blk id c hc
  refine⟨r,o,hr,ho,hcb o hbd,?_⟩
  have:H'.isRo id=H.isRo id:=by unfold AHeap.isRo;rw[hro]
  rw[this];exact hF
 ·obtain⟨b',hb',_⟩:=hb i b h1
  obtain⟨c',hc',_⟩:=hb j c h2
  exact h.inj i j b' c' r hb' hc' h3 h4
 ·obtain⟨c,hc,_⟩:=hb k b hk
  exact h.fz.nofz k c r hc hr
open Classical in
theorem Inv.bindSt(h:Inv w0 F0 ι H w){ad':SId->Option Nat}{st':SId->Option ABlk}{H':AHeap}(hn:H'.next=H.next)(hro:H'.ros=H.ros)(hst:H'.st=st')(hsub:∀id b,H'.get id=some b->H.get id=some b)
 (hle:∀x r,ι.ad x=some r->ad' x=some r) (hold:∀x r,ι.ad x=some r->st' x=H.st x) (hinj:∀x y r,ad' x=some r->ad' y=some r->x=y) (had:∀x r,ad' x=some r->∃b,st' x=some b)
 (hnew:∀x r,ι.ad x=none->ad' x=some r->r<w.heap.size/\((F0.w r\/w0.heap.size<=r)\/(ι.m r).isSome=true)/\(∀id b,H'.get id=some b->ι id≠some r))
 (hbd:∀ι':Inj,ι'.ad=ad'->ι'.f=ι.f->(∀r o,ι.m r=some o->ι'.m r=some o)->∀x b r o,ι.ad x=none->ad' x=some r->st' x=some b->w.heap[r]?=some o->BDen (ι'.bare 0) b o):
 ∃ι':Inj,ι.le ι'/\ι'.ad=ad'/\ι'.f=ι.f/\Inv w0 F0 ι' H' w:=by
 let ι':Inj:=⟨ι.f,fun r=>if(ι.m r).isSome=true\/∃x,ι.ad x=none/\ad' x=some r then w.heap[r]? else none,ad'⟩
 have hm:∀r o,ι.m r=some o->ι'.m r=some o:=fun r o hr=>by
  show(if _ then _ else _)=_
  rw[if_pos (.inl (by rw[hr];rfl))]
  exact(h.fz.frz r o hr).1
 have hle':ι.le ι':=⟨fun _ _ h=>h,hm,hle⟩
 refine⟨ι',hle',rfl,rfl,⟨fun id b hg=>?_,fun i j b c r h1 h2 h3 h4=>h.inj i j b c r (hsub _ _ h1) (hsub _ _ h2) h3 h4,fun id hid=>h.fresh id (by rw[←hn];exact hid),h.frame,h.size,h.tape,h.os,h.output,h.glob,⟨fun r o hr=>?_,fun k b r hk hr=>?_,fun x b r hx hr=>?_,hinj,fun x r hr=>by rw[hst];exact had x r hr⟩⟩⟩
 ·obtain⟨r,o,hr,ho,hbd,hF⟩:=h.blk id b (hsub _ _ hg)
  refine⟨r,o,hr,ho,hbd.mono hle',?_⟩
  have:H'.isRo id=H.isRo id:=by unfold AHeap.isRo;rw[hro]
  rw[this];exact hF
 ·have hr:(if(ι.m r).isSome=true\/∃x,ι.ad x=none/\ad' x=some r then w.heap[r]? else none)=some o:=hr
  split at hr
  ·rename_i hc
   refine⟨hr,?_⟩
   have hc:(ι.m r).isSome=true\/(F0.w r\/w0.heap.size<=r):=by
    rcases hc with hc|⟨x,hx,hxr⟩
    ·exact .inl hc
    ·rcases(hnew x r hx hxr).2.1 with h1|h1
     ·exact .inr h1
     ·exact .inl h1
   rcases hc with hc|hc
   ·cases hmr:ι.m r with
    |none=>rw[hmr] at hc;cases hc
    |some o'=>exact(h.fz.frz r o' hmr).2
   ·exact .inr hc
  ·cases hr
 ·show(if _ then _ else _)=_
  rw[if_neg]
  rintro(hc|⟨x,hx,hxr⟩)
  ·rw[h.fz.nofz k b r (hsub _ _ hk) hr] at hc;cases hc
  ·exact(hnew x r hx hxr).2.2 k b hk hr
 ·rw[hst] at hx
  cases hox:ι.ad x with
  |some r'=>
   have:=hle x r' hox
   have hr:ad' x=some r:=hr
   rw[hr] at this;cases this
   rw[hold x r hox] at hx
   obtain⟨o,h1,h2⟩:=h.fz.st x b r hx hox
   exact⟨o,hm _ _ h1,h2.mono (Inj.bare_mono hle' 0)⟩
  |none=>
   have hr:ad' x=some r:=hr
   obtain⟨h1,_⟩:=hnew x r hox hr
   refine⟨w.heap[r],?_,hbd ι' rfl rfl hm x b r _ hox hr hx (Array.getElem?_eq_getElem h1)⟩
   show(if _ then _ else _)=_
   rw[if_pos (.inr ⟨x,hox,hr⟩)]
   exact Array.getElem?_eq_getElem h1
structure RecOk0 (P:Program) (f:FuncId) (fn:Func) (id:Nat) (o0 o1:Oper) (c:Call) (T T2:TypeId) (X:Code):Prop where
 hf:P.funcs[f]?=some fn
 hb:fn.body=some (.seq (.region id #[o0,o1] false) (.cond (.tmp 1) X .skip))
 hn:(fn.name== "runtime.NumGoroutine")=false
 hr:fn.results=#[]
 d0:o0.dst=some 0
 g0:o0.guard=none
 p0:o0.op=.call c
 pc:c.callee=.builtin .recover
 d1:o1.dst=some 1
 g1:o1.guard=none
 p1:o1.op=.binOp .neq T (.tmp 0) (.const .nilIface) T2
 eq:∃ms,P.underlying T=some (.interface ms)
 n3:fn.ntmps=3
def m_t:Spec:=fun args H K=>match args with
 |[]=>K (.tup []) H
 |_=>False
theorem r_W{f:FuncId}{fn:Func}{id:Nat}{o0 o1:Oper}{c:Call}{T T2:TypeId}{X:Code}(R:RecOk0 P f fn id o0 o1 c T T2 X):e_m P f m_t:=by
 refine⟨⟨fn,R.hf,by rw[R.hb];rfl,R.hn⟩,?_⟩
 intro args H K hs w0 F0 ι w vs hi hd
 unfold m_t at hs
 split at hs
 ·cases hd
  refine callsD_of_wpS R.hf R.hb fun c₀ cs hu=>?_
  have htm:(([]:List Value).toArray++Array.replicate (fn.ntmps-([]:List Value).toArray.size) undef)=#[undef,undef,undef]:=by
   rw[R.n3];rfl
  rw[htm]
  refine wpS_seq (wpS_region ?_)
  have hrange:List.range (#[o0,o1]:Array Oper).size=[0,1]:=rfl
  rw[hrange]
  have e0:(#[o0,o1]:Array Oper)[0]?=some o0:=rfl
  have e1:(#[o0,o1]:Array Oper)[1]?=some o1:=rfl
  have w0':∀y,Region.wanted o0 y=true:=fun y=>by simp[Region.wanted,R.g0]
  have w1':∀y,Region.wanted o1 y=true:=fun y=>by simp[Region.wanted,R.g1]
  have hrec:recoverD (c₀::cs)=none:=by simp[recoverD,hu]
  have hx0:∀ρ,(execOp ρ o0).run P w=.ok .recover w:=fun ρ=>by
   simp only[execOp,R.p0,resolve,R.pc,Sem.run_bind,Sem.run_pure,Result.andThen_ok,invoke,builtin]
  have hx1:∀ρ:Operand->Value,ρ (.tmp 0)=.nilIface->ρ (.const .nilIface)=.nilIface->(execOp ρ o1).run P w=.ok (.value (.bool false)) w:=fun ρ h1 h2=>by
   obtain⟨ms,hu⟩:=R.eq
   have hg:=a_L (P:=P) (w:=w) (op:=.neq) (t:=T) (x:=.tmp 0) (y:=.const .nilIface) (a:=.nilIface) (b:=.nilIface) (fun _ _=>rfl) (fun _ _ h=>am)
   have hb:(binOp .neq T .nilIface .nilIface).run P w=.ok (.bool false) w:=by
    have e:binOp .neq T .nilIface .nilIface=(do pure (.bool (!(←Op.equal T .nilIface .nilIface)))):=rfl
    rw[e]
    have he:(Op.equal T .nilIface .nilIface).run P w=.ok true w:=by
     have hd:Op.maxDepth=(Op.maxDepth-1)+1:=ar
     rw[Op.equal,hd]
     simp[Op.equalIn,a_a hu]
    simp only[Sem.run_bind,he,Result.andThen_ok,Sem.run_pure]
    rfl
   simp only[execOp,R.p1,h1,h2,Sem.run_bind,hg,Result.andThen_ok,hb,Sem.run_pure]
  simp only[wpOpsS,e0,e1,w0',w1',if_true,hx0,hrec,R.d0]
  have hput:(({tmps:=#[undef,undef,undef],defers:=[]}:Act).put (some 0) .nilIface)={tmps:=#[.nilIface,undef,undef],defers:=[]}:=rfl
  rw[hput]
  have:=hx1 ({tmps:=#[.nilIface,undef,undef],defers:=[]}:Act).eval rfl rfl
  rw[this]
  simp only[Oper.upon,R.d1]
  have hput2:(({tmps:=#[.nilIface,undef,undef],defers:=[]}:Act).put (some 1) (.bool false))={tmps:=#[.nilIface,.bool false,undef],defers:=[]}:=rfl
  rw[hput2]
  refine wpS_cond (t:=false) rfl ?_
  refine wpS_of_wp (wp_skip ?_)
  refine⟨rfl,.returning,by cases c₀;cases hu;rfl,.tuple #[],?_,rfl,?_⟩
  ·simp[results,R.hr,Array.mapM_eq_mapM_toList]
  ·exact⟨_,H,ι,hs,.tup .nil,Inj.le_refl _,hi⟩
 ·exact hs.elim
def LoopD.outs(D:LoopD)(e:AExit)(fr:Fr)(H:AHeap):List Way->Prop
 |[]=>False
 |W::r=>cond (f_7 e W.e) ((∃x:W.X,W.c x/\m_o D.p fr H D.fn ⟨W.n,D.ros,D.st⟩ (W.s x) (W.b x) (W.d x))\/D.outs e fr H r) (D.outs e fr H r)
theorem LoopD.outs_ok{D:LoopD}{e:AExit}{fr:Fr}{H:AHeap}:∀{l:List Way},D.outs e fr H l->∃W∈l,W.e=e/\∃x:W.X,W.c x/\m_o D.p fr H D.fn ⟨W.n,D.ros,D.st⟩ (W.s x) (W.b x) (W.d x)
 |W::r,h=>by
  simp only[LoopD.outs] at h
  cases hb:f_7 e W.e with
  |true=>
   rw[hb,cond_true] at h
   rcases h with⟨x,h⟩|h
   ·exact⟨W,List.mem_cons_self ..,(i_i hb).symm,x,h⟩
   ·obtain⟨V,hV,h⟩:=LoopD.outs_ok h
    exact⟨V,List.mem_cons_of_mem _ hV,h⟩
  |false=>
   rw[hb,cond_false] at h
   obtain⟨V,hV,h⟩:=LoopD.outs_ok h
   exact⟨V,List.mem_cons_of_mem _ hV,h⟩
def LoopD.K2(D E:LoopD)(m:Nat):AExit->Fr->AHeap->Prop:=fun e fr H=>match e with
 | .normal=>(∃j',D.side j'/\D.μ j'<m/\m_o D.p fr H D.fn ⟨D.n,D.ros,D.st⟩ (D.s j') (D.b j') (D.d j'))\/(∃j',E.side j'/\E.μ j'<m/\m_o D.p fr H D.fn ⟨E.n,D.ros,D.st⟩ (E.s j') (E.b j') (E.d j'))
 |e=>D.outs e fr H D.ways
def LoopD.fr2(D E:LoopD)(j:E.J):Fr:=t_N D.fn (E.s j)
def LoopD.hp2(D E:LoopD)(j:E.J):AHeap:=hpD ⟨E.n,D.ros,D.st⟩ (E.b j) (E.d j)
structure LoopD.Body2 (D E:LoopD) (P:Program) (x:Code):Prop where
 a:∀j,D.side j->WPw D.p P x (D.fr j) (D.hp j) (D.K2 E (D.μ j))
 b:∀j,E.side j->WPw D.p P x (D.fr2 E j) (D.hp2 E j) (D.K2 E (E.μ j))
theorem LoopD.ok2{D E:LoopD}{P:Program}{x:Code}(h:D.Body2 E P x){j:D.J}{fr:Fr}{H:AHeap}{K:AExit->Fr->AHeap->Prop}(hk:D.at j fr H K):WPw D.p P (.loop x) fr H K:=by
 obtain⟨h1,h2,h3⟩:=hk
 refine WPw.ent (c_u h2) ?_
 have key:=r_R (P:=P) (pn:=D.p) (J:=D.J ⊕ E.J) (Sum.elim D.side E.side) (Sum.elim D.μ E.μ) (Sum.elim D.fr (D.fr2 E)) (Sum.elim D.hp (D.hp2 E)) (x:=x) (K:=fun e fr H=>D.outs e fr H D.ways) (fun j hj=>by
  have fin:∀{m:Nat} {frj:Fr} {Hj:AHeap},WPw D.p P x frj Hj (D.K2 E m)->WPw D.p P x frj Hj (fun e fr' H'=>match e with
   | .normal=>∃j':D.J ⊕ E.J,Sum.elim D.side E.side j'/\Sum.elim D.μ E.μ j'<m/\Ent D.p fr' H' (Sum.elim D.fr (D.fr2 E) j') (Sum.elim D.hp (D.hp2 E) j')
   |e=>D.outs e fr' H' D.ways):=fun hw=>hw.mono fun e fr H hK=>by
   cases e with
   |normal=>
    rcases hK with⟨j',a,b,c⟩|⟨j',a,b,c⟩
    ·exact⟨.inl j',a,b,c_u c⟩
    ·exact⟨.inr j',a,b,c_u c⟩
   |exit i=>exact hK
   |ret=>exact hK
  cases j with
  |inl j=>exact fin (h.a j hj)
  |inr j=>exact fin (h.b j hj)) (.inl j) h1
 refine key.post fun e fr H hK=>?_
 obtain⟨W,hm,he,x,hx,hent⟩:=LoopD.outs_ok hK
 subst he
 exact⟨_,_,c_u hent,e_Q h3 W hm x hx⟩
theorem LoopD.bodyH2{P:Program}{D E:LoopD}{ft:FuncId->Option Func}{T:Tabs}{LT:List (List Nat×d_l)}{root:Code}(p:List Nat)(hft:o_5 P ft)(htab:TabOk P T)(hLT:LTok D.p P root LT)(n:Nat)
 (h:∀j,D.side j->Ho (exW P ft T LT n root p (sub root p) (D.fr j) (D.hp j) (D.K2 E (D.μ j)))) (h2:∀j,E.side j->Ho (exW P ft T LT n root p (sub root p) (D.fr2 E j) (D.hp2 E j) (D.K2 E (E.μ j)))):D.Body2 E P (sub root p):=
 ⟨fun j hj=>f_h hft htab hLT n (h j hj).out rfl,fun j hj=>f_h hft htab hLT n (h2 j hj).out rfl⟩
def noS:Spec:=fun _ _ _=>False
theorem f_9{P:Program}{f:FuncId}:b_q P f noS:=fun _ _ _ h=>h.elim
end
end Go.Sx

