/- Lemmas of this claim; the last text says what is proved. -/
import Derived.Test.YtblencgndjjleaaGreatDoorK09
set_option linter.all false
namespace Go.Sx
open Go
variable [Syms]
inductive Nm where
 |id (j:Nat)
 |num (n:Nat)
 |fz (j:Nat)
abbrev Sg:=List (Nat×Nm)
def a_5:Sg->Nat->Option Nm
 |[],_=>none
 |(k,x)::r,i=>match x with
  | .fz _=>a_5 r i
  |x=>cond (Nat.beq k i) (some x) (a_5 r i)
def fzs:Sg->List Nat
 |[]=>[]
 |(_,x)::r=>match x with
  | .fz j=>j::fzs r
  |_=>fzs r
def i_e(σ:Sg)(i j:Nat)(K:Sg->Prop):Prop:=match a_5 σ i with
 |some (.id j')=>gd (Nat.beq j j') (K σ)
 |some _=>False
 |none=>K ((i,.id j)::σ)
def r_S(σ:Sg)(i n:Nat)(K:Sg->Prop):Prop:=match a_5 σ i with
 |some (.num n')=>n=n'/\K σ
 |some _=>False
 |none=>K ((i,.num n)::σ)
open Classical in
noncomputable def b_r(w:World)(ι:Inj)(σ:Sg):Inj:=⟨fun i=>match a_5 σ i with
 |some (.id j)=>ι j
 |some (.num n)=>some n
 |_=>none,fun r=>if(ι.m r).isSome=true\/∃j∈fzs σ,ι j=some r then w.heap[r]? else none,ι.ad⟩
def t_q(H:AHeap)(σ:Sg):Prop:=∀j∈fzs σ,∃b,H.get j=some b/\H.isRo j=false
structure Ex (H:AHeap) (σ σ':Sg):Prop where
 l:∀i x,a_5 σ i=some x->a_5 σ' i=some x
 z:∀j∈fzs σ,j∈fzs σ'
 n:t_q H σ->t_q H σ'
theorem Sg.ext_refl{H:AHeap}(σ:Sg):Ex H σ σ:=⟨fun _ _ h=>h,fun _ h=>h,fun h=>h⟩
theorem Sg.ext_trans{H:AHeap}{a b c:Sg}(h:Ex H a b)(h':Ex H b c):Ex H a c:=⟨fun i x hx=>h'.l i x (h.l i x hx),fun j hj=>h'.z j (h.z j hj),fun hn=>h'.n (h.n hn)⟩
theorem a_S{H:AHeap}{w:World}{ι:Inj}{σ σ':Sg}(h:Ex H σ σ'):(b_r w ι σ).le (b_r w ι σ'):=by
 refine⟨fun i r hr=>?_,fun r o hr=>?_,fun _ _ h=>h⟩
 ·show(match a_5 σ' i with|some (.id j)=>ι j|some (.num n)=>some n|_=>none)=_
  have hr:(match a_5 σ i with|some (.id j)=>ι j|some (.num n)=>some n|_=>none)=some r:=hr
  cases hl:a_5 σ i with
  |none=>rw[hl] at hr;cases hr
  |some x=>rw[hl] at hr;rw[h.l i x hl];exact hr
 ·simp only[b_r] at hr⊢
  split at hr
  ·rename_i hc
   rw[if_pos]
   ·exact hr
   ·rcases hc with hc|⟨j,hj,hc⟩
    ·exact .inl hc
    ·exact .inr ⟨j,h.z j hj,hc⟩
  ·cases hr
theorem f_i{σ:Sg}{k i:Nat}{x:Nm}(h:k≠i):a_5 ((k,x)::σ) i=a_5 σ i:=by
 simp only[a_5]
 cases x<;>simp[b_b h]
theorem m_h{σ:Sg}{k i j:Nat}:a_5 ((k,.fz j)::σ) i=a_5 σ i:=by simp[a_5]
theorem j_I{σ:Sg}{i j:Nat}:fzs ((i,.id j)::σ)=fzs σ:=bq
theorem m_i{σ:Sg}{i j:Nat}:fzs ((i,.num j)::σ)=fzs σ:=bq
theorem t_J{H:AHeap}{σ:Sg}{i j:Nat}(h:a_5 σ i=none):Ex H σ ((i,.id j)::σ):=by
 refine⟨fun k y hk=>?_,fun k hk=>by rw[j_I];exact hk,fun hn k hk=>hn k (by rw[j_I] at hk;exact hk)⟩
 by_cases e:i=k
 ·subst e;rw[h] at hk;cases hk
 ·rw[f_i e];exact hk
theorem r_T{H:AHeap}{σ:Sg}{i j:Nat}(h:a_5 σ i=none):Ex H σ ((i,.num j)::σ):=by
 refine⟨fun k y hk=>?_,fun k hk=>by rw[m_i];exact hk,fun hn k hk=>hn k (by rw[m_i] at hk;exact hk)⟩
 by_cases e:i=k
 ·subst e;rw[h] at hk;cases hk
 ·rw[f_i e];exact hk
theorem c_G{H:AHeap}{σ:Sg}{i j:Nat}{b:ABlk}(hg:H.get j=some b)(hro:(!H.isRo j)=true):Ex H σ ((i,.fz j)::σ):=⟨fun k y hk=>by rw[m_h];exact hk,fun k hk=>by simp only[fzs];exact List.mem_cons_of_mem _ hk,fun hn k hk=>by
 simp only[fzs] at hk
 rcases List.mem_cons.1 hk with rfl|hk
 ·exact⟨b,hg,by simpa using hro⟩
 ·exact hn k hk⟩
theorem m_j{σ:Sg}{i j:Nat}:a_5 ((i,.id j)::σ) i=some (.id j):=by simp[a_5,beq_self]
theorem p_d{σ:Sg}{i j:Nat}:a_5 ((i,.num j)::σ) i=some (.num j):=by simp[a_5,beq_self]
theorem d_g{H:AHeap}{σ:Sg}{i j:Nat}{K:Sg->Prop}(h:i_e σ i j K):∃σ',Ex H σ σ'/\K σ'/\a_5 σ' i=some (.id j):=by
 unfold i_e at h
 split at h
 ·rename_i j' hl
  obtain⟨hb,hK⟩:=a_h h
  rw[Nat.eq_of_beq_eq_true hb]
  exact⟨σ,Sg.ext_refl _,hK,hl⟩
 ·exact h.elim
 ·rename_i hl
  exact⟨_,t_J hl,h,m_j⟩
theorem p_e{H:AHeap}{σ:Sg}{i n:Nat}{K:Sg->Prop}(h:r_S σ i n K):∃σ',Ex H σ σ'/\K σ'/\a_5 σ' i=some (.num n):=by
 unfold r_S at h
 split at h
 ·rename_i n' hl
  obtain⟨rfl,hK⟩:=h
  exact⟨σ,Sg.ext_refl _,hK,hl⟩
 ·exact h.elim
 ·rename_i hl
  exact⟨_,r_T hl,h,p_d⟩
theorem a_w{w:World}{ι:Inj}{σ:Sg}{i j:Nat}(h:a_5 σ i=some (.id j)):(b_r w ι σ) i=ι j:=by
 show(match a_5 σ i with|some (.id j)=>ι j|some (.num n)=>some n|_=>none)=_
 rw[h]
theorem j_J{w:World}{ι:Inj}{σ:Sg}{i n:Nat}(h:a_5 σ i=some (.num n)):(b_r w ι σ) i=some n:=by
 show(match a_5 σ i with|some (.id j)=>ι j|some (.num n)=>some n|_=>none)=_
 rw[h]
def mC:ACap->ACap->Sg->(Sg->Prop)->Prop
 |_,.x,σ,K=>K σ
 | .n k,.n k',σ,K=>k=k'/\K σ
 | .n k,.u i 0,σ,K=>gd (Nat.blt k 9223372036854775808) (r_S σ i k K)
 | .u j s,.u i s',σ,K=>gd (Nat.beq s s') (i_e σ i j K)
 |_,_,_,_=>False
def mT:ATot->ATot->Sg->(Sg->Prop)->Prop
 | .n k,.n k',σ,K=>gd (Nat.ble k' k) (K σ)
 | .n k,.u i m,σ,K=>match a_5 σ i with
   |some (.num d)=>d*m<=k/\K σ
   |_=>False
 | .u j m,.u i m',σ,K=>gd (Nat.beq m m') (i_e σ i j K)
 | .u _ _,.n k,σ,K=>gd (Nat.beq k 0) (K σ)
theorem t_K{H:AHeap}{w:World}{ι:Inj}{a t:ACap}{σ:Sg}{K:Sg->Prop}{c:Nat}(h:mC a t σ K)(ha:a.den ι c):∃σ',Ex H σ σ'/\K σ'/\t.den (b_r w ι σ') c:=by
 unfold mC at h
 split at h
 ·exact⟨σ,Sg.ext_refl _,h,trivial⟩
 ·obtain⟨rfl,hK⟩:=h
  exact⟨σ,Sg.ext_refl _,hK,ha⟩
 ·obtain⟨hk,h⟩:=a_h h
  obtain⟨σ',h1,h2,h3⟩:=p_e h
  cases ha
  exact⟨σ',h1,h2,_,j_J h3,a_Y hk,rfl⟩
 ·obtain⟨hb,h⟩:=a_h h
  obtain⟨σ',h1,h2,h3⟩:=d_g h
  obtain⟨d,hd,h63,e⟩:=ha
  exact⟨σ',h1,h2,d,by rw[a_w h3];exact hd,h63,bM⟩
 ·exact h.elim
theorem h_a{H:AHeap}{w:World}{ι:Inj}{a t:ATot}{σ:Sg}{K:Sg->Prop}{c:Nat}(h:mT a t σ K)(ha:a.ok ι c):∃σ',Ex H σ σ'/\K σ'/\t.ok (b_r w ι σ') c:=by
 unfold mT at h
 split at h
 ·obtain⟨h1,h2⟩:=a_h h
  exact⟨σ,Sg.ext_refl _,h2,Nat.le_trans (a_B h1) ha⟩
 ·split at h
  ·rename_i d hd
   exact⟨σ,Sg.ext_refl _,h.2,d,j_J hd,Nat.le_trans h.1 ha⟩
  ·exact h.elim
 ·obtain⟨hb,h⟩:=a_h h
  obtain⟨σ',h1,h2,h3⟩:=d_g h
  obtain⟨d,hd,e⟩:=ha
  exact⟨σ',h1,h2,d,by rw[a_w h3];exact hd,bM⟩
 ·obtain⟨hb,hK⟩:=a_h h
  refine⟨σ,Sg.ext_refl _,hK,?_⟩
  rw[Nat.eq_of_beq_eq_true hb]
  exact Nat.zero_le _
def SubA(p:Nat)(a b:AVal):Prop:=∀(ι ι':Inj) (v:Value),(ι.bare p).le ι'->Den ι a v->Den ι' b v
def SubL(p:Nat)(a b:List AVal):Prop:=∀(ι ι':Inj) (v:List Value),(ι.bare p).le ι'->DenL ι a v->DenL ι' b v
def c_b:Nat->List (Nat×AVal)->Bool
 |_,[]=>true
 |k,(i,_)::r=> !(Nat.beq k i)&&c_b k r
def SubF(f f':Nat->AVal)(n:Nat)(us:List (Nat×AVal)):Prop:=∀k,k<n->c_b k us=true->SubA 0 (f k) (f' k)
def x_V(f f':Nat->List AVal)(n:Nat):Prop:=∀k,k<n->SubL 0 (f k) (f' k)
def fnB:Fn->Fn->Bool
 | .func f,.func g=>Nat.beq f g
 |_,_=>false
theorem t_L{f g:Fn}(h:fnB f g=true):f=g:=by
 cases f<;>cases g<;>simp only[fnB] at h<;>first|(rw[Nat.eq_of_beq_eq_true h])|cases h
def x_W(v v':Value)(p:Prop):Prop:=
 match v,v' with
 | .pointer none,.pointer none=>p
 | .nilIface,.nilIface=>p
 | .slice none 0 0,.slice none 0 0=>p
 |v,v'=>v=v'/\p
theorem p_f{v v':Value}{p:Prop}(h:x_W v v' p):v=v'/\p:=by
 unfold x_W at h
 split at h
 ·exact⟨rfl,h⟩
 ·exact⟨rfl,h⟩
 ·exact⟨rfl,h⟩
 ·exact h
def fzL:List Nat->Sg->Sg
 |[],σ=>σ
 |j::l,σ=>(0,.fz j)::fzL l σ
def e_F(H:AHeap)(ks:List Nat):Nat->List Nat
 |0=>[]
 |n+1=>match H.get n with
  |some _=>cond (d_F H.ros n) (e_F H ks n) (cond (d_F ks n) (e_F H ks n) (n::e_F H ks n))
  |none=>e_F H ks n
def x_t(σ:Sg):List Nat->List Nat
 |[]=>[]
 |k::r=>match a_5 σ k with
  |some (.id j)=>j::x_t σ r
  |_=>x_t σ r
theorem d_h{H:AHeap}{ks:List Nat}:∀{n j:Nat},j∈e_F H ks n->∃b,H.get j=some b/\(!H.isRo j)=true
 |0,j,h=>am
 |n+1,j,h=>by
  simp only[e_F] at h
  split at h
  ·rename_i b hb
   cases hr:d_F H.ros n with
   |true=>rw[hr,cond_true] at h;exact d_h h
   |false=>
    rw[hr,cond_false] at h
    cases hk:d_F ks n with
    |true=>rw[hk,cond_true] at h;exact d_h h
    |false=>
     rw[hk,cond_false] at h
     rcases List.mem_cons.1 h with rfl|h
     ·exact⟨b,hb,by simp[AHeap.isRo,hr]⟩
     ·exact d_h h
  ·exact d_h h
theorem m_k{H:AHeap}{σ:Sg}:∀{l:List Nat},(∀j∈l,∃b,H.get j=some b/\(!H.isRo j)=true)->Ex H σ (fzL l σ)
 |[],_=>Sg.ext_refl _
 |j::l,h=>by
  obtain⟨b,hb,hr⟩:=h j (List.mem_cons_self ..)
  exact Sg.ext_trans (m_k fun k hk=>h k (List.mem_cons_of_mem _ hk)) (c_G hb hr)
structure MPok (H:AHeap) (a:AVal) (q:MP) (σ:Sg):Prop where
 out:∀(w0:World) (F0:Fp) (w:World) (ι:Inj) (v:Value),Inv w0 F0 ι H w->Den ι a v->q.p (b_r w ι σ) v
abbrev MV:=AVal->AVal->Sg->(Sg->Prop)->Prop
def mLs(f:MV):List AVal->List AVal->Sg->(Sg->Prop)->Prop
 |[],[],σ,K=>K σ
 |a::as,t::ts,σ,K=>f a t σ (fun σ=>mLs f as ts σ K)
 |_,_,_,_=>False
def mUs(f:MV)(g:Nat->AVal)(n:Nat):List (Nat×AVal)->Sg->(Sg->Prop)->Prop
 |[],σ,K=>K σ
 |(i,v)::r,σ,K=>gd (Nat.blt i n&&c_b i r) (f v (g i) σ (fun σ=>mUs f g n r σ K))
def mW1(f:MV)(g:Nat->List AVal)(wd k n:Nat)(xs:List AVal)(σ:Sg)(K:Sg->Prop):Prop:=
 match xs with
 |[]=>n=k/\K σ
 |x::r=>n=k+1/\gd (Nat.beq (Nat.succ r.length) wd) (mLs f (x::r) (g k) σ K)
def mYs(f:MV)(g:Nat->AVal):List AVal->Nat->Sg->(Sg->Prop)->Prop
 |[],_,σ,K=>K σ
 |v::r,i,σ,K=>f v (g i) σ (fun σ=>mYs f g r (Nat.succ i) σ K)
def mV(H:AHeap):Nat->MV
 |0,_,_,_,_=>False
 |n+1,a,t,σ,K=>
  match t with
  | .top=>K σ
  | .lit v'=>match a with
    | .lit v=>x_W v v' (K σ)
    | .ite c x y=>br c (mV H n x (.lit v') σ K) (mV H n y (.lit v') σ K)
    |_=>False
  | .str l'=>match a with
    | .str l=>l=l'/\K σ
    | .ite c x y=>br c (mV H n x (.str l') σ K) (mV H n y (.str l') σ K)
    |_=>False
  | .rope r'=>match a with| .rope r=>gd (eqN r r') (K σ)|_=>False
  | .ptr i o'=>match a with
    | .ptr j o=>gd (Nat.beq o o') (i_e σ i j K)
    | .ite c x y=>br c (mV H n x (.ptr i o') σ K) (mV H n y (.ptr i o') σ K)
    |_=>False
  | .slc i o' l' c'=>match a with| .slc j o l c=>gd (Nat.beq o o'&&Nat.beq l l') (i_e σ i j (fun σ=>mC c c' σ K))|_=>False
  | .rsl i p' m' c'=>match a with| .rsl j p m c=>gd (eqN p p'&&eqN m m') (i_e σ i j (fun σ=>mC c c' σ K))|_=>False
  | .map i=>match a with| .map j=>i_e σ i j K|_=>False
  | .ifc t' v'=>match a with| .ifc t v=>gd (Nat.beq t t') (mV H n v v' σ K)|_=>False
  | .fn f' x' y'=>match a with| .fn f x y=>gd (fnB f f') (mLs (mV H n) x x' σ (fun σ=>mLs (mV H n) y y' σ K))|_=>False
  | .agg x'=>match a with| .agg x=>mLs (mV H n) x x' σ K|_=>False
  | .tup x'=>match a with| .tup x=>mLs (mV H n) x x' σ K|_=>False
  | .sp x' o'=>match a with
    | .sp x o=>gd (o_F x x'&&Nat.beq o o') (K σ)
    | .ite c x y=>br c (mV H n x (.sp x' o') σ K) (mV H n y (.sp x' o') σ K)
    |_=>False
  | .ssl x' o' l'=>match a with| .ssl x o l=>gd (o_F x x'&&(Nat.beq o o'&&Nat.beq l l')) (K σ)|_=>False
  | .smp x'=>match a with| .smp x=>gd (o_F x x') (K σ)|_=>False
  | .by_ l'=>match a with
    | .by_ l=>l=l'/\K σ
    | .slc j off m _=>match H.get j with
      |some (.bytes l _ _)=>gd (!H.isRo j) (off+m<=l.length/\(l.drop off).take m=l'/\K ((0,.fz j)::σ))
      |_=>False
    | .lit (.slice none 0 0)=>l'=[]/\K σ
    | .e0=>l'=[]/\K σ
    | .ite c x y=>br c (mV H n x (.by_ l') σ K) (mV H n y (.by_ l') σ K)
    |_=>False
  | .famx f' n'=>match a with
    | .famx f m=>m=n'/\SubF f f' m []/\K σ
    | .slc j o m (.n c)=>gd (Nat.beq c m) (mV H n (.slc j o m (.n c)) (.fam f' n') σ K)
    |_=>False
  | .fmw f' wd' n'=>match a with
    | .fmw f wd m=>gd (Nat.beq wd wd') (m=n'/\x_V f f' m/\K σ)
    | .slc j 0 m _=>match H.get j with
      |some (.famw f wd k ys _ _)=>gd (!H.isRo j&&Nat.beq wd wd') (m=n'/\x_V f f' k/\mW1 (mV H n) f' wd k n' ys σ (fun σ=>K ((0,.fz j)::σ)))
      |some (.row cs _ _)=>gd (!H.isRo j) (m=n'/\mW1 (mV H n) f' wd' 0 n' cs σ (fun σ=>K ((0,.fz j)::σ)))
      |_=>False
    | .lit (.slice none 0 0)=>n'=0/\K σ
    | .e0=>n'=0/\K σ
    | .ite c x y=>br c (mV H n x (.fmw f' wd' n') σ K) (mV H n y (.fmw f' wd' n') σ K)
    |_=>False
  | .fam f' n'=>match a with
    | .fam f m=>m=n'/\SubF f f' m []/\K σ
    | .famx f m=>m=n'/\SubF f f' m []/\K σ
    | .lit (.slice none 0 0)=>n'=0/\K σ
    | .e0=>n'=0/\K σ
    | .slc j 0 m _=>match H.get j with
      |some (.fam f k us ys _ _)=>gd (!H.isRo j) (m=n'/\m=k+ys.length/\SubF f f' k us/\mUs (mV H n) f' k us σ (fun σ=>mYs (mV H n) f' ys k σ (fun σ=>K ((0,.fz j)::σ))))
      |some (.row cs _ _)=>gd (!H.isRo j) (m=n'/\m=cs.length/\mYs (mV H n) f' cs 0 σ (fun σ=>K ((0,.fz j)::σ)))
      |_=>False
    |_=>False
  | .fpt cs' o'=>match a with
    | .fpt cs o=>o=o'/\mLs (mV H n) cs cs' σ K
    | .ptr j o=>match H.get j with
      |some (.row cs _ _)=>gd (!H.isRo j) (o=o'/\mLs (mV H n) cs cs' σ (fun σ=>K ((0,.fz j)::σ)))
      |_=>False
    |_=>False
  | .ite c x y=>br c (mV H n a x σ K) (mV H n a y σ K)
  | .mp q=>MPok H a q (fzL (e_F H (x_t σ q.kp) H.next) σ)/\K (fzL (e_F H (x_t σ q.kp) H.next) σ)
  | .e0=>match a with
    | .e0=>K σ
    | .slc _ _ m _=>m=0/\K σ
    | .lit (.slice none m _)=>m=0/\K σ
    | .by_ l=>l=[]/\K σ
    | .fam _ m=>m=0/\K σ
    |_=>False
  |_=>False
section
variable {w0 w:World} {F0:Fp} {ι:Inj} {H:AHeap}
theorem a_6(hi:Inv w0 F0 ι H w){σ:Sg}{r:Nat}{o:Obj}(h:ι.m r=some o):(b_r w ι σ).m r=some o:=by
 simp only[b_r]
 rw[if_pos (.inl bC)]
 exact(hi.fz.frz r o h).1
theorem b_c(hi:Inv w0 F0 ι H w){σ:Sg}:(ι.bare 0).le (b_r w ι σ):=⟨fun i r h=>bc,fun r o h=>a_6 hi h,fun _ _ h=>h⟩
theorem b_f{σ:Sg}{j r:Nat}{o:Obj}(hm:j∈fzs σ)(hr:ι j=some r)(ho:w.heap[r]?=some o):(b_r w ι σ).m r=some o:=by
 simp only[b_r]
 rw[if_pos (.inr ⟨j,hm,hr⟩)]
 exact ho
theorem e_n{σ:Sg}{i j:Nat}:j∈fzs ((i,.fz j)::σ):=bq
def MOk(H:AHeap)(w:World)(ι:Inj)(f:MV):Prop:=∀{a t σ K v},f a t σ K->Den ι a v->∃σ',Ex H σ σ'/\K σ'/\Den (b_r w ι σ') t v
theorem c_W{f:MV}(hf:MOk H w ι f):∀{as ts:List AVal} {σ:Sg} {K:Sg->Prop} {vs:List Value},mLs f as ts σ K->DenL ι as vs->∃σ',Ex H σ σ'/\K σ'/\DenL (b_r w ι σ') ts vs
 |[],[],σ,K,vs,h,hd=>by cases hd;exact⟨σ,Sg.ext_refl _,h,.nil⟩
 |a::as,t::ts,σ,K,vs,h,hd=>by
  cases hd with
  |cons h1 h2=>
  obtain⟨σ1,e1,h,d1⟩:=hf h h1
  obtain⟨σ2,e2,hK,d2⟩:=c_W hf h h2
  exact⟨σ2,Sg.ext_trans e1 e2,hK,.cons (d1.mono (a_S e2)) d2⟩
 |[],_::_,_,_,_,h,_=>h.elim
 |_::_,[],_,_,_,h,_=>h.elim
theorem j_K:∀{us:List (Nat×AVal)} {k:Nat},c_b k us=true->∀x∈us,k≠x.1
 |(i,v)::r,k,h,x,hx=>by
  simp only[c_b,Bool.and_eq_true,Bool.not_eq_true'] at h
  rcases List.mem_cons.1 hx with rfl|hx
  ·intro e
   rw[e,beq_self] at h
   cases h.1
  ·exact j_K h.2 x hx
theorem h_b{f:Nat->AVal}:∀{us:List (Nat×AVal)} {k:Nat} {v:Value},c_b k us=true->Den ι (c_q f us k) v->Den ι (f k) v
 |[],k,v,_,h=>h
 |(i,u)::r,k,v,hn,h=>by
  simp only[c_b,Bool.and_eq_true,Bool.not_eq_true'] at hn
  cases h with
  |ite ht hf=>exact h_b hn.2 (hf hn.1)
theorem m_l{f:MV}(hf:MOk H w ι f){g:Nat->AVal}{n:Nat}{vs:List Value}(hn:vs.length=n):∀{us:List (Nat×AVal)} {σ:Sg} {K:Sg->Prop} {f0:Nat->AVal},mUs f g n us σ K->(∀k,c_b k us=false->∀x,vs[k]?=some x->Den ι (c_q f0 us k) x)->
 ∃σ',Ex H σ σ'/\K σ'/\∀k,c_b k us=false->∀x,vs[k]?=some x->Den (b_r w ι σ') (g k) x
 |[],σ,K,f0,h,_=>⟨σ,Sg.ext_refl _,h,fun k hk=>by cases hk⟩
 |(i,v)::r,σ,K,f0,h,hv=>by
  obtain⟨hc,h⟩:=a_h h
  simp only[Bool.and_eq_true] at hc
  have hlt:=a_Y hc.1
  have hlt':i<vs.length:=ac
  have hi:=hv i (by simp[c_b,beq_self]) vs[i] (List.getElem?_eq_getElem hlt')
  have hi':Den ι v vs[i]:=by
   simp only[c_q] at hi
   cases hi with
   |ite ht _=>exact ht (beq_self i)
  obtain⟨σ1,e1,h,d1⟩:=hf h hi'
  obtain⟨σ2,e2,hK,d2⟩:=m_l hf hn (f0:=f0) h (fun k hk x hx=>by
   have hne:k≠i:=fun e=>by rw[e] at hk;rw[hk] at hc;cases hc.2
   have:=hv k (by simp[c_b,hk]) x hx
   simp only[c_q] at this
   cases this with
   |ite _ hf'=>exact hf' (b_b hne))
  refine⟨σ2,Sg.ext_trans e1 e2,hK,fun k hk x hx=>?_⟩
  by_cases e:k=i
  ·subst e
   rw[List.getElem?_eq_getElem hlt'] at hx
   cases hx
   exact d1.mono (a_S e2)
  ·refine d2 k ?_ x hx
   simpa[c_b,b_b e] using hk
theorem i_f{f:MV}(hf:MOk H w ι f){g:Nat->AVal}:∀{ys:List AVal} {i:Nat} {σ:Sg} {K:Sg->Prop} {vs:List Value},mYs f g ys i σ K->DenL ι ys vs->∃σ',Ex H σ σ'/\K σ'/\∀k x,vs[k]?=some x->Den (b_r w ι σ') (g (i+k)) x
 |[],i,σ,K,vs,h,hd=>by cases hd;exact⟨σ,Sg.ext_refl _,h,fun k x hk=>by simp at hk⟩
 |v::r,i,σ,K,vs,h,hd=>by
  cases hd with
  |cons h1 h2=>
  obtain⟨σ1,e1,h,d1⟩:=hf h h1
  obtain⟨σ2,e2,hK,d2⟩:=i_f hf h h2
  refine⟨σ2,Sg.ext_trans e1 e2,hK,fun k x hk=>?_⟩
  cases k with
  |zero=>simp at hk;subst hk;exact d1.mono (a_S e2)
  |succ k=>
   have:=d2 k x bz
   have e:Nat.succ i+k=i+(k+1):=ac
   rwa [e] at this
theorem j_L{f:MV}(hf:MOk H w ι f){g:Nat->List AVal}{wd k n:Nat}{xs:List AVal}{σ:Sg}{K:Sg->Prop}{vs yv:List Value}(h:mW1 f g wd k n xs σ K)(hn:vs.length=k*wd)(hy:DenL ι xs yv)(hv:∀i,i<k->∀σ,DenL (b_r w ι σ) (g i) ((vs.drop (i*wd)).take wd)):
 ∃σ',Ex H σ σ'/\K σ'/\(vs++yv).length=n*wd/\∀i,i<n->DenL (b_r w ι σ') (g i) (((vs++yv).drop (i*wd)).take wd):=by
 have key:∀i,i<k->(((vs++yv).drop (i*wd)).take wd)=((vs.drop (i*wd)).take wd):=fun i hi=>by
  have:(i+1)*wd<=k*wd:=Nat.mul_le_mul_right _ hi
  rw[Nat.succ_mul] at this
  rw[List.drop_append_of_le_length ac,List.take_append_of_le_length af]
 unfold mW1 at h
 split at h
 ·obtain⟨rfl,hK⟩:=h
  cases hy
  exact⟨σ,Sg.ext_refl _,hK,bR,fun i hi=>by rw[key i hi];exact hv i hi σ⟩
 ·rename_i x r
  obtain⟨rfl,h⟩:=h
  obtain⟨hl,h⟩:=a_h h
  have hl:=Nat.eq_of_beq_eq_true hl
  obtain⟨σ',e,hK,d⟩:=c_W hf h hy
  have hyl:=hy.length
  simp only[List.length_cons] at hyl
  refine⟨σ',e,hK,by rw[List.length_append,hn,Nat.succ_mul];omega,fun i hi=>?_⟩
  by_cases hik:i<k
  ·rw[key i hik];exact hv i hik σ'
  ·have:i=k:=ac
   subst this
   rw[←hn,List.drop_left,List.take_of_length_le ac]
   exact d
theorem j_M{f g:Nat->AVal}{n:Nat}{us:List (Nat×AVal)}{vs yv:List Value}{ι2:Inj}(hn:vs.length=n)(hv:∀k v,vs[k]?=some v->Den ι (c_q f us k) v)(hs:SubF f g n us)(hb:(ι.bare 0).le ι2)
 (hu:∀k,c_b k us=false->∀x,vs[k]?=some x->Den ι2 (g k) x) (hy:∀k x,yv[k]?=some x->Den ι2 (g (n+k)) x):∀k v,(vs++yv)[k]?=some v->Den ι2 (g k) v:=by
 intro k v hk
 by_cases hlt:k<vs.length
 ·rw[List.getElem?_append_left hlt] at hk
  cases hnk:c_b k us with
  |true=>exact hs k ac hnk ι ι2 v hb (h_b hnk (hv k v hk))
  |false=>exact hu k hnk v hk
 ·rw[List.getElem?_append_right ac] at hk
  have:=hy _ _ hk
  have e:n+(k-vs.length)=k:=ac
  rwa [e] at this
theorem e_o(hi:Inv w0 F0 ι H w):∀(n:Nat),MOk H w ι (mV H n):=by
 intro n
 induction n with
 |zero=>intro a t σ K v h;exact h.elim
 |succ n ih=>
  intro a t σ K v h hd
  cases t<;>simp only[mV] at h<;>try exact h.elim
  case top=>exact⟨σ,Sg.ext_refl _,h,.top⟩
  case lit=>
   split at h<;>try exact h.elim
   ·obtain⟨rfl,hK⟩:=p_f h
    cases hd
    exact⟨σ,Sg.ext_refl _,hK,.lit⟩
   ·cases hd with
    |ite ht hf=>
    rcases a_4 h with⟨hc,h⟩|⟨hc,h⟩
    ·exact ih h (ht hc)
    ·exact ih h (hf hc)
  case str=>
   split at h<;>try exact h.elim
   ·obtain⟨rfl,hK⟩:=h
    cases hd
    exact⟨σ,Sg.ext_refl _,hK,.str⟩
   ·cases hd with
    |ite ht hf=>
    rcases a_4 h with⟨hc,h⟩|⟨hc,h⟩
    ·exact ih h (ht hc)
    ·exact ih h (hf hc)
  case rope=>
   split at h<;>try exact h.elim
   obtain⟨hb,hK⟩:=a_h h
   rw[←e_v hb]
   cases hd
   exact⟨σ,Sg.ext_refl _,hK,.rope⟩
  case ptr=>
   split at h<;>try exact h.elim
   ·obtain⟨he,g⟩:=a_h h
    clear h
    have he:=Nat.eq_of_beq_eq_true he
    subst he
    obtain⟨σ',h1,h2,h3⟩:=d_g g
    cases hd with
    |ptr hr=>exact⟨σ',h1,h2,.ptr (by rw[a_w h3];exact hr)⟩
   ·cases hd with
    |ite ht hf=>
    rcases a_4 h with⟨hc,h⟩|⟨hc,h⟩
    ·exact ih h (ht hc)
    ·exact ih h (hf hc)
  case slc=>
   split at h<;>try exact h.elim
   obtain⟨he,g⟩:=a_h h
   clear h
   simp only[Bool.and_eq_true] at he
   have h1:=Nat.eq_of_beq_eq_true he.1
   have h2:=Nat.eq_of_beq_eq_true he.2
   subst h1;subst h2
   obtain⟨σ',h1,h2,h3⟩:=d_g g
   cases hd with
   |slc hr hl ho hc=>
    obtain⟨σ2,e2,hK,hc2⟩:=t_K h2 hc
    exact⟨σ2,Sg.ext_trans h1 e2,hK,.slc (by rw[a_w (e2.l _ _ h3)];exact hr) hl ho hc2⟩
  case rsl=>
   split at h<;>try exact h.elim
   obtain⟨hb,h⟩:=a_h h
   simp only[Bool.and_eq_true] at hb
   rw[←e_v hb.1,←e_v hb.2]
   obtain⟨σ',h1,h2,h3⟩:=d_g h
   cases hd with
   |rsl hr hl ho hc=>
    obtain⟨σ2,e2,hK,hc2⟩:=t_K h2 hc
    exact⟨σ2,Sg.ext_trans h1 e2,hK,.rsl (by rw[a_w (e2.l _ _ h3)];exact hr) hl ho hc2⟩
  case map=>
   split at h<;>try exact h.elim
   obtain⟨σ',h1,h2,h3⟩:=d_g h
   cases hd with
   |map hr=>exact⟨σ',h1,h2,.map (by rw[a_w h3];exact hr)⟩
  case ifc=>
   split at h<;>try exact h.elim
   obtain⟨hb,h⟩:=a_h h
   rw[←Nat.eq_of_beq_eq_true hb]
   cases hd with
   |ifc hv=>
    obtain⟨σ',h1,h2,h3⟩:=ih h hv
    exact⟨σ',h1,h2,.ifc h3⟩
  case fn=>
   split at h<;>try exact h.elim
   obtain⟨he,g⟩:=a_h h
   clear h
   have he:=t_L he
   subst he
   cases hd with
   |fn ha hb=>
    obtain⟨σ1,e1,h,d1⟩:=c_W ih g ha
    obtain⟨σ2,e2,hK,d2⟩:=c_W ih h hb
    exact⟨σ2,Sg.ext_trans e1 e2,hK,.fn (d1.mono (a_S e2)) d2⟩
  case agg=>
   split at h<;>try exact h.elim
   cases hd with
   |agg ha=>
    obtain⟨σ1,e1,h,d1⟩:=c_W ih h ha
    exact⟨σ1,e1,h,.agg d1⟩
  case tup=>
   split at h<;>try exact h.elim
   cases hd with
   |tup ha=>
    obtain⟨σ1,e1,h,d1⟩:=c_W ih h ha
    exact⟨σ1,e1,h,.tup d1⟩
  case sp=>
   split at h<;>try exact h.elim
   ·obtain⟨he,hK⟩:=a_h h
    simp only[Bool.and_eq_true] at he
    have h1:=g_T he.1
    have h2:=Nat.eq_of_beq_eq_true he.2
    subst h1;subst h2
    cases hd with
    |sp had=>exact⟨σ,Sg.ext_refl _,hK,.sp (ι:=b_r w ι σ) had⟩
   ·cases hd with
    |ite ht hf=>
    rcases a_4 h with⟨hc,h⟩|⟨hc,h⟩
    ·exact ih h (ht hc)
    ·exact ih h (hf hc)
  case ssl=>
   split at h<;>try exact h.elim
   obtain⟨he,hK⟩:=a_h h
   simp only[Bool.and_eq_true] at he
   have h1:=g_T he.1
   have h2:=Nat.eq_of_beq_eq_true he.2.1
   have h3:=Nat.eq_of_beq_eq_true he.2.2
   subst h1;subst h2;subst h3
   cases hd with
   |ssl had hl=>exact⟨σ,Sg.ext_refl _,hK,.ssl (ι:=b_r w ι σ) had hl⟩
  case smp=>
   split at h<;>try exact h.elim
   obtain⟨he,hK⟩:=a_h h
   have h1:=g_T he
   subst h1
   cases hd with
   |smp had=>exact⟨σ,Sg.ext_refl _,hK,.smp (ι:=b_r w ι σ) had⟩
  case by_ l'=>
   split at h
   ·obtain⟨rfl,hK⟩:=h
    refine⟨σ,Sg.ext_refl _,hK,?_⟩
    cases hd with
    |by_ hm hl ho=>exact .by_ (a_6 hi hm) hl ho
    |by0=>exact .by0
   ·rename_i j off m c
    split at h<;>try exact h.elim
    rename_i l e tot hg
    obtain⟨hro,hle,rfl,hK⟩:=a_h h
    obtain⟨r,o,hr,ho,hb,_⟩:=hi.blk _ _ hg
    cases hd with
    |slc hr' hl hoff hc=>
    rename_i off' r' c'
    rw[hr] at hr';cases hr'
    obtain⟨rest,fz,rfl,ht,_⟩:=hb
    refine⟨_,c_G hg hro,hK,?_⟩
    have hlen:((l.drop off).take m).length=m:=af
    rcases hoff with rfl|h0
    ·have:=Den.by_ (ι:=b_r w ι ((0,.fz j)::σ)) (l:=(l.drop off').take m) (r:=r) (c:=c') (off:=off') (pre:=(l.take off').map a_v) (rest:=(l.drop (off'+m)).map a_v++rest) (e:=e) (fz:=fz) (by
      rw[b_f e_n hr ho]
      congr 2
      have e1:l=l.take off'++((l.drop off').take m++l.drop (off'+m)):=by
       rw[←List.drop_drop,List.take_append_drop,List.take_append_drop]
      conv=>lhs;rw[e1]
      simp only[List.map_append,List.append_assoc]) ac af
     rw[hlen] at this
     exact this
    ·have hm0:m=0:=ac
     subst hm0
     exact .by0
   ·obtain⟨rfl,hK⟩:=h
    cases hd;exact⟨σ,Sg.ext_refl _,hK,.by0⟩
   ·obtain⟨rfl,hK⟩:=h
    cases hd;exact⟨σ,Sg.ext_refl _,hK,.by0⟩
   ·cases hd with
    |ite ht hf=>
    rcases a_4 h with⟨hc,h⟩|⟨hc,h⟩
    ·exact ih h (ht hc)
    ·exact ih h (hf hc)
   ·exact h.elim
  case famx f' n'=>
   split at h
   ·rename_i f m
    obtain⟨rfl,hs,hK⟩:=h
    refine⟨σ,Sg.ext_refl _,hK,?_⟩
    cases hd with
    |famx hd=>
    refine .famx ?_
    cases hd with
    |fam hm hn hv hl ho=>exact .fam (a_6 hi hm) hn (fun k v hk=>hs k (by have:=(List.getElem?_eq_some_iff.1 hk).1;omega) rfl _ _ _ (b_c hi) (hv k v hk)) hl ho
    |fam0=>exact .fam0
   ·rename_i j o m c
    obtain⟨hcm,h⟩:=a_h h
    have hcm:=Nat.eq_of_beq_eq_true hcm
    subst hcm
    obtain⟨σ1,e1,hK,d1⟩:=ih h hd
    refine⟨σ1,e1,hK,?_⟩
    have key:∀{m c:Nat} {a:Option Addr},c=m->Den (b_r w ι σ1) (.fam f' n') (.slice a m c)->Den (b_r w ι σ1) (.famx f' n') (.slice a m c):=fun e d=>by
     subst e
     cases d with
     |fam h1 h2 h3 h4 h5=>exact .famx (.fam h1 h2 h3 h4 h5)
     |fam0=>exact .famx .fam0
    cases hd with
    |slc hr hl ho hc=>exact key hc d1
   ·exact h.elim
  case fmw f' wd' n'=>
   split at h
   ·rename_i f wd m
    obtain⟨hw,rfl,hs,hK⟩:=a_h h
    have hw:=Nat.eq_of_beq_eq_true hw
    subst hw
    refine⟨σ,Sg.ext_refl _,hK,?_⟩
    cases hd with
    |fmw hm hn hv hl ho=>exact .fmw (a_6 hi hm) hn (fun k hk=>hs k hk _ _ _ (b_c hi) (hv k hk)) hl ho
    |fmw0=>exact .fmw0
   ·rename_i j m c
    split at h<;>try exact h.elim
    ·rename_i f wd k ys e tot hg
     obtain⟨hc,h2⟩:=a_h h
     obtain⟨rfl,hs,h3⟩:=h2
     clear h
     simp only[Bool.and_eq_true] at hc
     have hw:=Nat.eq_of_beq_eq_true hc.2
     subst hw
     obtain⟨r,o,hr,ho,hb,_⟩:=hi.blk _ _ hg
     cases hd with
     |slc hr' hl hoff hcap=>
     rename_i off' r' c'
     rw[hr] at hr';cases hr'
     obtain⟨vs,yv,rest,rfl,hn,hv,hy,_⟩:=hb
     obtain⟨σ2,e2,hK,hlen,d2⟩:=j_L ih h3 hn hy (fun i hi' σ=>hs i hi' _ _ _ (b_c hi) (hv i hi'))
     have hle2:(b_r w ι σ2).le (b_r w ι ((0,.fz j)::σ2)):=a_S (c_G hg hc.1)
     refine⟨_,Sg.ext_trans e2 (c_G hg hc.1),hK,?_⟩
     rcases hoff with h0|h0
     ·exact .fmw (pre:=[]) (vs:=vs++yv) (rest:=rest) (b_f e_n hr ho) hlen (fun i hi'=>(d2 i hi').mono hle2) hl h0
     ·have:m=0:=ac
      subst this
      exact .fmw0
    ·rename_i cs e tot hg
     obtain⟨hro,h2⟩:=a_h h
     obtain⟨rfl,h3⟩:=h2
     clear h
     obtain⟨r,o,hr,ho,hb,_⟩:=hi.blk _ _ hg
     cases hd with
     |slc hr' hl hoff hcap=>
     rename_i off' r' c'
     rw[hr] at hr';cases hr'
     obtain⟨vs,rest,rfl,hv,_⟩:=hb
     obtain⟨σ2,e2,hK,hlen,d2⟩:=j_L (w:=w) (vs:=[]) ih h3 an hv (fun i hi' σ=>ac)
     have hle2:(b_r w ι σ2).le (b_r w ι ((0,.fz j)::σ2)):=a_S (c_G hg hro)
     refine⟨_,Sg.ext_trans e2 (c_G hg hro),hK,?_⟩
     rcases hoff with h0|h0
     ·exact .fmw (pre:=[]) (vs:=[]++vs) (rest:=rest) (b_f e_n hr ho) hlen (fun i hi'=>(d2 i hi').mono hle2) hl h0
     ·have:m=0:=ac
      subst this
      exact .fmw0
   ·obtain⟨rfl,hK⟩:=h
    cases hd;exact⟨σ,Sg.ext_refl _,hK,.fmw0⟩
   ·obtain⟨rfl,hK⟩:=h
    cases hd;exact⟨σ,Sg.ext_refl _,hK,.fmw0⟩
   ·cases hd with
    |ite ht hf=>
    rcases a_4 h with⟨hc,h⟩|⟨hc,h⟩
    ·exact ih h (ht hc)
    ·exact ih h (hf hc)
   ·exact h.elim
  case fam f' n'=>
   split at h
   ·rename_i f m
    obtain⟨rfl,hs,hK⟩:=h
    refine⟨σ,Sg.ext_refl _,hK,?_⟩
    cases hd with
    |fam hm hn hv hl ho=>exact .fam (a_6 hi hm) hn (fun k v hk=>hs k (by have:=(List.getElem?_eq_some_iff.1 hk).1;omega) rfl _ _ _ (b_c hi) (hv k v hk)) hl ho
    |fam0=>exact .fam0
   ·rename_i f m
    obtain⟨rfl,hs,hK⟩:=h
    refine⟨σ,Sg.ext_refl _,hK,?_⟩
    cases hd with
    |famx hd=>
    cases hd with
    |fam hm hn hv hl ho=>exact .fam (a_6 hi hm) hn (fun k v hk=>hs k (by have:=(List.getElem?_eq_some_iff.1 hk).1;omega) rfl _ _ _ (b_c hi) (hv k v hk)) hl ho
    |fam0=>exact .fam0
   ·obtain⟨rfl,hK⟩:=h
    cases hd;exact⟨σ,Sg.ext_refl _,hK,.fam0⟩
   ·obtain⟨rfl,hK⟩:=h
    cases hd;exact⟨σ,Sg.ext_refl _,hK,.fam0⟩
   ·rename_i j m c
    split at h<;>try exact h.elim
    ·rename_i f k us ys e tot hg
     obtain⟨hro,rfl,hmk,hs,h⟩:=a_h h
     obtain⟨r,o,hr,ho,hb,_⟩:=hi.blk _ _ hg
     cases hd with
     |slc hr' hl hoff hc=>
     rename_i off' r' c'
     rw[hr] at hr';cases hr'
     obtain⟨vs,yv,rest,rfl,hn,hv,hy,_⟩:=hb
     obtain⟨σ1,e1,h,d1⟩:=m_l ih hn h (fun k _ x hx=>hv k x hx)
     obtain⟨σ2,e2,hK,d2⟩:=i_f ih h hy
     have hle:(b_r w ι σ1).le (b_r w ι ((0,.fz j)::σ2)):=a_S (Sg.ext_trans e2 (c_G hg hro))
     have hle2:(b_r w ι σ2).le (b_r w ι ((0,.fz j)::σ2)):=a_S (c_G hg hro)
     refine⟨_,Sg.ext_trans e1 (Sg.ext_trans e2 (c_G hg hro)),hK,?_⟩
     rcases hoff with h0|h0
     ·refine .fam (pre:=[]) (vs:=vs++yv) (rest:=rest) (b_f e_n hr ho) (by have:=hy.length;simp;omega) ?_ hl h0
      exact j_M hn hv hs (b_c hi) (fun k hk x hx=>(d1 k hk x hx).mono hle) (fun k x hx=>(d2 k x hx).mono hle2)
     ·have h0:m=0:=ac
      subst h0
      exact .fam0
    ·rename_i cs e tot hg
     obtain⟨hro,rfl,hmk,h⟩:=a_h h
     obtain⟨r,o,hr,ho,hb,_⟩:=hi.blk _ _ hg
     cases hd with
     |slc hr' hl hoff hc=>
     rename_i off' r' c'
     rw[hr] at hr';cases hr'
     obtain⟨vs,rest,rfl,hv,_⟩:=hb
     obtain⟨σ2,e2,hK,d2⟩:=i_f ih h hv
     have hle2:(b_r w ι σ2).le (b_r w ι ((0,.fz j)::σ2)):=a_S (c_G hg hro)
     refine⟨_,Sg.ext_trans e2 (c_G hg hro),hK,?_⟩
     rcases hoff with h0|h0
     ·refine .fam (pre:=[]) (vs:=vs) (rest:=rest) (b_f e_n hr ho) (by have:=hv.length;omega) (fun k x hx=>?_) hl h0
      have:=d2 k x hx
      rw[Nat.zero_add] at this
      exact this.mono hle2
     ·have h0:m=0:=ac
      subst h0
      exact .fam0
   ·exact h.elim
  case fpt cs' o'=>
   split at h
   ·rename_i cs o
    obtain⟨rfl,h⟩:=h
    cases hd with
    |fpt hm hv=>
    obtain⟨σ1,e1,h,d1⟩:=c_W ih h hv
    exact⟨σ1,e1,h,.fpt (a_6 hi hm) d1⟩
   ·rename_i j o
    split at h<;>try exact h.elim
    rename_i cs e tot hg
    obtain⟨hro,hoo,h2⟩:=a_h h
    clear h
    subst hoo
    obtain⟨r,ob,hr,ho,hb,_⟩:=hi.blk _ _ hg
    cases hd with
    |ptr hr'=>
    rw[hr] at hr';cases hr'
    obtain⟨vs,rest,rfl,hv,_⟩:=hb
    obtain⟨σ1,e1,h,d1⟩:=c_W ih h2 hv
    exact⟨_,Sg.ext_trans e1 (c_G hg hro),h,.fpt (b_f e_n hr ho) (d1.mono (a_S (c_G hg hro)))⟩
   ·exact h.elim
  case ite c x y=>
   rcases a_4 h with⟨hc,h⟩|⟨hc,h⟩
   ·obtain⟨σ1,e1,hK,d1⟩:=ih h hd
    exact⟨σ1,e1,hK,.ite (fun _=>d1) (fun hc'=>by rw[hc] at hc';cases hc')⟩
   ·obtain⟨σ1,e1,hK,d1⟩:=ih h hd
    exact⟨σ1,e1,hK,.ite (fun hc'=>by rw[hc] at hc';cases hc') (fun _=>d1)⟩
  case mp q=>
   obtain⟨h1,hK⟩:=h
   exact⟨_,m_k fun j hj=>d_h hj,hK,.mp (h1.out _ _ _ _ _ hi hd)⟩
  case e0=>
   split at h
   ·cases hd;exact⟨σ,Sg.ext_refl _,h,.e0⟩
   ·obtain⟨rfl,hK⟩:=h
    cases hd;exact⟨σ,Sg.ext_refl _,hK,.e0⟩
   ·obtain⟨rfl,hK⟩:=h
    cases hd;exact⟨σ,Sg.ext_refl _,hK,.e0⟩
   ·obtain⟨rfl,hK⟩:=h
    cases hd<;>exact⟨σ,Sg.ext_refl _,hK,.e0⟩
   ·obtain⟨rfl,hK⟩:=h
    cases hd<;>exact⟨σ,Sg.ext_refl _,hK,.e0⟩
   ·exact h.elim
def mE(f:MV):List (AVal×AVal×Nat)->List (AVal×AVal×Nat)->Sg->(Sg->Prop)->Prop
 |[],[],σ,K=>K σ
 |(k,v,n)::r,(k',v',n')::r',σ,K=>gd (Nat.beq n n') (f k k' σ (fun σ=>f v v' σ (fun σ=>mE f r r' σ K)))
 |_,_,_,_=>False
theorem t_M{f:MV}(hf:MOk H w ι f):∀{as ts:List (AVal×AVal×Nat)} {σ:Sg} {K:Sg->Prop} {vs:List MapEntry},mE f as ts σ K->EDen ι as vs->∃σ',Ex H σ σ'/\K σ'/\EDen (b_r w ι σ') ts vs
 |[],[],σ,K,[],h,hd=>⟨σ,Sg.ext_refl _,h,trivial⟩
 |(k,v,n)::as,(k',v',n')::ts,σ,K,e::vs,h,hd=>by
  obtain⟨hn,h⟩:=a_h h
  obtain⟨d1,d2,d3,d4⟩:=hd
  obtain⟨σ1,e1,h,g1⟩:=hf h d1
  obtain⟨σ2,e2,h,g2⟩:=hf h d2
  obtain⟨σ3,e3,hK,g3⟩:=t_M hf h d4
  exact⟨σ3,Sg.ext_trans e1 (Sg.ext_trans e2 e3),hK,g1.mono (a_S (Sg.ext_trans e2 e3)),g2.mono (a_S e3),by rw[←Nat.eq_of_beq_eq_true hn];exact d3,g3⟩
 |[],[],_,_,_::_,_,hd=>hd.elim
 |[],_::_,_,_,_,h,_=>h.elim
 |_::_,[],_,_,_,h,_=>h.elim
 |_::_,_::_,_,_,[],_,hd=>hd.elim
def x_X(i:Nat):List (Nat×AVal)->Prop
 |[]=>True
 |(j,_)::r=>j=i/\x_X i r
theorem f_6{i q:Nat}(hq:q≠i):∀{r:List (Nat×AVal)},x_X i r->c_b q r=true
 |[],_=>rfl
 |(j,_)::r,h=>by
  obtain⟨rfl,h⟩:=h
  simp only[c_b,b_b hq,Bool.not_false,Bool.true_and]
  exact f_6 hq h
def mB(H:AHeap)(a t:ABlk)(σ:Sg)(K:Sg->Prop):Prop:=
 match t with
 | .row cs' e' t'=>match a with| .row cs e t=>gd (Nat.beq e e') (mLs (mV H 24) cs cs' σ (fun σ=>mT t t' σ K))|_=>False
 | .bytes l' e' t'=>match a with| .bytes l e t=>gd (Nat.beq e e') ((∃r,l=l'++r)/\mT t t' σ K)|_=>False
 | .rbytes r' e' t'=>match a with| .rbytes r e t=>gd (Nat.beq e e'&&eqN r r') (mT t t' σ K)|_=>False
 | .fam f' n' us' xs' e' t'=>match us' with
  |(i',v')::r'=>gd (h_7 r'&&h_7 xs') (match a with
   | .fam f k ((i,v)::r) [] e t=>gd (Nat.beq e e') (n'=k/\i=i'/\i<k/\x_X i r/\SubF f f' k [(i,v)]/\mV H 24 v v' σ (fun σ=>mT t t' σ K))
   |_=>False)
  |[]=>gd (h_7 xs') (match a with
   | .fam f k [] [] e t=>gd (Nat.beq e e') (n'<=k/\SubF f f' n' []/\mT t t' σ K)
   | .fam f k us ys e t=>gd (Nat.beq e e') (n'=k+ys.length/\SubF f f' k us/\mUs (mV H 24) f' k us σ (fun σ=>mYs (mV H 24) f' ys k σ (fun σ=>mT t t' σ K)))
   | .row cs e t=>gd (Nat.beq e e') (n'=cs.length/\mYs (mV H 24) f' cs 0 σ (fun σ=>mT t t' σ K))
   |_=>False)
 | .famw f' wd' n' xs' e' t'=>gd (h_7 xs') (match a with
   | .famw f wd k ys e t=>gd (Nat.beq e e'&&Nat.beq wd wd') (x_V f f' k/\mW1 (mV H 24) f' wd k n' ys σ (fun σ=>mT t t' σ K))
   | .row cs e t=>gd (Nat.beq e e') (mW1 (mV H 24) f' wd' 0 n' cs σ (fun σ=>mT t t' σ K))
   |_=>False)
 | .map es' c'=>match a with| .map es c=>gd (Nat.beq c c') (mE (mV H 24) es es' σ K)|_=>False
 | .siter l' p'=>match a with| .siter l p=>l=l'/\p=p'/\K σ|_=>False
theorem f_j{α:Type}{l:List α}(h:h_7 l=true):l=[]:=by
 cases l with
 |nil=>rfl
 |cons _ _=>cases h
theorem x_Y(hi:Inv w0 F0 ι H w){a t:ABlk}{σ:Sg}{K:Sg->Prop}{o:Obj}(h:mB H a t σ K)(hd:BDen ι a o):∃σ',Ex H σ σ'/\K σ'/\BDen (b_r w ι σ') t o:=by
 cases t with
 |row cs' e' t'=>
  simp only[mB] at h
  split at h<;>try exact h.elim
  obtain⟨hb,h⟩:=a_h h
  obtain⟨vs,rest,rfl,hcs,ht⟩:=hd
  obtain⟨σ1,e1,h,d1⟩:=c_W (e_o hi 24) h hcs
  obtain⟨σ2,e2,hK,d2⟩:=h_a h ht
  exact⟨σ2,Sg.ext_trans e1 e2,hK,vs,rest,by rw[Nat.eq_of_beq_eq_true hb],d1.mono (a_S e2),d2⟩
 |bytes l' e' t'=>
  simp only[mB] at h
  split at h<;>try exact h.elim
  obtain⟨hb,h1⟩:=a_h h
  obtain⟨⟨r,hl⟩,h2⟩:=h1
  subst hl
  obtain⟨rest,fz,rfl,ht,hfz⟩:=hd
  obtain⟨σ2,e2,hK,d2⟩:=h_a h2 ht
  have hlen:l'.length+(r.map a_v++rest).length=(l'++r).length+rest.length:=af
  exact⟨σ2,e2,hK,r.map a_v++rest,fz,by rw[Nat.eq_of_beq_eq_true hb];simp,by rw[hlen];exact d2,by rw[hlen];exact hfz⟩
 |rbytes r' e' t'=>
  simp only[mB] at h
  split at h<;>try exact h.elim
  obtain⟨hb,h⟩:=a_h h
  simp only[Bool.and_eq_true] at hb
  obtain⟨rest,fz,rfl,ht,hfz⟩:=hd
  obtain⟨σ2,e2,hK,d2⟩:=h_a h ht
  rw[←e_v hb.2]
  exact⟨σ2,e2,hK,rest,fz,by rw[Nat.eq_of_beq_eq_true hb.1],d2,hfz⟩
 |fam f' n' us' xs' e' t'=>
  cases us' with
  |cons x' r'=>
   obtain⟨i',v'⟩:=x'
   simp only[mB] at h
   obtain⟨hnil,g⟩:=a_h h
   clear h
   simp only[Bool.and_eq_true] at hnil
   have h1:=f_j hnil.1
   have h2:=f_j hnil.2
   subst h1;subst h2
   split at g<;>try exact g.elim
   rename_i f k i v r e t
   obtain⟨hb,rfl,rfl,hik,hr,hs,h⟩:=a_h g
   clear g
   have hb:=Nat.eq_of_beq_eq_true hb
   subst hb
   obtain⟨vs,yv,rest,rfl,hn,hv,hy,ht⟩:=hd
   cases hy
   have hlt:i<vs.length:=ac
   have hi':Den ι v vs[i]:=by
    have:=hv i vs[i] (List.getElem?_eq_getElem hlt)
    simp only[c_q] at this
    cases this with
    |ite ht _=>exact ht (beq_self i)
   obtain⟨σ1,e1,h,d1⟩:=e_o hi 24 h hi'
   obtain⟨σ3,e3,hK,d3⟩:=h_a h ht
   refine⟨σ3,Sg.ext_trans e1 e3,hK,vs,[],rest,an,hn,fun q x hx=>?_,.nil,by simpa using d3⟩
   simp only[c_q]
   refine .ite (fun hq=>?_) (fun hq=>?_)
   ·have hq:=Nat.eq_of_beq_eq_true hq
    subst hq
    rw[List.getElem?_eq_getElem hlt] at hx
    cases hx
    exact d1.mono (a_S e3)
   ·have hne:q≠i:=fun e=>by rw[e,beq_self] at hq;cases hq
    have hq1:c_b q [(i,v)]=true:=by simp[c_b,hq]
    have hq2:c_b q ((i,v)::r)=true:=by
     simp only[c_b,hq,Bool.not_false,Bool.true_and]
     exact f_6 hne hr
    exact hs q (by have:=(List.getElem?_eq_some_iff.1 hx).1;omega) hq1 _ _ _ (b_c hi) (h_b hq2 (hv q x hx))
  |nil=>
  simp only[mB] at h
  obtain⟨hnil,g⟩:=a_h h
  clear h
  have h2:=f_j hnil
  subst h2
  split at g<;>try exact g.elim
  ·rename_i f k e t
   obtain⟨hb,hn',hs,h⟩:=a_h g
   clear g
   have hb:=Nat.eq_of_beq_eq_true hb
   subst hb
   obtain⟨vs,yv,rest,rfl,hn,hv,hy,ht⟩:=hd
   cases hy
   obtain⟨σ3,e3,hK,d3⟩:=h_a h ht
   refine⟨σ3,e3,hK,vs.take n',[],vs.drop n'++rest,by simp[←List.append_assoc,List.take_append_drop],af,fun i v hi'=>?_,.nil,?_⟩
   ·rw[List.getElem?_take] at hi'
    split at hi'
    ·rename_i hlt
     exact hs i hlt rfl _ _ _ (b_c hi) (hv i v hi')
    ·cases hi'
   ·have e1:(vs.take n').length+([]:List Value).length+(vs.drop n'++rest).length=vs.length+([]:List Value).length+rest.length:=af
    rw[e1];exact d3
  ·rename_i f k us ys e t _
   obtain⟨hb,hn',hs,h⟩:=a_h g
   clear g
   have hb:=Nat.eq_of_beq_eq_true hb
   subst hb
   obtain⟨vs,yv,rest,rfl,hn,hv,hy,ht⟩:=hd
   obtain⟨σ1,e1,h,d1⟩:=m_l (e_o hi 24) hn h (fun k _ x hx=>hv k x hx)
   obtain⟨σ2,e2,h,d2⟩:=i_f (e_o hi 24) h hy
   obtain⟨σ3,e3,hK,d3⟩:=h_a h ht
   have hyl:=hy.length
   refine⟨σ3,Sg.ext_trans e1 (Sg.ext_trans e2 e3),hK,vs++yv,[],rest,an,af,?_,.nil,bw⟩
   exact j_M hn hv hs (b_c hi) (fun k hk x hx=>(d1 k hk x hx).mono (a_S (Sg.ext_trans e2 e3))) (fun k x hx=>(d2 k x hx).mono (a_S e3))
  ·rename_i cs e t
   obtain⟨hb,hn',h⟩:=a_h g
   clear g
   have hb:=Nat.eq_of_beq_eq_true hb
   subst hb
   obtain⟨vs,rest,rfl,hv,ht⟩:=hd
   obtain⟨σ2,e2,h,d2⟩:=i_f (e_o hi 24) h hv
   obtain⟨σ3,e3,hK,d3⟩:=h_a h ht
   have hvl:=hv.length
   refine⟨σ3,Sg.ext_trans e2 e3,hK,vs,[],rest,an,ac,fun k x hx=>?_,.nil,by simpa using d3⟩
   have:=d2 k x hx
   rw[Nat.zero_add] at this
   exact this.mono (a_S e3)
 |famw f' wd' n' xs' e' t'=>
  simp only[mB] at h
  obtain⟨hnil,g⟩:=a_h h
  clear h
  have h1:=f_j hnil
  subst h1
  split at g<;>try exact g.elim
  ·rename_i f wd k ys e t
   obtain⟨hb,hs,h⟩:=a_h g
   clear g
   simp only[Bool.and_eq_true] at hb
   have he:=Nat.eq_of_beq_eq_true hb.1
   have hw:=Nat.eq_of_beq_eq_true hb.2
   subst he;subst hw
   obtain⟨vs,yv,rest,rfl,hn,hv,hy,ht⟩:=hd
   obtain⟨σ2,e2,h,hlen,d2⟩:=j_L (e_o hi 24) h hn hy (fun i hi' σ=>hs i hi' _ _ _ (b_c hi) (hv i hi'))
   obtain⟨σ3,e3,hK,d3⟩:=h_a h ht
   exact⟨σ3,Sg.ext_trans e2 e3,hK,vs++yv,[],rest,an,hlen,fun i hi'=>(d2 i hi').mono (a_S e3),.nil,bw⟩
  ·rename_i cs e t
   obtain⟨hb,h⟩:=a_h g
   clear g
   have hb:=Nat.eq_of_beq_eq_true hb
   subst hb
   obtain⟨vs,rest,rfl,hv,ht⟩:=hd
   obtain⟨σ2,e2,h,hlen,d2⟩:=j_L (vs:=[]) (e_o hi 24) h an hv (fun i hi' σ=>ac)
   obtain⟨σ3,e3,hK,d3⟩:=h_a h ht
   exact⟨σ3,Sg.ext_trans e2 e3,hK,[]++vs,[],rest,an,hlen,fun i hi'=>(d2 i hi').mono (a_S e3),.nil,bw⟩
 |map es' c'=>
  simp only[mB] at h
  split at h<;>try exact h.elim
  obtain⟨hb,h⟩:=a_h h
  obtain⟨es,rfl,hE⟩:=hd
  obtain⟨σ2,e2,hK,d2⟩:=t_M (e_o hi 24) h hE
  exact⟨σ2,e2,hK,es,by rw[Nat.eq_of_beq_eq_true hb],d2⟩
 |siter l' p'=>
  simp only[mB] at h
  split at h<;>try exact h.elim
  obtain⟨rfl,rfl,hK⟩:=h
  exact⟨σ,Sg.ext_refl _,hK,hd⟩
end
end Go.Sx
namespace Go.Sx
open Go
variable [Syms]
section
variable {w0 w:World} {F0:Fp} {ι:Inj} {H:AHeap}
def m_m(H:AHeap)(fr:Fr):List (Nat×AVal)->Sg->(Sg->Prop)->Prop
 |[],σ,K=>K σ
 |(t,v)::r,σ,K=>mV H 24 (i_U fr t) v σ (fun σ=>m_m H fr r σ K)
def k_y(H:AHeap)(ros:List Nat):List (Nat×ABlk)->Sg->(Sg->Prop)->Prop
 |[],σ,K=>K σ
 |(i,b)::r,σ,K=>match a_5 σ i with
  |some (.id j)=>match H.get j with
   |some x=>gd (!H.isRo j||d_F ros i) (mB H x b σ (fun σ=>k_y H ros r σ K))
   |none=>False
  |_=>False
def PinF(p:Nat)(f:Nat->List AVal):Prop:=∀k,SubL p (f k) (f k)
def mDs(H:AHeap)(p:Nat):List DItem->List DItem->Sg->(Sg->Prop)->Prop
 |[],[],σ,K=>K σ
 |[],[.fam _ _ n],σ,K=>n=0/\K σ
 |[.one g as],[.one g' as'],σ,K=>gd (Nat.beq g g') (mLs (mV H 24) as as' σ K)
 |[.one g as,.fam g1 f n],[.fam g' f' n'],σ,K=>gd (Nat.beq g g'&&Nat.beq g1 g') (n'=n+1/\f=f'/\PinF p f/\mLs (mV H 24) as (f' n) σ K)
 |[.fam g f n],[.fam g' f' n'],σ,K=>gd (Nat.beq g g') (n=n'/\f=f'/\PinF p f/\K σ)
 |_,_,_,_=>False
def c_S(next:Nat):Sg->Bool
 |[]=>true
 |(i,x)::r=>(match x with| .fz _=>true|_=>Nat.blt i next)&&c_S next r
def o_H(σ:Sg):List (Nat×ABlk)->List Nat
 |[]=>[]
 |(i,_)::r=>match a_5 σ i with
  |some (.id j)=>j::o_H σ r
  |_=>o_H σ r
def c_c:List Nat->Bool
 |[]=>true
 |x::r=> !d_F r x&&c_c r
def i_7(l:List Nat):List Nat->Bool
 |[]=>true
 |x::r=> !d_F l x&&i_7 l r
def t_N(n:Nat)(l:List (Nat×AVal)):Fr:=⟨n,l.foldr (fun x T=>T.set x.1 (some x.2)) .nil⟩
structure HD where
 n:Nat
 ros:List Nat
 st:SId->Option ABlk
def hpD(D:HD)(l:List (Nat×ABlk))(ds:List DItem):AHeap:=⟨l.foldr (fun x T=>T.set x.1 (some x.2)) .nil,D.n,ds,D.ros,D.st⟩
def m_n:Nat->Sg
 |0=>[]
 |n+1=>(n,.id n)::m_n n
def okS(D:HD)(blks:List (Nat×ABlk))(σ:Sg):Prop:=gd (c_S D.n σ&&(c_c (o_H σ blks)&&i_7 (o_H σ blks) (fzs σ))) True
def m_o(pn:Nat)(fr:Fr)(H:AHeap)(n:Nat)(D:HD)(slots:List (Nat×AVal))(blks:List (Nat×ABlk))(ds:List DItem):Prop:=
 H.st=D.st/\gd (Nat.beq fr.n n) (m_m H fr slots (m_n pn) (fun σ=>k_y H D.ros blks σ (fun σ=>mDs H pn H.defs ds σ (fun σ=>okS D blks σ))))
theorem e_N{α:Type}:∀(l:List (Nat×α)) (i:Nat) {x:α},Tr.get (l.foldr (fun x T=>T.set x.1 (some x.2)) .nil) i=some x->(i,x)∈l
 |[],i,x,h=>by simp[Tr.get_nil] at h
 |(k,y)::r,i,x,h=>by
  simp only[List.foldr_cons,Tr.get_set] at h
  by_cases e:i=k
  ·rw[if_pos e] at h
   cases h
   rw[e];exact List.mem_cons_self ..
  ·rw[if_neg e] at h
   exact List.mem_cons_of_mem _ (e_N r i h)
theorem a_1{D:HD}{l:List (Nat×ABlk)}{ds:List DItem}{i:Nat}{b:ABlk}(h:(hpD D l ds).get i=some b):(i,b)∈l:=e_N l i h
theorem i_g:∀{n i:Nat},i<n->a_5 (m_n n) i=some (.id i)
 |n+1,i,h=>by
  by_cases e:n=i
  ·subst e;exact m_j
  ·simp only[m_n]
   rw[f_i e]
   exact i_g ac
theorem h_c(hi:Inv w0 F0 ι H w){pn:Nat}{σ:Sg}(h:Ex H (m_n pn) σ):(ι.bare pn).le (b_r w ι σ):=by
 refine⟨fun i r hr=>?_,fun r o hm=>a_6 hi hm,fun _ _ h=>h⟩
 by_cases e:i<pn
 ·rw[a_w (h.l _ _ (i_g e))]
  simpa[Inj.bare,e] using hr
 ·simp[Inj.bare,e] at hr
theorem i_h(hi:Inv w0 F0 ι H w){fr:Fr}{a:Act}(hf:FRel ι fr a):∀{l:List (Nat×AVal)} {σ:Sg} {K:Sg->Prop},m_m H fr l σ K->∃σ',Ex H σ σ'/\K σ'/\∀x∈l,Den (b_r w ι σ') x.2 (a.tmps.getD x.1 undef)
 |[],σ,K,h=>⟨σ,Sg.ext_refl _,h,fun _ hx=>bv⟩
 |(t,v)::r,σ,K,h=>by
  obtain⟨σ1,e1,h,d1⟩:=e_o hi 24 h (hf.t t)
  obtain⟨σ2,e2,hK,d2⟩:=i_h hi hf h
  refine⟨σ2,Sg.ext_trans e1 e2,hK,fun x hx=>?_⟩
  rcases List.mem_cons.1 hx with rfl|hx
  ·exact d1.mono (a_S e2)
  ·exact d2 x hx
def BlkD(w0:World)(F0:Fp)(w:World)(ι:Inj)(H:AHeap)(ros:List Nat)(σ:Sg)(l:List (Nat×ABlk)):Prop:=
 ∀x∈l,∃j c r o,a_5 σ x.1=some (.id j)/\H.get j=some c/\ι j=some r/\w.heap[r]?=some o/\BDen (b_r w ι σ) x.2 o/\(F0.w r\/w0.heap.size<=r\/(F0.r r/\d_F ros x.1=true))/\(H.isRo j=true->d_F ros x.1=true)
theorem BlkD.mono{ros:List Nat}{σ σ':Sg}{l:List (Nat×ABlk)}(h:BlkD w0 F0 w ι H ros σ l)(he:Ex H σ σ'):BlkD w0 F0 w ι H ros σ' l:=fun x hx=>by
 obtain⟨j,c,r,o,h1,h2,h3,h4,h5,h6⟩:=h x hx
 exact⟨j,c,r,o,he.l _ _ h1,h2,h3,h4,h5.mono (a_S he),h6⟩
theorem e_O(hi:Inv w0 F0 ι H w):∀{ros:List Nat} {l:List (Nat×ABlk)} {σ:Sg} {K:Sg->Prop},k_y H ros l σ K->∃σ',Ex H σ σ'/\K σ'/\BlkD w0 F0 w ι H ros σ' l
 |ros,[],σ,K,h=>⟨σ,Sg.ext_refl _,h,fun _ hx=>bv⟩
 |ros,(i,b)::rr,σ,K,h=>by
  simp only[k_y] at h
  split at h
  ·rename_i j hl
   split at h
   ·rename_i c hg
    obtain⟨hro,h⟩:=a_h h
    simp only[Bool.or_eq_true,Bool.not_eq_true'] at hro
    have hro':H.isRo j=true->d_F ros i=true:=fun h1=>by
     rcases hro with h2|h2
     ·rw[h1] at h2;cases h2
     ·exact h2
    obtain⟨r,o,hr,ho,hb,hF⟩:=hi.blk _ _ hg
    have hF:F0.w r\/w0.heap.size<=r\/(F0.r r/\d_F ros i=true):=by
     rcases hF with h1|h1|h1
     ·exact .inl h1
     ·exact .inr (.inl h1)
     ·exact .inr (.inr ⟨h1.1,hro' h1.2⟩)
    obtain⟨σ1,e1,h,d1⟩:=x_Y hi h hb
    obtain⟨σ2,e2,hK,d2⟩:=e_O hi h
    refine⟨σ2,Sg.ext_trans e1 e2,hK,fun x hx=>?_⟩
    rcases List.mem_cons.1 hx with rfl|hx
    ·exact⟨j,c,r,o,e2.l _ _ (e1.l _ _ hl),hg,hr,ho,d1.mono (a_S e2),hF,hro'⟩
    ·exact d2 x hx
   ·exact h.elim
  ·exact h.elim
theorem c_T{next:Nat}:∀{σ:Sg} {i:Nat} {x:Nm},c_S next σ=true->a_5 σ i=some x->i<next
 |[],i,x,_,h=>am
 |(k,y)::r,i,x,hb,h=>by
  simp only[c_S,Bool.and_eq_true] at hb
  cases y with
  |fz j=>rw[m_h] at h;exact c_T hb.2 h
  |id j=>
   by_cases e:k=i
   ·subst e;exact a_Y hb.1
   ·rw[f_i e] at h;exact c_T hb.2 h
  |num j=>
   by_cases e:k=i
   ·subst e;exact a_Y hb.1
   ·rw[f_i e] at h;exact c_T hb.2 h
theorem c_U:∀{l:List Nat} {i:Nat},i∈l->d_F l i=true
 |x::r,i,h=>by
  simp only[d_F]
  cases hb:Nat.beq x i with
  |true=>rfl
  |false=>
   rcases List.mem_cons.1 h with rfl|h
   ·rw[Nat.beq_refl] at hb;cases hb
   ·exact c_U h
theorem j_N{l:List Nat}:∀{r:List Nat} {x:Nat},i_7 l r=true->x∈r->x∉l
 |y::r,x,h,hx,hm=>by
  simp only[i_7,Bool.and_eq_true,Bool.not_eq_true'] at h
  rcases List.mem_cons.1 hx with rfl|hx
  ·rw[c_U hm] at h;cases h.1
  ·exact j_N h.2 hx hm
theorem e_P{σ:Sg}:∀{l:List (Nat×ABlk)} {z:Nat×ABlk} {j:Nat},z∈l->a_5 σ z.1=some (.id j)->j∈o_H σ l
 |u::us,z,j,hz,hl=>by
  simp only[o_H]
  rcases List.mem_cons.1 hz with rfl|hz
  ·rw[hl];exact List.mem_cons_self ..
  ·have:=e_P hz hl
   split
   ·exact List.mem_cons_of_mem _ this
   ·exact this
theorem h_d{σ:Sg}:∀{l:List (Nat×ABlk)} {x y:Nat×ABlk} {j:Nat},c_c (o_H σ l)=true->x∈l->y∈l->a_5 σ x.1=some (.id j)->a_5 σ y.1=some (.id j)->x.1=y.1
 |(i,b)::r,x,y,j,h,hx,hy,h1,h2=>by
  simp only[o_H] at h
  rcases List.mem_cons.1 hx with rfl|hx<;>rcases List.mem_cons.1 hy with rfl|hy
  ·rfl
  ·rw[h1] at h
   simp only[c_c,Bool.and_eq_true,Bool.not_eq_true'] at h
   have:=c_U (e_P hy h2)
   rw[this] at h;cases h.1
  ·rw[h2] at h
   simp only[c_c,Bool.and_eq_true,Bool.not_eq_true'] at h
   have:=c_U (e_P hx h1)
   rw[this] at h;cases h.1
  ·split at h
   ·simp only[c_c,Bool.and_eq_true] at h
    exact h_d h.2 hx hy h1 h2
   ·exact h_d h hx hy h1 h2
theorem t_O(hi:Inv w0 F0 ι H w){pn:Nat}:∀{l t:List DItem} {σ:Sg} {K:Sg->Prop} {ds:List Deferred},mDs H pn l t σ K->Ex H (m_n pn) σ->DRel ι l ds->∃σ',Ex H σ σ'/\K σ'/\DRel (b_r w ι σ') t ds:=by
 intro l t σ K ds h hp hd
 have fam:∀{σ':Sg} {g:Nat} {f:Nat->List AVal},Ex H (m_n pn) σ'->PinF pn f->∀{n dn},DFam ι g f n dn->DFam (b_r w ι σ') g f n dn:=by
  intro σ' g f hp hpin n dn hd
  induction hd with
  |zero=>exact .zero
  |succ h hs ih=>
   obtain⟨cap,h1,h2⟩:=h.ex
   exact .succ ⟨cap,h1,hpin _ _ _ _ (h_c hi hp) h2⟩ ih
 unfold mDs at h
 split at h
 ·cases hd;exact⟨σ,Sg.ext_refl _,h,.nil⟩
 ·cases hd
  obtain⟨rfl,hK⟩:=h
  exact⟨σ,Sg.ext_refl _,hK,.fam .zero .nil⟩
 ·obtain⟨hg,h⟩:=a_h h
  cases hd with
  |one h1 hr=>
  cases hr
  obtain⟨cap,h2,h3⟩:=h1.ex
  obtain⟨σ1,e1,hK,d1⟩:=c_W (e_o hi 24) h h3
  exact⟨σ1,e1,hK,.one ⟨cap,by rw[←Nat.eq_of_beq_eq_true hg];exact h2,d1⟩ .nil⟩
 ·obtain⟨hg,hn1,hf1,hpin,hx⟩:=a_h h
  clear h
  subst hn1;subst hf1
  simp only[Bool.and_eq_true] at hg
  have g1:=Nat.eq_of_beq_eq_true hg.1
  have g2:=Nat.eq_of_beq_eq_true hg.2
  subst g1;subst g2
  cases hd with
  |one h1 hr=>
  cases hr with
  |fam h4 hr=>
  cases hr
  obtain⟨cap,h2,h3⟩:=h1.ex
  obtain⟨σ1,e1,hK,d1⟩:=c_W (e_o hi 24) hx h3
  exact⟨σ1,e1,hK,.fam (.succ ⟨cap,h2,d1⟩ (fam (Sg.ext_trans hp e1) hpin h4)) .nil⟩
 ·obtain⟨hg,rfl,rfl,hpin,hK⟩:=a_h h
  have g1:=Nat.eq_of_beq_eq_true hg
  subst g1
  cases hd with
  |fam h4 hr=>
  cases hr
  exact⟨σ,Sg.ext_refl _,hK,.fam (fam hp hpin h4) .nil⟩
 ·exact h.elim
theorem c_7(hi:Inv w0 F0 ι H w){D:HD}{blks:List (Nat×ABlk)}{ds:List DItem}{σ:Sg}(hst:H.st=D.st)(d2:BlkD w0 F0 w ι H D.ros σ blks)(hok:okS D blks σ)(hz:t_q H σ):Inv w0 F0 (b_r w ι σ) (hpD D blks ds) w:=by
 obtain⟨hc,_⟩:=a_h hok
 simp only[Bool.and_eq_true] at hc
 refine⟨?_,?_,?_,hi.frame,hi.size,hi.tape,hi.os,hi.output,hi.glob,⟨?_,?_,?_,?_,?_⟩⟩
 ·intro i b hg
  obtain⟨j,c,r,o,hl,hg',hr,ho,hb,hF,_⟩:=d2 (i,b) (a_1 hg)
  exact⟨r,o,by rw[a_w hl];exact hr,ho,hb,hF⟩
 ·intro i j b c r hi' hj' h1 h2
  have mi:=a_1 hi'
  have mj:=a_1 hj'
  obtain⟨ja,ca,ra,_,hla,hga,hra,_⟩:=d2 (i,b) mi
  obtain⟨jb,cb,rb,_,hlb,hgb,hrb,_⟩:=d2 (j,c) mj
  simp only at hla hlb
  rw[a_w hla] at h1
  rw[a_w hlb] at h2
  have:=hi.inj ja jb ca cb r hga hgb h1 h2
  subst this
  exact h_d hc.2.1 mi mj hla hlb
 ·intro i hle
  have hle:D.n<=i:=hle
  cases hl:a_5 σ i with
  |none=>show(match a_5 σ i with|some (.id j)=>ι j|some (.num n)=>some n|_=>none)=none;rw[hl]
  |some x=>
   have:=c_T hc.1 hl
   omega
 ·intro r o hm
  simp only[b_r] at hm
  split at hm
  ·rename_i hcase
   refine⟨hm,?_⟩
   rcases hcase with h1|⟨j,hj,hjr⟩
   ·cases hm1:ι.m r with
    |none=>rw[hm1] at h1;cases h1
    |some o'=>exact(hi.fz.frz r o' hm1).2
   ·obtain⟨b,hg,hro⟩:=hz j hj
    obtain⟨r',o',hr',_,_,hF⟩:=hi.blk j b hg
    rw[hjr] at hr';cases hr'
    rcases hF with h1|h1|h1
    ·exact .inr (.inl h1)
    ·exact .inr (.inr h1)
    ·rw[hro] at h1;cases h1.2
  ·cases hm
 ·intro k b r hk hr
  obtain⟨j,c,r',o,hl,hg',hr',ho,_⟩:=d2 (k,b) (a_1 hk)
  rw[a_w hl] at hr
  rw[hr] at hr';cases hr'
  simp only[b_r]
  rw[if_neg]
  rintro(h1|⟨j',hj',hjr⟩)
  ·rw[hi.fz.nofz j c r hg' hr] at h1;cases h1
  ·obtain⟨b',hg2,_⟩:=hz j' hj'
   have:=hi.inj j' j b' c r hg2 hg' hjr hr
   subst this
   exact j_N hc.2.2 hj' (e_P (a_1 hk) hl)
 ·intro x b r hx hr
  have hx:H.st x=some b:=by rw[hst];exact hx
  obtain⟨o,h1,h2⟩:=hi.fz.st x b r hx hr
  exact⟨o,a_6 hi h1,h2.mono (by have:=Inj.bare_mono (b_c hi (σ:=σ)) 0;rwa [Inj.bare_bare] at this)⟩
 ·intro x y r h1 h2
  exact hi.fz.stinj x y r h1 h2
 ·intro x r hr
  show ∃b,D.st x=some b
  rw[←hst];exact hi.fz.stad x r hr
theorem m_p:∀(n:Nat),fzs (m_n n)=[]
 |0=>rfl
 |n+1=>by simp only[m_n,fzs];exact m_p n
theorem m_q(H:AHeap)(n:Nat):t_q H (m_n n):=fun j hj=>by rw[m_p] at hj;cases hj
theorem c_u{pn:Nat}{fr:Fr}{H:AHeap}{n:Nat}{D:HD}{slots:List (Nat×AVal)}{blks:List (Nat×ABlk)}{ds:List DItem}(h:m_o pn fr H n D slots blks ds):Ent pn fr H (t_N n slots) (hpD D blks ds):=by
 intro w0 F0 ι w a hi hf hd
 obtain⟨hst,h⟩:=h
 obtain⟨hc,h⟩:=a_h h
 obtain⟨σ1,e1,h,d1⟩:=i_h hi hf h
 obtain⟨σ2,e2,h,d2⟩:=e_O hi h
 obtain⟨σ3,e3,h,d3⟩:=t_O hi h (Sg.ext_trans e1 e2) hd
 have e13:=Sg.ext_trans (Sg.ext_trans e1 e2) e3
 refine⟨b_r w ι σ3,h_c hi e13,c_7 hi hst (d2.mono e3) h (e13.n (m_q H pn)),⟨by rw[←hf.n];exact(Nat.eq_of_beq_eq_true hc).symm,fun t=>?_⟩,d3⟩
 cases hg:Tr.get (t_N n slots).t t with
 |none=>simp only[i_U,hg,Option.getD_none];exact .top
 |some v=>
  simp only[i_U,hg,Option.getD_some]
  exact(d1 (t,v) (e_N slots t hg)).mono (a_S (Sg.ext_trans e2 e3))
end
end Go.Sx

