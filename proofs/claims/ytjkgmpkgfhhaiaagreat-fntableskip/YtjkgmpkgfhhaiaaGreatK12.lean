/- Lemmas of this claim; the last text says what is proved. -/
import Derived.Test.YtjkgmpkgfhhaiaaGreatK11
set_option linter.all false
namespace Go.Sx
open Go
variable [Syms]
inductive Nm where
 |id (j:Nat)
 |num (n:Nat)
 |fz (j:Nat)
abbrev Sg:=List (Nat×Nm)
def look:Sg->Nat->Option Nm
 |[],_=>none
 |(k,x)::r,i=>match x with
  | .fz _=>look r i
  |x=>cond (Nat.beq k i) (some x) (look r i)
def fzs:Sg->List Nat
 |[]=>[]
 |(_,x)::r=>match x with
  | .fz j=>j::fzs r
  |_=>fzs r
def bindI (σ:Sg) (i j:Nat) (K:Sg->Prop):Prop:=match look σ i with
 |some (.id j')=>gd (Nat.beq j j') (K σ)
 |some _=>False
 |none=>K ((i,.id j)::σ)
def bindN (σ:Sg) (i n:Nat) (K:Sg->Prop):Prop:=match look σ i with
 |some (.num n')=>n=n'/\K σ
 |some _=>False
 |none=>K ((i,.num n)::σ)
open Classical in
noncomputable def comp (w:World) (ι:Inj) (σ:Sg):Inj:=⟨fun i=>match look σ i with
 |some (.id j)=>ι j
 |some (.num n)=>some n
 |_=>none,fun r=>if(ι.m r).isSome=true\/∃j∈fzs σ,ι j=some r then w.heap[r]? else none,ι.ad⟩
def FzOk (H:AHeap) (σ:Sg):Prop:=∀j∈fzs σ,∃b,H.get j=some b/\H.isRo j=false
structure Ex (H:AHeap) (σ σ':Sg):Prop where
 l:∀i x,look σ i=some x->look σ' i=some x
 z:∀j∈fzs σ,j∈fzs σ'
 n:FzOk H σ->FzOk H σ'
theorem Sg.ext_refl {H:AHeap} (σ:Sg):Ex H σ σ:=⟨fun _ _ h=>h,fun _ h=>h,fun h=>h⟩
theorem Sg.ext_trans {H:AHeap} {a b c:Sg} (h:Ex H a b) (h':Ex H b c):Ex H a c:=⟨fun i x hx=>h'.l i x (h.l i x hx),fun j hj=>h'.z j (h.z j hj),fun hn=>h'.n (h.n hn)⟩
theorem comp_le {H:AHeap} {w:World} {ι:Inj} {σ σ':Sg} (h:Ex H σ σ'):(comp w ι σ).le (comp w ι σ'):=by
 refine⟨fun i r hr=>?_,fun r o hr=>?_,fun _ _ h=>h⟩
 ·show(match look σ' i with|some (.id j)=>ι j|some (.num n)=>some n|_=>none)=_
  have hr:(match look σ i with|some (.id j)=>ι j|some (.num n)=>some n|_=>none)=some r:=hr
  cases hl:look σ i with
  |none=>rw[hl] at hr;cases hr
  |some x=>rw[hl] at hr;rw[h.l i x hl];exact hr
 ·simp only[comp] at hr⊢
  split at hr
  ·rename_i hc
   rw[if_pos]
   ·exact hr
   ·rcases hc with hc|⟨j,hj,hc⟩
    ·exact .inl hc
    ·exact .inr ⟨j,h.z j hj,hc⟩
  ·cases hr
theorem look_ne {σ:Sg} {k i:Nat} {x:Nm} (h:k≠i):look ((k,x)::σ) i=look σ i:=by
 simp only[look]
 cases x<;>simp[beq_false h]
theorem look_fz {σ:Sg} {k i j:Nat}:look ((k,.fz j)::σ) i=look σ i:=by simp[look]
theorem fzs_cons {σ:Sg} {i j:Nat}:fzs ((i,.id j)::σ)=fzs σ:=by simp[fzs]
theorem fzs_num {σ:Sg} {i j:Nat}:fzs ((i,.num j)::σ)=fzs σ:=by simp[fzs]
theorem ext_id {H:AHeap} {σ:Sg} {i j:Nat} (h:look σ i=none):Ex H σ ((i,.id j)::σ):=by
 refine⟨fun k y hk=>?_,fun k hk=>by rw[fzs_cons];exact hk,fun hn k hk=>hn k (by rw[fzs_cons] at hk;exact hk)⟩
 by_cases e:i=k
 ·subst e;rw[h] at hk;cases hk
 ·rw[look_ne e];exact hk
theorem ext_num {H:AHeap} {σ:Sg} {i j:Nat} (h:look σ i=none):Ex H σ ((i,.num j)::σ):=by
 refine⟨fun k y hk=>?_,fun k hk=>by rw[fzs_num];exact hk,fun hn k hk=>hn k (by rw[fzs_num] at hk;exact hk)⟩
 by_cases e:i=k
 ·subst e;rw[h] at hk;cases hk
 ·rw[look_ne e];exact hk
theorem ext_fz {H:AHeap} {σ:Sg} {i j:Nat} {b:ABlk} (hg:H.get j=some b) (hro:(!H.isRo j)=true):Ex H σ ((i,.fz j)::σ):=⟨fun k y hk=>by rw[look_fz];exact hk,fun k hk=>by simp only[fzs];exact List.mem_cons_of_mem _ hk,fun hn k hk=>by
 simp only[fzs] at hk
 rcases List.mem_cons.1 hk with rfl|hk
 ·exact⟨b,hg,by simpa using hro⟩
 ·exact hn k hk⟩
theorem look_id {σ:Sg} {i j:Nat}:look ((i,.id j)::σ) i=some (.id j):=by simp[look,beq_self]
theorem look_num {σ:Sg} {i j:Nat}:look ((i,.num j)::σ) i=some (.num j):=by simp[look,beq_self]
theorem bindI_ok {H:AHeap} {σ:Sg} {i j:Nat} {K:Sg->Prop} (h:bindI σ i j K):∃σ',Ex H σ σ'/\K σ'/\look σ' i=some (.id j):=by
 unfold bindI at h
 split at h
 ·rename_i j' hl
  obtain⟨hb,hK⟩:=gd_out h
  rw[Nat.eq_of_beq_eq_true hb]
  exact⟨σ,Sg.ext_refl _,hK,hl⟩
 ·exact h.elim
 ·rename_i hl
  exact⟨_,ext_id hl,h,look_id⟩
theorem bindN_ok {H:AHeap} {σ:Sg} {i n:Nat} {K:Sg->Prop} (h:bindN σ i n K):∃σ',Ex H σ σ'/\K σ'/\look σ' i=some (.num n):=by
 unfold bindN at h
 split at h
 ·rename_i n' hl
  obtain⟨rfl,hK⟩:=h
  exact⟨σ,Sg.ext_refl _,hK,hl⟩
 ·exact h.elim
 ·rename_i hl
  exact⟨_,ext_num hl,h,look_num⟩
theorem comp_id {w:World} {ι:Inj} {σ:Sg} {i j:Nat} (h:look σ i=some (.id j)):(comp w ι σ) i=ι j:=by
 show(match look σ i with|some (.id j)=>ι j|some (.num n)=>some n|_=>none)=_
 rw[h]
theorem comp_num {w:World} {ι:Inj} {σ:Sg} {i n:Nat} (h:look σ i=some (.num n)):(comp w ι σ) i=some n:=by
 show(match look σ i with|some (.id j)=>ι j|some (.num n)=>some n|_=>none)=_
 rw[h]
def mC:ACap->ACap->Sg->(Sg->Prop)->Prop
 |_,.x,σ,K=>K σ
 | .n k,.n k',σ,K=>k=k'/\K σ
 | .n k,.u i 0,σ,K=>gd (Nat.blt k 9223372036854775808) (bindN σ i k K)
 | .u j s,.u i s',σ,K=>gd (Nat.beq s s') (bindI σ i j K)
 |_,_,_,_=>False
def mT:ATot->ATot->Sg->(Sg->Prop)->Prop
 | .n k,.n k',σ,K=>gd (Nat.ble k' k) (K σ)
 | .n k,.u i m,σ,K=>match look σ i with
   |some (.num d)=>d*m<=k/\K σ
   |_=>False
 | .u j m,.u i m',σ,K=>gd (Nat.beq m m') (bindI σ i j K)
 | .u _ _,.n k,σ,K=>gd (Nat.beq k 0) (K σ)
theorem mC_ok {H:AHeap} {w:World} {ι:Inj} {a t:ACap} {σ:Sg} {K:Sg->Prop} {c:Nat} (h:mC a t σ K) (ha:a.den ι c):∃σ',Ex H σ σ'/\K σ'/\t.den (comp w ι σ') c:=by
 unfold mC at h
 split at h
 ·exact⟨σ,Sg.ext_refl _,h,trivial⟩
 ·obtain⟨rfl,hK⟩:=h
  exact⟨σ,Sg.ext_refl _,hK,ha⟩
 ·obtain⟨hk,h⟩:=gd_out h
  obtain⟨σ',h1,h2,h3⟩:=bindN_ok h
  cases ha
  exact⟨σ',h1,h2,_,comp_num h3,blt_lt hk,rfl⟩
 ·obtain⟨hb,h⟩:=gd_out h
  obtain⟨σ',h1,h2,h3⟩:=bindI_ok h
  obtain⟨d,hd,h63,e⟩:=ha
  exact⟨σ',h1,h2,d,by rw[comp_id h3];exact hd,h63,by rw[←Nat.eq_of_beq_eq_true hb];exact e⟩
 ·exact h.elim
theorem mT_ok {H:AHeap} {w:World} {ι:Inj} {a t:ATot} {σ:Sg} {K:Sg->Prop} {c:Nat} (h:mT a t σ K) (ha:a.ok ι c):∃σ',Ex H σ σ'/\K σ'/\t.ok (comp w ι σ') c:=by
 unfold mT at h
 split at h
 ·obtain⟨h1,h2⟩:=gd_out h
  exact⟨σ,Sg.ext_refl _,h2,Nat.le_trans (ble_le h1) ha⟩
 ·split at h
  ·rename_i d hd
   exact⟨σ,Sg.ext_refl _,h.2,d,comp_num hd,Nat.le_trans h.1 ha⟩
  ·exact h.elim
 ·obtain⟨hb,h⟩:=gd_out h
  obtain⟨σ',h1,h2,h3⟩:=bindI_ok h
  obtain⟨d,hd,e⟩:=ha
  exact⟨σ',h1,h2,d,by rw[comp_id h3];exact hd,by rw[←Nat.eq_of_beq_eq_true hb];exact e⟩
 ·obtain⟨hb,hK⟩:=gd_out h
  refine⟨σ,Sg.ext_refl _,hK,?_⟩
  rw[Nat.eq_of_beq_eq_true hb]
  exact Nat.zero_le _
def SubA (p:Nat) (a b:AVal):Prop:=∀(ι ι':Inj) (v:Value),(ι.bare p).le ι'->Den ι a v->Den ι' b v
def SubL (p:Nat) (a b:List AVal):Prop:=∀(ι ι':Inj) (v:List Value),(ι.bare p).le ι'->DenL ι a v->DenL ι' b v
def notIn:Nat->List (Nat×AVal)->Bool
 |_,[]=>true
 |k,(i,_)::r=> !(Nat.beq k i)&&notIn k r
def SubF (f f':Nat->AVal) (n:Nat) (us:List (Nat×AVal)):Prop:=∀k,k<n->notIn k us=true->SubA 0 (f k) (f' k)
def SubW (f f':Nat->List AVal) (n:Nat):Prop:=∀k,k<n->SubL 0 (f k) (f' k)
def fnB:Fn->Fn->Bool
 | .func f,.func g=>Nat.beq f g
 |_,_=>false
theorem fnB_eq {f g:Fn} (h:fnB f g=true):f=g:=by
 cases f<;>cases g<;>simp only[fnB] at h<;>first|(rw[Nat.eq_of_beq_eq_true h])|cases h
def litM (v v':Value) (p:Prop):Prop:=
 match v,v' with
 | .pointer none,.pointer none=>p
 | .nilIface,.nilIface=>p
 | .slice none 0 0,.slice none 0 0=>p
 |v,v'=>v=v'/\p
theorem litM_out {v v':Value} {p:Prop} (h:litM v v' p):v=v'/\p:=by
 unfold litM at h
 split at h
 ·exact⟨rfl,h⟩
 ·exact⟨rfl,h⟩
 ·exact⟨rfl,h⟩
 ·exact h
def fzL:List Nat->Sg->Sg
 |[],σ=>σ
 |j::l,σ=>(0,.fz j)::fzL l σ
def fzAll (H:AHeap) (ks:List Nat):Nat->List Nat
 |0=>[]
 |n+1=>match H.get n with
  |some _=>cond (hasN H.ros n) (fzAll H ks n) (cond (hasN ks n) (fzAll H ks n) (n::fzAll H ks n))
  |none=>fzAll H ks n
def kimg (σ:Sg):List Nat->List Nat
 |[]=>[]
 |k::r=>match look σ k with
  |some (.id j)=>j::kimg σ r
  |_=>kimg σ r
theorem fzAll_ok {H:AHeap} {ks:List Nat}:∀{n j:Nat},j∈fzAll H ks n->∃b,H.get j=some b/\(!H.isRo j)=true
 |0,j,h=>by cases h
 |n+1,j,h=>by
  simp only[fzAll] at h
  split at h
  ·rename_i b hb
   cases hr:hasN H.ros n with
   |true=>rw[hr,cond_true] at h;exact fzAll_ok h
   |false=>
    rw[hr,cond_false] at h
    cases hk:hasN ks n with
    |true=>rw[hk,cond_true] at h;exact fzAll_ok h
    |false=>
     rw[hk,cond_false] at h
     rcases List.mem_cons.1 h with rfl|h
     ·exact⟨b,hb,by simp[AHeap.isRo,hr]⟩
     ·exact fzAll_ok h
  ·exact fzAll_ok h
theorem fzL_ex {H:AHeap} {σ:Sg}:∀{l:List Nat},(∀j∈l,∃b,H.get j=some b/\(!H.isRo j)=true)->Ex H σ (fzL l σ)
 |[],_=>Sg.ext_refl _
 |j::l,h=>by
  obtain⟨b,hb,hr⟩:=h j (List.mem_cons_self ..)
  exact Sg.ext_trans (fzL_ex fun k hk=>h k (List.mem_cons_of_mem _ hk)) (ext_fz hb hr)
structure MPok (H:AHeap) (a:AVal) (q:MP) (σ:Sg):Prop where
 out:∀(w0:World) (F0:Fp) (w:World) (ι:Inj) (v:Value),Inv w0 F0 ι H w->Den ι a v->q.p (comp w ι σ) v
abbrev MV:=AVal->AVal->Sg->(Sg->Prop)->Prop
def mLs (f:MV):List AVal->List AVal->Sg->(Sg->Prop)->Prop
 |[],[],σ,K=>K σ
 |a::as,t::ts,σ,K=>f a t σ (fun σ=>mLs f as ts σ K)
 |_,_,_,_=>False
def mUs (f:MV) (g:Nat->AVal) (n:Nat):List (Nat×AVal)->Sg->(Sg->Prop)->Prop
 |[],σ,K=>K σ
 |(i,v)::r,σ,K=>gd (Nat.blt i n&&notIn i r) (f v (g i) σ (fun σ=>mUs f g n r σ K))
def mW1 (f:MV) (g:Nat->List AVal) (wd k n:Nat) (xs:List AVal) (σ:Sg) (K:Sg->Prop):Prop:=
 match xs with
 |[]=>n=k/\K σ
 |x::r=>n=k+1/\gd (Nat.beq (Nat.succ r.length) wd) (mLs f (x::r) (g k) σ K)
def mYs (f:MV) (g:Nat->AVal):List AVal->Nat->Sg->(Sg->Prop)->Prop
 |[],_,σ,K=>K σ
 |v::r,i,σ,K=>f v (g i) σ (fun σ=>mYs f g r (Nat.succ i) σ K)
def mV (H:AHeap):Nat->MV
 |0,_,_,_,_=>False
 |n+1,a,t,σ,K=>
  match t with
  | .top=>K σ
  | .lit v'=>match a with
    | .lit v=>litM v v' (K σ)
    | .ite c x y=>br c (mV H n x (.lit v') σ K) (mV H n y (.lit v') σ K)
    |_=>False
  | .str l'=>match a with
    | .str l=>l=l'/\K σ
    | .ite c x y=>br c (mV H n x (.str l') σ K) (mV H n y (.str l') σ K)
    |_=>False
  | .rope r'=>match a with| .rope r=>gd (eqN r r') (K σ)|_=>False
  | .ptr i o'=>match a with
    | .ptr j o=>gd (Nat.beq o o') (bindI σ i j K)
    | .ite c x y=>br c (mV H n x (.ptr i o') σ K) (mV H n y (.ptr i o') σ K)
    |_=>False
  | .slc i o' l' c'=>match a with| .slc j o l c=>gd (Nat.beq o o'&&Nat.beq l l') (bindI σ i j (fun σ=>mC c c' σ K))|_=>False
  | .rsl i p' m' c'=>match a with| .rsl j p m c=>gd (eqN p p'&&eqN m m') (bindI σ i j (fun σ=>mC c c' σ K))|_=>False
  | .map i=>match a with| .map j=>bindI σ i j K|_=>False
  | .ifc t' v'=>match a with| .ifc t v=>gd (Nat.beq t t') (mV H n v v' σ K)|_=>False
  | .fn f' x' y'=>match a with| .fn f x y=>gd (fnB f f') (mLs (mV H n) x x' σ (fun σ=>mLs (mV H n) y y' σ K))|_=>False
  | .agg x'=>match a with| .agg x=>mLs (mV H n) x x' σ K|_=>False
  | .tup x'=>match a with| .tup x=>mLs (mV H n) x x' σ K|_=>False
  | .sp x' o'=>match a with
    | .sp x o=>gd (sidB x x'&&Nat.beq o o') (K σ)
    | .ite c x y=>br c (mV H n x (.sp x' o') σ K) (mV H n y (.sp x' o') σ K)
    |_=>False
  | .ssl x' o' l'=>match a with| .ssl x o l=>gd (sidB x x'&&(Nat.beq o o'&&Nat.beq l l')) (K σ)|_=>False
  | .smp x'=>match a with| .smp x=>gd (sidB x x') (K σ)|_=>False
  | .by_ l'=>match a with
    | .by_ l=>l=l'/\K σ
    | .slc j off m _=>match H.get j with
      |some (.bytes l _ _)=>gd (!H.isRo j) (off+m<=l.length/\(l.drop off).take m=l'/\K ((0,.fz j)::σ))
      |_=>False
    | .lit (.slice none 0 0)=>l'=[]/\K σ
    | .e0=>l'=[]/\K σ
    | .ite c x y=>br c (mV H n x (.by_ l') σ K) (mV H n y (.by_ l') σ K)
    |_=>False
  | .famx f' n'=>match a with
    | .famx f m=>m=n'/\SubF f f' m []/\K σ
    | .slc j o m (.n c)=>gd (Nat.beq c m) (mV H n (.slc j o m (.n c)) (.fam f' n') σ K)
    |_=>False
  | .fmw f' wd' n'=>match a with
    | .fmw f wd m=>gd (Nat.beq wd wd') (m=n'/\SubW f f' m/\K σ)
    | .slc j 0 m _=>match H.get j with
      |some (.famw f wd k ys _ _)=>gd (!H.isRo j&&Nat.beq wd wd') (m=n'/\SubW f f' k/\mW1 (mV H n) f' wd k n' ys σ (fun σ=>K ((0,.fz j)::σ)))
      |some (.row cs _ _)=>gd (!H.isRo j) (m=n'/\mW1 (mV H n) f' wd' 0 n' cs σ (fun σ=>K ((0,.fz j)::σ)))
      |_=>False
    | .lit (.slice none 0 0)=>n'=0/\K σ
    | .e0=>n'=0/\K σ
    | .ite c x y=>br c (mV H n x (.fmw f' wd' n') σ K) (mV H n y (.fmw f' wd' n') σ K)
    |_=>False
  | .fam f' n'=>match a with
    | .fam f m=>m=n'/\SubF f f' m []/\K σ
    | .famx f m=>m=n'/\SubF f f' m []/\K σ
    | .lit (.slice none 0 0)=>n'=0/\K σ
    | .e0=>n'=0/\K σ
    | .slc j 0 m _=>match H.get j with
      |some (.fam f k us ys _ _)=>gd (!H.isRo j) (m=n'/\m=k+ys.length/\SubF f f' k us/\mUs (mV H n) f' k us σ (fun σ=>mYs (mV H n) f' ys k σ (fun σ=>K ((0,.fz j)::σ))))
      |some (.row cs _ _)=>gd (!H.isRo j) (m=n'/\m=cs.length/\mYs (mV H n) f' cs 0 σ (fun σ=>K ((0,.fz j)::σ)))
      |_=>False
    |_=>False
  | .fpt cs' o'=>match a with
    | .fpt cs o=>o=o'/\mLs (mV H n) cs cs' σ K
    | .ptr j o=>match H.get j with
      |some (.row cs _ _)=>gd (!H.isRo j) (o=o'/\mLs (mV H n) cs cs' σ (fun σ=>K ((0,.fz j)::σ)))
      |_=>False
    |_=>False
  | .ite c x y=>br c (mV H n a x σ K) (mV H n a y σ K)
  | .mp q=>MPok H a q (fzL (fzAll H (kimg σ q.kp) H.next) σ)/\K (fzL (fzAll H (kimg σ q.kp) H.next) σ)
  | .e0=>match a with
    | .e0=>K σ
    | .slc _ _ m _=>m=0/\K σ
    | .lit (.slice none m _)=>m=0/\K σ
    | .by_ l=>l=[]/\K σ
    | .fam _ m=>m=0/\K σ
    |_=>False
  |_=>False
section
variable {w0 w:World} {F0:Fp} {ι:Inj} {H:AHeap}
theorem comp_m (hi:Inv w0 F0 ι H w) {σ:Sg} {r:Nat} {o:Obj} (h:ι.m r=some o):(comp w ι σ).m r=some o:=by
 simp only[comp]
 rw[if_pos (.inl (by rw[h];rfl))]
 exact(hi.fz.frz r o h).1
theorem comp_bare (hi:Inv w0 F0 ι H w) {σ:Sg}:(ι.bare 0).le (comp w ι σ):=⟨fun i r h=>by simp[Inj.bare] at h,fun r o h=>comp_m hi h,fun _ _ h=>h⟩
theorem comp_fz {σ:Sg} {j r:Nat} {o:Obj} (hm:j∈fzs σ) (hr:ι j=some r) (ho:w.heap[r]?=some o):(comp w ι σ).m r=some o:=by
 simp only[comp]
 rw[if_pos (.inr ⟨j,hm,hr⟩)]
 exact ho
theorem fzs_mem {σ:Sg} {i j:Nat}:j∈fzs ((i,.fz j)::σ):=by simp[fzs]
def MOk (H:AHeap) (w:World) (ι:Inj) (f:MV):Prop:=∀{a t σ K v},f a t σ K->Den ι a v->∃σ',Ex H σ σ'/\K σ'/\Den (comp w ι σ') t v
theorem mLs_ok {f:MV} (hf:MOk H w ι f):∀{as ts:List AVal} {σ:Sg} {K:Sg->Prop} {vs:List Value},mLs f as ts σ K->DenL ι as vs->∃σ',Ex H σ σ'/\K σ'/\DenL (comp w ι σ') ts vs
 |[],[],σ,K,vs,h,hd=>by cases hd;exact⟨σ,Sg.ext_refl _,h,.nil⟩
 |a::as,t::ts,σ,K,vs,h,hd=>by
  cases hd with
  |cons h1 h2=>
  obtain⟨σ1,e1,h,d1⟩:=hf h h1
  obtain⟨σ2,e2,hK,d2⟩:=mLs_ok hf h h2
  exact⟨σ2,Sg.ext_trans e1 e2,hK,.cons (d1.mono (comp_le e2)) d2⟩
 |[],_::_,_,_,_,h,_=>h.elim
 |_::_,[],_,_,_,h,_=>h.elim
theorem notIn_ne:∀{us:List (Nat×AVal)} {k:Nat},notIn k us=true->∀x∈us,k≠x.1
 |(i,v)::r,k,h,x,hx=>by
  simp only[notIn,Bool.and_eq_true,Bool.not_eq_true'] at h
  rcases List.mem_cons.1 hx with rfl|hx
  ·intro e
   rw[e,beq_self] at h
   cases h.1
  ·exact notIn_ne h.2 x hx
theorem famAt_no {f:Nat->AVal}:∀{us:List (Nat×AVal)} {k:Nat} {v:Value},notIn k us=true->Den ι (famAt f us k) v->Den ι (f k) v
 |[],k,v,_,h=>h
 |(i,u)::r,k,v,hn,h=>by
  simp only[notIn,Bool.and_eq_true,Bool.not_eq_true'] at hn
  cases h with
  |ite ht hf=>exact famAt_no hn.2 (hf hn.1)
theorem mUs_ok {f:MV} (hf:MOk H w ι f) {g:Nat->AVal} {n:Nat} {vs:List Value} (hn:vs.length=n):∀{us:List (Nat×AVal)} {σ:Sg} {K:Sg->Prop} {f0:Nat->AVal},mUs f g n us σ K->(∀k,notIn k us=false->∀x,vs[k]?=some x->Den ι (famAt f0 us k) x)->
 ∃σ',Ex H σ σ'/\K σ'/\∀k,notIn k us=false->∀x,vs[k]?=some x->Den (comp w ι σ') (g k) x
 |[],σ,K,f0,h,_=>⟨σ,Sg.ext_refl _,h,fun k hk=>by cases hk⟩
 |(i,v)::r,σ,K,f0,h,hv=>by
  obtain⟨hc,h⟩:=gd_out h
  simp only[Bool.and_eq_true] at hc
  have hlt:=blt_lt hc.1
  have hlt':i<vs.length:=by omega
  have hi:=hv i (by simp[notIn,beq_self]) vs[i] (List.getElem?_eq_getElem hlt')
  have hi':Den ι v vs[i]:=by
   simp only[famAt] at hi
   cases hi with
   |ite ht _=>exact ht (beq_self i)
  obtain⟨σ1,e1,h,d1⟩:=hf h hi'
  obtain⟨σ2,e2,hK,d2⟩:=mUs_ok hf hn (f0:=f0) h (fun k hk x hx=>by
   have hne:k≠i:=fun e=>by rw[e] at hk;rw[hk] at hc;cases hc.2
   have:=hv k (by simp[notIn,hk]) x hx
   simp only[famAt] at this
   cases this with
   |ite _ hf'=>exact hf' (beq_false hne))
  refine⟨σ2,Sg.ext_trans e1 e2,hK,fun k hk x hx=>?_⟩
  by_cases e:k=i
  ·subst e
   rw[List.getElem?_eq_getElem hlt'] at hx
   cases hx
   exact d1.mono (comp_le e2)
  ·refine d2 k ?_ x hx
   simpa[notIn,beq_false e] using hk
theorem mYs_ok {f:MV} (hf:MOk H w ι f) {g:Nat->AVal}:∀{ys:List AVal} {i:Nat} {σ:Sg} {K:Sg->Prop} {vs:List Value},mYs f g ys i σ K->DenL ι ys vs->∃σ',Ex H σ σ'/\K σ'/\∀k x,vs[k]?=some x->Den (comp w ι σ') (g (i+k)) x
 |[],i,σ,K,vs,h,hd=>by cases hd;exact⟨σ,Sg.ext_refl _,h,fun k x hk=>by simp at hk⟩
 |v::r,i,σ,K,vs,h,hd=>by
  cases hd with
  |cons h1 h2=>
  obtain⟨σ1,e1,h,d1⟩:=hf h h1
  obtain⟨σ2,e2,hK,d2⟩:=mYs_ok hf h h2
  refine⟨σ2,Sg.ext_trans e1 e2,hK,fun k x hk=>?_⟩
  cases k with
  |zero=>simp at hk;subst hk;exact d1.mono (comp_le e2)
  |succ k=>
   have:=d2 k x (by simpa using hk)
   have e:Nat.succ i+k=i+(k+1):=by omega
   rwa [e] at this
theorem mW1_ok {f:MV} (hf:MOk H w ι f) {g:Nat->List AVal} {wd k n:Nat} {xs:List AVal} {σ:Sg} {K:Sg->Prop} {vs yv:List Value} (h:mW1 f g wd k n xs σ K) (hn:vs.length=k*wd) (hy:DenL ι xs yv) (hv:∀i,i<k->∀σ,DenL (comp w ι σ) (g i) ((vs.drop (i*wd)).take wd)):
 ∃σ',Ex H σ σ'/\K σ'/\(vs++yv).length=n*wd/\∀i,i<n->DenL (comp w ι σ') (g i) (((vs++yv).drop (i*wd)).take wd):=by
 have key:∀i,i<k->(((vs++yv).drop (i*wd)).take wd)=((vs.drop (i*wd)).take wd):=fun i hi=>by
  have:(i+1)*wd<=k*wd:=Nat.mul_le_mul_right _ hi
  rw[Nat.succ_mul] at this
  rw[List.drop_append_of_le_length (by omega),List.take_append_of_le_length (by simp;omega)]
 unfold mW1 at h
 split at h
 ·obtain⟨rfl,hK⟩:=h
  cases hy
  exact⟨σ,Sg.ext_refl _,hK,by simpa using hn,fun i hi=>by rw[key i hi];exact hv i hi σ⟩
 ·rename_i x r
  obtain⟨rfl,h⟩:=h
  obtain⟨hl,h⟩:=gd_out h
  have hl:=Nat.eq_of_beq_eq_true hl
  obtain⟨σ',e,hK,d⟩:=mLs_ok hf h hy
  have hyl:=hy.length
  simp only[List.length_cons] at hyl
  refine⟨σ',e,hK,by rw[List.length_append,hn,Nat.succ_mul];omega,fun i hi=>?_⟩
  by_cases hik:i<k
  ·rw[key i hik];exact hv i hik σ'
  ·have:i=k:=by omega
   subst this
   rw[←hn,List.drop_left,List.take_of_length_le (by omega)]
   exact d
theorem fam_join {f g:Nat->AVal} {n:Nat} {us:List (Nat×AVal)} {vs yv:List Value} {ι2:Inj} (hn:vs.length=n) (hv:∀k v,vs[k]?=some v->Den ι (famAt f us k) v) (hs:SubF f g n us) (hb:(ι.bare 0).le ι2)
 (hu:∀k,notIn k us=false->∀x,vs[k]?=some x->Den ι2 (g k) x) (hy:∀k x,yv[k]?=some x->Den ι2 (g (n+k)) x):∀k v,(vs++yv)[k]?=some v->Den ι2 (g k) v:=by
 intro k v hk
 by_cases hlt:k<vs.length
 ·rw[List.getElem?_append_left hlt] at hk
  cases hnk:notIn k us with
  |true=>exact hs k (by omega) hnk ι ι2 v hb (famAt_no hnk (hv k v hk))
  |false=>exact hu k hnk v hk
 ·rw[List.getElem?_append_right (by omega)] at hk
  have:=hy _ _ hk
  have e:n+(k-vs.length)=k:=by omega
  rwa [e] at this
theorem mV_ok (hi:Inv w0 F0 ι H w):∀(n:Nat),MOk H w ι (mV H n):=by
 intro n
 induction n with
 |zero=>intro a t σ K v h;exact h.elim
 |succ n ih=>
  intro a t σ K v h hd
  cases t<;>simp only[mV] at h<;>try exact h.elim
  case top=>exact⟨σ,Sg.ext_refl _,h,.top⟩
  case lit=>
   split at h<;>try exact h.elim
   ·obtain⟨rfl,hK⟩:=litM_out h
    cases hd
    exact⟨σ,Sg.ext_refl _,hK,.lit⟩
   ·cases hd with
    |ite ht hf=>
    rcases br_out h with⟨hc,h⟩|⟨hc,h⟩
    ·exact ih h (ht hc)
    ·exact ih h (hf hc)
  case str=>
   split at h<;>try exact h.elim
   ·obtain⟨rfl,hK⟩:=h
    cases hd
    exact⟨σ,Sg.ext_refl _,hK,.str⟩
   ·cases hd with
    |ite ht hf=>
    rcases br_out h with⟨hc,h⟩|⟨hc,h⟩
    ·exact ih h (ht hc)
    ·exact ih h (hf hc)
  case rope=>
   split at h<;>try exact h.elim
   obtain⟨hb,hK⟩:=gd_out h
   rw[←eqN_eq hb]
   cases hd
   exact⟨σ,Sg.ext_refl _,hK,.rope⟩
  case ptr=>
   split at h<;>try exact h.elim
   ·obtain⟨he,g⟩:=gd_out h
    clear h
    have he:=Nat.eq_of_beq_eq_true he
    subst he
    obtain⟨σ',h1,h2,h3⟩:=bindI_ok g
    cases hd with
    |ptr hr=>exact⟨σ',h1,h2,.ptr (by rw[comp_id h3];exact hr)⟩
   ·cases hd with
    |ite ht hf=>
    rcases br_out h with⟨hc,h⟩|⟨hc,h⟩
    ·exact ih h (ht hc)
    ·exact ih h (hf hc)
  case slc=>
   split at h<;>try exact h.elim
   obtain⟨he,g⟩:=gd_out h
   clear h
   simp only[Bool.and_eq_true] at he
   have h1:=Nat.eq_of_beq_eq_true he.1
   have h2:=Nat.eq_of_beq_eq_true he.2
   subst h1;subst h2
   obtain⟨σ',h1,h2,h3⟩:=bindI_ok g
   cases hd with
   |slc hr hl ho hc=>
    obtain⟨σ2,e2,hK,hc2⟩:=mC_ok h2 hc
    exact⟨σ2,Sg.ext_trans h1 e2,hK,.slc (by rw[comp_id (e2.l _ _ h3)];exact hr) hl ho hc2⟩
  case rsl=>
   split at h<;>try exact h.elim
   obtain⟨hb,h⟩:=gd_out h
   simp only[Bool.and_eq_true] at hb
   rw[←eqN_eq hb.1,←eqN_eq hb.2]
   obtain⟨σ',h1,h2,h3⟩:=bindI_ok h
   cases hd with
   |rsl hr hl ho hc=>
    obtain⟨σ2,e2,hK,hc2⟩:=mC_ok h2 hc
    exact⟨σ2,Sg.ext_trans h1 e2,hK,.rsl (by rw[comp_id (e2.l _ _ h3)];exact hr) hl ho hc2⟩
  case map=>
   split at h<;>try exact h.elim
   obtain⟨σ',h1,h2,h3⟩:=bindI_ok h
   cases hd with
   |map hr=>exact⟨σ',h1,h2,.map (by rw[comp_id h3];exact hr)⟩
  case ifc=>
   split at h<;>try exact h.elim
   obtain⟨hb,h⟩:=gd_out h
   rw[←Nat.eq_of_beq_eq_true hb]
   cases hd with
   |ifc hv=>
    obtain⟨σ',h1,h2,h3⟩:=ih h hv
    exact⟨σ',h1,h2,.ifc h3⟩
  case fn=>
   split at h<;>try exact h.elim
   obtain⟨he,g⟩:=gd_out h
   clear h
   have he:=fnB_eq he
   subst he
   cases hd with
   |fn ha hb=>
    obtain⟨σ1,e1,h,d1⟩:=mLs_ok ih g ha
    obtain⟨σ2,e2,hK,d2⟩:=mLs_ok ih h hb
    exact⟨σ2,Sg.ext_trans e1 e2,hK,.fn (d1.mono (comp_le e2)) d2⟩
  case agg=>
   split at h<;>try exact h.elim
   cases hd with
   |agg ha=>
    obtain⟨σ1,e1,h,d1⟩:=mLs_ok ih h ha
    exact⟨σ1,e1,h,.agg d1⟩
  case tup=>
   split at h<;>try exact h.elim
   cases hd with
   |tup ha=>
    obtain⟨σ1,e1,h,d1⟩:=mLs_ok ih h ha
    exact⟨σ1,e1,h,.tup d1⟩
  case sp=>
   split at h<;>try exact h.elim
   ·obtain⟨he,hK⟩:=gd_out h
    simp only[Bool.and_eq_true] at he
    have h1:=sidB_eq he.1
    have h2:=Nat.eq_of_beq_eq_true he.2
    subst h1;subst h2
    cases hd with
    |sp had=>exact⟨σ,Sg.ext_refl _,hK,.sp (ι:=comp w ι σ) had⟩
   ·cases hd with
    |ite ht hf=>
    rcases br_out h with⟨hc,h⟩|⟨hc,h⟩
    ·exact ih h (ht hc)
    ·exact ih h (hf hc)
  case ssl=>
   split at h<;>try exact h.elim
   obtain⟨he,hK⟩:=gd_out h
   simp only[Bool.and_eq_true] at he
   have h1:=sidB_eq he.1
   have h2:=Nat.eq_of_beq_eq_true he.2.1
   have h3:=Nat.eq_of_beq_eq_true he.2.2
   subst h1;subst h2;subst h3
   cases hd with
   |ssl had hl=>exact⟨σ,Sg.ext_refl _,hK,.ssl (ι:=comp w ι σ) had hl⟩
  case smp=>
   split at h<;>try exact h.elim
   obtain⟨he,hK⟩:=gd_out h
   have h1:=sidB_eq he
   subst h1
   cases hd with
   |smp had=>exact⟨σ,Sg.ext_refl _,hK,.smp (ι:=comp w ι σ) had⟩
  case by_ l'=>
   split at h
   ·obtain⟨rfl,hK⟩:=h
    refine⟨σ,Sg.ext_refl _,hK,?_⟩
    cases hd with
    |by_ hm hl ho=>exact .by_ (comp_m hi hm) hl ho
    |by0=>exact .by0
   ·rename_i j off m c
    split at h<;>try exact h.elim
    rename_i l e tot hg
    obtain⟨hro,hle,rfl,hK⟩:=gd_out h
    obtain⟨r,o,hr,ho,hb,_⟩:=hi.blk _ _ hg
    cases hd with
    |slc hr' hl hoff hc=>
    rename_i off' r' c'
    rw[hr] at hr';cases hr'
    obtain⟨rest,fz,rfl,ht,_⟩:=hb
    refine⟨_,ext_fz hg hro,hK,?_⟩
    have hlen:((l.drop off).take m).length=m:=by simp;omega
    rcases hoff with rfl|h0
    ·have:=Den.by_ (ι:=comp w ι ((0,.fz j)::σ)) (l:=(l.drop off').take m) (r:=r) (c:=c') (off:=off') (pre:=(l.take off').map byteV) (rest:=(l.drop (off'+m)).map byteV++rest) (e:=e) (fz:=fz) (by
      rw[comp_fz fzs_mem hr ho]
      congr 2
      have e1:l=l.take off'++((l.drop off').take m++l.drop (off'+m)):=by
       rw[←List.drop_drop,List.take_append_drop,List.take_append_drop]
      conv=>lhs;rw[e1]
      simp only[List.map_append,List.append_assoc]) (by omega) (by simp;omega)
     rw[hlen] at this
     exact this
    ·have hm0:m=0:=by omega
     subst hm0
     exact .by0
   ·obtain⟨rfl,hK⟩:=h
    cases hd;exact⟨σ,Sg.ext_refl _,hK,.by0⟩
   ·obtain⟨rfl,hK⟩:=h
    cases hd;exact⟨σ,Sg.ext_refl _,hK,.by0⟩
   ·cases hd with
    |ite ht hf=>
    rcases br_out h with⟨hc,h⟩|⟨hc,h⟩
    ·exact ih h (ht hc)
    ·exact ih h (hf hc)
   ·exact h.elim
  case famx f' n'=>
   split at h
   ·rename_i f m
    obtain⟨rfl,hs,hK⟩:=h
    refine⟨σ,Sg.ext_refl _,hK,?_⟩
    cases hd with
    |famx hd=>
    refine .famx ?_
    cases hd with
    |fam hm hn hv hl ho=>exact .fam (comp_m hi hm) hn (fun k v hk=>hs k (by have:=(List.getElem?_eq_some_iff.1 hk).1;omega) rfl _ _ _ (comp_bare hi) (hv k v hk)) hl ho
    |fam0=>exact .fam0
   ·rename_i j o m c
    obtain⟨hcm,h⟩:=gd_out h
    have hcm:=Nat.eq_of_beq_eq_true hcm
    subst hcm
    obtain⟨σ1,e1,hK,d1⟩:=ih h hd
    refine⟨σ1,e1,hK,?_⟩
    have key:∀{m c:Nat} {a:Option Addr},c=m->Den (comp w ι σ1) (.fam f' n') (.slice a m c)->Den (comp w ι σ1) (.famx f' n') (.slice a m c):=fun e d=>by
     subst e
     cases d with
     |fam h1 h2 h3 h4 h5=>exact .famx (.fam h1 h2 h3 h4 h5)
     |fam0=>exact .famx .fam0
    cases hd with
    |slc hr hl ho hc=>exact key hc d1
   ·exact h.elim
  case fmw f' wd' n'=>
   split at h
   ·rename_i f wd m
    obtain⟨hw,rfl,hs,hK⟩:=gd_out h
    have hw:=Nat.eq_of_beq_eq_true hw
    subst hw
    refine⟨σ,Sg.ext_refl _,hK,?_⟩
    cases hd with
    |fmw hm hn hv hl ho=>exact .fmw (comp_m hi hm) hn (fun k hk=>hs k hk _ _ _ (comp_bare hi) (hv k hk)) hl ho
    |fmw0=>exact .fmw0
   ·rename_i j m c
    split at h<;>try exact h.elim
    ·rename_i f wd k ys e tot hg
     obtain⟨hc,h2⟩:=gd_out h
     obtain⟨rfl,hs,h3⟩:=h2
     clear h
     simp only[Bool.and_eq_true] at hc
     have hw:=Nat.eq_of_beq_eq_true hc.2
     subst hw
     obtain⟨r,o,hr,ho,hb,_⟩:=hi.blk _ _ hg
     cases hd with
     |slc hr' hl hoff hcap=>
     rename_i off' r' c'
     rw[hr] at hr';cases hr'
     obtain⟨vs,yv,rest,rfl,hn,hv,hy,_⟩:=hb
     obtain⟨σ2,e2,hK,hlen,d2⟩:=mW1_ok ih h3 hn hy (fun i hi' σ=>hs i hi' _ _ _ (comp_bare hi) (hv i hi'))
     have hle2:(comp w ι σ2).le (comp w ι ((0,.fz j)::σ2)):=comp_le (ext_fz hg hc.1)
     refine⟨_,Sg.ext_trans e2 (ext_fz hg hc.1),hK,?_⟩
     rcases hoff with h0|h0
     ·exact .fmw (pre:=[]) (vs:=vs++yv) (rest:=rest) (comp_fz fzs_mem hr ho) hlen (fun i hi'=>(d2 i hi').mono hle2) hl h0
     ·have:m=0:=by omega
      subst this
      exact .fmw0
    ·rename_i cs e tot hg
     obtain⟨hro,h2⟩:=gd_out h
     obtain⟨rfl,h3⟩:=h2
     clear h
     obtain⟨r,o,hr,ho,hb,_⟩:=hi.blk _ _ hg
     cases hd with
     |slc hr' hl hoff hcap=>
     rename_i off' r' c'
     rw[hr] at hr';cases hr'
     obtain⟨vs,rest,rfl,hv,_⟩:=hb
     obtain⟨σ2,e2,hK,hlen,d2⟩:=mW1_ok (w:=w) (vs:=[]) ih h3 (by simp) hv (fun i hi' σ=>by omega)
     have hle2:(comp w ι σ2).le (comp w ι ((0,.fz j)::σ2)):=comp_le (ext_fz hg hro)
     refine⟨_,Sg.ext_trans e2 (ext_fz hg hro),hK,?_⟩
     rcases hoff with h0|h0
     ·exact .fmw (pre:=[]) (vs:=[]++vs) (rest:=rest) (comp_fz fzs_mem hr ho) hlen (fun i hi'=>(d2 i hi').mono hle2) hl h0
     ·have:m=0:=by omega
      subst this
      exact .fmw0
   ·obtain⟨rfl,hK⟩:=h
    cases hd;exact⟨σ,Sg.ext_refl _,hK,.fmw0⟩
   ·obtain⟨rfl,hK⟩:=h
    cases hd;exact⟨σ,Sg.ext_refl _,hK,.fmw0⟩
   ·cases hd with
    |ite ht hf=>
    rcases br_out h with⟨hc,h⟩|⟨hc,h⟩
    ·exact ih h (ht hc)
    ·exact ih h (hf hc)
   ·exact h.elim
  case fam f' n'=>
   split at h
   ·rename_i f m
    obtain⟨rfl,hs,hK⟩:=h
    refine⟨σ,Sg.ext_refl _,hK,?_⟩
    cases hd with
    |fam hm hn hv hl ho=>exact .fam (comp_m hi hm) hn (fun k v hk=>hs k (by have:=(List.getElem?_eq_some_iff.1 hk).1;omega) rfl _ _ _ (comp_bare hi) (hv k v hk)) hl ho
    |fam0=>exact .fam0
   ·rename_i f m
    obtain⟨rfl,hs,hK⟩:=h
    refine⟨σ,Sg.ext_refl _,hK,?_⟩
    cases hd with
    |famx hd=>
    cases hd with
    |fam hm hn hv hl ho=>exact .fam (comp_m hi hm) hn (fun k v hk=>hs k (by have:=(List.getElem?_eq_some_iff.1 hk).1;omega) rfl _ _ _ (comp_bare hi) (hv k v hk)) hl ho
    |fam0=>exact .fam0
   ·obtain⟨rfl,hK⟩:=h
    cases hd;exact⟨σ,Sg.ext_refl _,hK,.fam0⟩
   ·obtain⟨rfl,hK⟩:=h
    cases hd;exact⟨σ,Sg.ext_refl _,hK,.fam0⟩
   ·rename_i j m c
    split at h<;>try exact h.elim
    ·rename_i f k us ys e tot hg
     obtain⟨hro,rfl,hmk,hs,h⟩:=gd_out h
     obtain⟨r,o,hr,ho,hb,_⟩:=hi.blk _ _ hg
     cases hd with
     |slc hr' hl hoff hc=>
     rename_i off' r' c'
     rw[hr] at hr';cases hr'
     obtain⟨vs,yv,rest,rfl,hn,hv,hy,_⟩:=hb
     obtain⟨σ1,e1,h,d1⟩:=mUs_ok ih hn h (fun k _ x hx=>hv k x hx)
     obtain⟨σ2,e2,hK,d2⟩:=mYs_ok ih h hy
     have hle:(comp w ι σ1).le (comp w ι ((0,.fz j)::σ2)):=comp_le (Sg.ext_trans e2 (ext_fz hg hro))
     have hle2:(comp w ι σ2).le (comp w ι ((0,.fz j)::σ2)):=comp_le (ext_fz hg hro)
     refine⟨_,Sg.ext_trans e1 (Sg.ext_trans e2 (ext_fz hg hro)),hK,?_⟩
     rcases hoff with h0|h0
     ·refine .fam (pre:=[]) (vs:=vs++yv) (rest:=rest) (comp_fz fzs_mem hr ho) (by have:=hy.length;simp;omega) ?_ hl h0
      exact fam_join hn hv hs (comp_bare hi) (fun k hk x hx=>(d1 k hk x hx).mono hle) (fun k x hx=>(d2 k x hx).mono hle2)
     ·have h0:m=0:=by omega
      subst h0
      exact .fam0
    ·rename_i cs e tot hg
     obtain⟨hro,rfl,hmk,h⟩:=gd_out h
     obtain⟨r,o,hr,ho,hb,_⟩:=hi.blk _ _ hg
     cases hd with
     |slc hr' hl hoff hc=>
     rename_i off' r' c'
     rw[hr] at hr';cases hr'
     obtain⟨vs,rest,rfl,hv,_⟩:=hb
     obtain⟨σ2,e2,hK,d2⟩:=mYs_ok ih h hv
     have hle2:(comp w ι σ2).le (comp w ι ((0,.fz j)::σ2)):=comp_le (ext_fz hg hro)
     refine⟨_,Sg.ext_trans e2 (ext_fz hg hro),hK,?_⟩
     rcases hoff with h0|h0
     ·refine .fam (pre:=[]) (vs:=vs) (rest:=rest) (comp_fz fzs_mem hr ho) (by have:=hv.length;omega) (fun k x hx=>?_) hl h0
      have:=d2 k x hx
      rw[Nat.zero_add] at this
      exact this.mono hle2
     ·have h0:m=0:=by omega
      subst h0
      exact .fam0
   ·exact h.elim
  case fpt cs' o'=>
   split at h
   ·rename_i cs o
    obtain⟨rfl,h⟩:=h
    cases hd with
    |fpt hm hv=>
    obtain⟨σ1,e1,h,d1⟩:=mLs_ok ih h hv
    exact⟨σ1,e1,h,.fpt (comp_m hi hm) d1⟩
   ·rename_i j o
    split at h<;>try exact h.elim
    rename_i cs e tot hg
    obtain⟨hro,hoo,h2⟩:=gd_out h
    clear h
    subst hoo
    obtain⟨r,ob,hr,ho,hb,_⟩:=hi.blk _ _ hg
    cases hd with
    |ptr hr'=>
    rw[hr] at hr';cases hr'
    obtain⟨vs,rest,rfl,hv,_⟩:=hb
    obtain⟨σ1,e1,h,d1⟩:=mLs_ok ih h2 hv
    exact⟨_,Sg.ext_trans e1 (ext_fz hg hro),h,.fpt (comp_fz fzs_mem hr ho) (d1.mono (comp_le (ext_fz hg hro)))⟩
   ·exact h.elim
  case ite c x y=>
   rcases br_out h with⟨hc,h⟩|⟨hc,h⟩
   ·obtain⟨σ1,e1,hK,d1⟩:=ih h hd
    exact⟨σ1,e1,hK,.ite (fun _=>d1) (fun hc'=>by rw[hc] at hc';cases hc')⟩
   ·obtain⟨σ1,e1,hK,d1⟩:=ih h hd
    exact⟨σ1,e1,hK,.ite (fun hc'=>by rw[hc] at hc';cases hc') (fun _=>d1)⟩
  case mp q=>
   obtain⟨h1,hK⟩:=h
   exact⟨_,fzL_ex fun j hj=>fzAll_ok hj,hK,.mp (h1.out _ _ _ _ _ hi hd)⟩
  case e0=>
   split at h
   ·cases hd;exact⟨σ,Sg.ext_refl _,h,.e0⟩
   ·obtain⟨rfl,hK⟩:=h
    cases hd;exact⟨σ,Sg.ext_refl _,hK,.e0⟩
   ·obtain⟨rfl,hK⟩:=h
    cases hd;exact⟨σ,Sg.ext_refl _,hK,.e0⟩
   ·obtain⟨rfl,hK⟩:=h
    cases hd<;>exact⟨σ,Sg.ext_refl _,hK,.e0⟩
   ·obtain⟨rfl,hK⟩:=h
    cases hd<;>exact⟨σ,Sg.ext_refl _,hK,.e0⟩
   ·exact h.elim
def mE (f:MV):List (AVal×AVal×Nat)->List (AVal×AVal×Nat)->Sg->(Sg->Prop)->Prop
 |[],[],σ,K=>K σ
 |(k,v,n)::r,(k',v',n')::r',σ,K=>gd (Nat.beq n n') (f k k' σ (fun σ=>f v v' σ (fun σ=>mE f r r' σ K)))
 |_,_,_,_=>False
theorem mE_ok {f:MV} (hf:MOk H w ι f):∀{as ts:List (AVal×AVal×Nat)} {σ:Sg} {K:Sg->Prop} {vs:List MapEntry},mE f as ts σ K->EDen ι as vs->∃σ',Ex H σ σ'/\K σ'/\EDen (comp w ι σ') ts vs
 |[],[],σ,K,[],h,hd=>⟨σ,Sg.ext_refl _,h,trivial⟩
 |(k,v,n)::as,(k',v',n')::ts,σ,K,e::vs,h,hd=>by
  obtain⟨hn,h⟩:=gd_out h
  obtain⟨d1,d2,d3,d4⟩:=hd
  obtain⟨σ1,e1,h,g1⟩:=hf h d1
  obtain⟨σ2,e2,h,g2⟩:=hf h d2
  obtain⟨σ3,e3,hK,g3⟩:=mE_ok hf h d4
  exact⟨σ3,Sg.ext_trans e1 (Sg.ext_trans e2 e3),hK,g1.mono (comp_le (Sg.ext_trans e2 e3)),g2.mono (comp_le e3),by rw[←Nat.eq_of_beq_eq_true hn];exact d3,g3⟩
 |[],[],_,_,_::_,_,hd=>hd.elim
 |[],_::_,_,_,_,h,_=>h.elim
 |_::_,[],_,_,_,h,_=>h.elim
 |_::_,_::_,_,_,[],_,hd=>hd.elim
def eqIx (i:Nat):List (Nat×AVal)->Prop
 |[]=>True
 |(j,_)::r=>j=i/\eqIx i r
theorem notIn_eqIx {i q:Nat} (hq:q≠i):∀{r:List (Nat×AVal)},eqIx i r->notIn q r=true
 |[],_=>rfl
 |(j,_)::r,h=>by
  obtain⟨rfl,h⟩:=h
  simp only[notIn,beq_false hq,Bool.not_false,Bool.true_and]
  exact notIn_eqIx hq h
def mB (H:AHeap) (a t:ABlk) (σ:Sg) (K:Sg->Prop):Prop:=
 match t with
 | .row cs' e' t'=>match a with| .row cs e t=>gd (Nat.beq e e') (mLs (mV H 24) cs cs' σ (fun σ=>mT t t' σ K))|_=>False
 | .bytes l' e' t'=>match a with| .bytes l e t=>gd (Nat.beq e e') ((∃r,l=l'++r)/\mT t t' σ K)|_=>False
 | .rbytes r' e' t'=>match a with| .rbytes r e t=>gd (Nat.beq e e'&&eqN r r') (mT t t' σ K)|_=>False
 | .fam f' n' us' xs' e' t'=>match us' with
  |(i',v')::r'=>gd (nilL r'&&nilL xs') (match a with
   | .fam f k ((i,v)::r) [] e t=>gd (Nat.beq e e') (n'=k/\i=i'/\i<k/\eqIx i r/\SubF f f' k [(i,v)]/\mV H 24 v v' σ (fun σ=>mT t t' σ K))
   |_=>False)
  |[]=>gd (nilL xs') (match a with
   | .fam f k [] [] e t=>gd (Nat.beq e e') (n'<=k/\SubF f f' n' []/\mT t t' σ K)
   | .fam f k us ys e t=>gd (Nat.beq e e') (n'=k+ys.length/\SubF f f' k us/\mUs (mV H 24) f' k us σ (fun σ=>mYs (mV H 24) f' ys k σ (fun σ=>mT t t' σ K)))
   | .row cs e t=>gd (Nat.beq e e') (n'=cs.length/\mYs (mV H 24) f' cs 0 σ (fun σ=>mT t t' σ K))
   |_=>False)
 | .famw f' wd' n' xs' e' t'=>gd (nilL xs') (match a with
   | .famw f wd k ys e t=>gd (Nat.beq e e'&&Nat.beq wd wd') (SubW f f' k/\mW1 (mV H 24) f' wd k n' ys σ (fun σ=>mT t t' σ K))
   | .row cs e t=>gd (Nat.beq e e') (mW1 (mV H 24) f' wd' 0 n' cs σ (fun σ=>mT t t' σ K))
   |_=>False)
 | .map es' c'=>match a with| .map es c=>gd (Nat.beq c c') (mE (mV H 24) es es' σ K)|_=>False
 | .siter l' p'=>match a with| .siter l p=>l=l'/\p=p'/\K σ|_=>False
theorem nilL_eq {α:Type} {l:List α} (h:nilL l=true):l=[]:=by
 cases l with
 |nil=>rfl
 |cons _ _=>cases h
theorem mB_ok (hi:Inv w0 F0 ι H w) {a t:ABlk} {σ:Sg} {K:Sg->Prop} {o:Obj} (h:mB H a t σ K) (hd:BDen ι a o):∃σ',Ex H σ σ'/\K σ'/\BDen (comp w ι σ') t o:=by
 cases t with
 |row cs' e' t'=>
  simp only[mB] at h
  split at h<;>try exact h.elim
  obtain⟨hb,h⟩:=gd_out h
  obtain⟨vs,rest,rfl,hcs,ht⟩:=hd
  obtain⟨σ1,e1,h,d1⟩:=mLs_ok (mV_ok hi 24) h hcs
  obtain⟨σ2,e2,hK,d2⟩:=mT_ok h ht
  exact⟨σ2,Sg.ext_trans e1 e2,hK,vs,rest,by rw[Nat.eq_of_beq_eq_true hb],d1.mono (comp_le e2),d2⟩
 |bytes l' e' t'=>
  simp only[mB] at h
  split at h<;>try exact h.elim
  obtain⟨hb,h1⟩:=gd_out h
  obtain⟨⟨r,hl⟩,h2⟩:=h1
  subst hl
  obtain⟨rest,fz,rfl,ht,hfz⟩:=hd
  obtain⟨σ2,e2,hK,d2⟩:=mT_ok h2 ht
  have hlen:l'.length+(r.map byteV++rest).length=(l'++r).length+rest.length:=by simp;omega
  exact⟨σ2,e2,hK,r.map byteV++rest,fz,by rw[Nat.eq_of_beq_eq_true hb];simp,by rw[hlen];exact d2,by rw[hlen];exact hfz⟩
 |rbytes r' e' t'=>
  simp only[mB] at h
  split at h<;>try exact h.elim
  obtain⟨hb,h⟩:=gd_out h
  simp only[Bool.and_eq_true] at hb
  obtain⟨rest,fz,rfl,ht,hfz⟩:=hd
  obtain⟨σ2,e2,hK,d2⟩:=mT_ok h ht
  rw[←eqN_eq hb.2]
  exact⟨σ2,e2,hK,rest,fz,by rw[Nat.eq_of_beq_eq_true hb.1],d2,hfz⟩
 |fam f' n' us' xs' e' t'=>
  cases us' with
  |cons x' r'=>
   obtain⟨i',v'⟩:=x'
   simp only[mB] at h
   obtain⟨hnil,g⟩:=gd_out h
   clear h
   simp only[Bool.and_eq_true] at hnil
   have h1:=nilL_eq hnil.1
   have h2:=nilL_eq hnil.2
   subst h1;subst h2
   split at g<;>try exact g.elim
   rename_i f k i v r e t
   obtain⟨hb,rfl,rfl,hik,hr,hs,h⟩:=gd_out g
   clear g
   have hb:=Nat.eq_of_beq_eq_true hb
   subst hb
   obtain⟨vs,yv,rest,rfl,hn,hv,hy,ht⟩:=hd
   cases hy
   have hlt:i<vs.length:=by omega
   have hi':Den ι v vs[i]:=by
    have:=hv i vs[i] (List.getElem?_eq_getElem hlt)
    simp only[famAt] at this
    cases this with
    |ite ht _=>exact ht (beq_self i)
   obtain⟨σ1,e1,h,d1⟩:=mV_ok hi 24 h hi'
   obtain⟨σ3,e3,hK,d3⟩:=mT_ok h ht
   refine⟨σ3,Sg.ext_trans e1 e3,hK,vs,[],rest,by simp,hn,fun q x hx=>?_,.nil,by simpa using d3⟩
   simp only[famAt]
   refine .ite (fun hq=>?_) (fun hq=>?_)
   ·have hq:=Nat.eq_of_beq_eq_true hq
    subst hq
    rw[List.getElem?_eq_getElem hlt] at hx
    cases hx
    exact d1.mono (comp_le e3)
   ·have hne:q≠i:=fun e=>by rw[e,beq_self] at hq;cases hq
    have hq1:notIn q [(i,v)]=true:=by simp[notIn,hq]
    have hq2:notIn q ((i,v)::r)=true:=by
     simp only[notIn,hq,Bool.not_false,Bool.true_and]
     exact notIn_eqIx hne hr
    exact hs q (by have:=(List.getElem?_eq_some_iff.1 hx).1;omega) hq1 _ _ _ (comp_bare hi) (famAt_no hq2 (hv q x hx))
  |nil=>
  simp only[mB] at h
  obtain⟨hnil,g⟩:=gd_out h
  clear h
  have h2:=nilL_eq hnil
  subst h2
  split at g<;>try exact g.elim
  ·rename_i f k e t
   obtain⟨hb,hn',hs,h⟩:=gd_out g
   clear g
   have hb:=Nat.eq_of_beq_eq_true hb
   subst hb
   obtain⟨vs,yv,rest,rfl,hn,hv,hy,ht⟩:=hd
   cases hy
   obtain⟨σ3,e3,hK,d3⟩:=mT_ok h ht
   refine⟨σ3,e3,hK,vs.take n',[],vs.drop n'++rest,by simp[←List.append_assoc,List.take_append_drop],by simp;omega,fun i v hi'=>?_,.nil,?_⟩
   ·rw[List.getElem?_take] at hi'
    split at hi'
    ·rename_i hlt
     exact hs i hlt rfl _ _ _ (comp_bare hi) (hv i v hi')
    ·cases hi'
   ·have e1:(vs.take n').length+([]:List Value).length+(vs.drop n'++rest).length=vs.length+([]:List Value).length+rest.length:=by simp;omega
    rw[e1];exact d3
  ·rename_i f k us ys e t _
   obtain⟨hb,hn',hs,h⟩:=gd_out g
   clear g
   have hb:=Nat.eq_of_beq_eq_true hb
   subst hb
   obtain⟨vs,yv,rest,rfl,hn,hv,hy,ht⟩:=hd
   obtain⟨σ1,e1,h,d1⟩:=mUs_ok (mV_ok hi 24) hn h (fun k _ x hx=>hv k x hx)
   obtain⟨σ2,e2,h,d2⟩:=mYs_ok (mV_ok hi 24) h hy
   obtain⟨σ3,e3,hK,d3⟩:=mT_ok h ht
   have hyl:=hy.length
   refine⟨σ3,Sg.ext_trans e1 (Sg.ext_trans e2 e3),hK,vs++yv,[],rest,by simp,by simp;omega,?_,.nil,by simpa[Nat.add_assoc] using d3⟩
   exact fam_join hn hv hs (comp_bare hi) (fun k hk x hx=>(d1 k hk x hx).mono (comp_le (Sg.ext_trans e2 e3))) (fun k x hx=>(d2 k x hx).mono (comp_le e3))
  ·rename_i cs e t
   obtain⟨hb,hn',h⟩:=gd_out g
   clear g
   have hb:=Nat.eq_of_beq_eq_true hb
   subst hb
   obtain⟨vs,rest,rfl,hv,ht⟩:=hd
   obtain⟨σ2,e2,h,d2⟩:=mYs_ok (mV_ok hi 24) h hv
   obtain⟨σ3,e3,hK,d3⟩:=mT_ok h ht
   have hvl:=hv.length
   refine⟨σ3,Sg.ext_trans e2 e3,hK,vs,[],rest,by simp,by omega,fun k x hx=>?_,.nil,by simpa using d3⟩
   have:=d2 k x hx
   rw[Nat.zero_add] at this
   exact this.mono (comp_le e3)
 |famw f' wd' n' xs' e' t'=>
  simp only[mB] at h
  obtain⟨hnil,g⟩:=gd_out h
  clear h
  have h1:=nilL_eq hnil
  subst h1
  split at g<;>try exact g.elim
  ·rename_i f wd k ys e t
   obtain⟨hb,hs,h⟩:=gd_out g
   clear g
   simp only[Bool.and_eq_true] at hb
   have he:=Nat.eq_of_beq_eq_true hb.1
   have hw:=Nat.eq_of_beq_eq_true hb.2
   subst he;subst hw
   obtain⟨vs,yv,rest,rfl,hn,hv,hy,ht⟩:=hd
   obtain⟨σ2,e2,h,hlen,d2⟩:=mW1_ok (mV_ok hi 24) h hn hy (fun i hi' σ=>hs i hi' _ _ _ (comp_bare hi) (hv i hi'))
   obtain⟨σ3,e3,hK,d3⟩:=mT_ok h ht
   exact⟨σ3,Sg.ext_trans e2 e3,hK,vs++yv,[],rest,by simp,hlen,fun i hi'=>(d2 i hi').mono (comp_le e3),.nil,by simpa[Nat.add_assoc] using d3⟩
  ·rename_i cs e t
   obtain⟨hb,h⟩:=gd_out g
   clear g
   have hb:=Nat.eq_of_beq_eq_true hb
   subst hb
   obtain⟨vs,rest,rfl,hv,ht⟩:=hd
   obtain⟨σ2,e2,h,hlen,d2⟩:=mW1_ok (vs:=[]) (mV_ok hi 24) h (by simp) hv (fun i hi' σ=>by omega)
   obtain⟨σ3,e3,hK,d3⟩:=mT_ok h ht
   exact⟨σ3,Sg.ext_trans e2 e3,hK,[]++vs,[],rest,by simp,hlen,fun i hi'=>(d2 i hi').mono (comp_le e3),.nil,by simpa[Nat.add_assoc] using d3⟩
 |map es' c'=>
  simp only[mB] at h
  split at h<;>try exact h.elim
  obtain⟨hb,h⟩:=gd_out h
  obtain⟨es,rfl,hE⟩:=hd
  obtain⟨σ2,e2,hK,d2⟩:=mE_ok (mV_ok hi 24) h hE
  exact⟨σ2,e2,hK,es,by rw[Nat.eq_of_beq_eq_true hb],d2⟩
 |siter l' p'=>
  simp only[mB] at h
  split at h<;>try exact h.elim
  obtain⟨rfl,rfl,hK⟩:=h
  exact⟨σ,Sg.ext_refl _,hK,hd⟩
end
end Go.Sx
