/- Lemmas of this claim; the last text says what is proved. -/
import Derived.Test.YtjkgmpkgfhhaiaaGreatK13
import Derived.Recover
set_option linter.all false
namespace Go.Sx
open Go
variable [Syms]
def renC (ρ:Nat->Nat):ACap->ACap
 | .u i s=>.u (ρ i) s
 |c=>c
def renT (ρ:Nat->Nat):ATot->ATot
 | .u i m=>.u (ρ i) m
 |t=>t
def MP.ren (ρ:Nat->Nat) (q:MP):MP where
 p:=fun ι v=>q.p ⟨fun i=>ι.f (ρ i),ι.m,ι.ad⟩ v
 mono:=fun ι ι' v h hp=>q.mono ⟨fun i=>ι.f (ρ i),ι.m,ι.ad⟩ ⟨fun i=>ι'.f (ρ i),ι'.m,ι'.ad⟩ v ⟨fun i r (h':ι.f (ρ i)=some r)=>h.f (ρ i) r h',h.m,h.ad⟩ hp
 one:=fun _ _ h=>q.one _ _ h
 kp:=q.kp
def renV (ρ:Nat->Nat):Nat->AVal->AVal
 |0,_=>.top
 |n+1,v=>match v with
  | .ptr i o=>.ptr (ρ i) o
  | .slc i o l c=>.slc (ρ i) o l (renC ρ c)
  | .rsl i p m c=>.rsl (ρ i) p m (renC ρ c)
  | .map i=>.map (ρ i)
  | .fn f a b=>.fn f (a.map (renV ρ n)) (b.map (renV ρ n))
  | .ifc t v=>.ifc t (renV ρ n v)
  | .agg cs=>.agg (cs.map (renV ρ n))
  | .tup cs=>.tup (cs.map (renV ρ n))
  | .fpt cs o=>.fpt (cs.map (renV ρ n)) o
  | .ite c a b=>.ite c (renV ρ n a) (renV ρ n b)
  | .mp q=>.mp (q.ren ρ)
  |v=>v
def allP {α:Type} (f:α->Prop):List α->Prop
 |[]=>True
 |[a]=>f a
 |a::r=>f a/\allP f r
theorem allP_out {α:Type} {f:α->Prop}:∀{l:List α},allP f l->∀x∈l,f x
 |[a],h,x,hx=>by rw[List.mem_singleton] at hx;subst hx;exact h
 |a::b::r,h,x,hx=>by
  rcases List.mem_cons.1 hx with rfl|hx
  ·exact h.1
  ·exact allP_out h.2 x hx
def nfV:Nat->AVal->Prop
 |0,_=>True
 |n+1,v=>match v with
  | .fn _ a b=>allP (nfV n) a/\allP (nfV n) b
  | .ifc _ v=>nfV n v
  | .agg cs=>allP (nfV n) cs
  | .tup cs=>allP (nfV n) cs
  | .fpt cs _=>allP (nfV n) cs
  | .ite _ a b=>nfV n a/\nfV n b
  | .fam f k=>∀i,i<k->SubA 0 (f i) (f i)
  | .famx f k=>∀i,i<k->SubA 0 (f i) (f i)
  | .fmw f _ k=>∀i,i<k->SubL 0 (f i) (f i)
  | .fwp f _ k _ _=>∀i,i<k->SubL 0 (f i) (f i)
  | .fmp f k _=>∀i,i<k->SubA 0 (f i) (f i)
  |_=>True
structure RenOk (ι:Inj) (ρ:Nat->Nat) (ι':Inj):Prop where
 f:∀i r,ι i=some r->ι' (ρ i)=some r
 m:∀r o,ι.m r=some o->ι'.m r=some o
 ad:∀x r,ι.ad x=some r->ι'.ad x=some r
theorem RenOk.bare {ι ι':Inj} {ρ:Nat->Nat} (h:RenOk ι ρ ι'):(ι.bare 0).le ι':=⟨fun i r hr=>by simp[Inj.bare] at hr,h.m,h.ad⟩
theorem renC_ok {ι ι':Inj} {ρ:Nat->Nat} (h:RenOk ι ρ ι') {c:ACap} {n:Nat} (hc:c.den ι n):(renC ρ c).den ι' n:=by
 cases c with
 |n k=>exact hc
 |u i s=>obtain⟨d,hd,h63,e⟩:=hc;exact⟨d,h.f _ _ hd,h63,e⟩
 |x=>trivial
theorem renT_ok {ι ι':Inj} {ρ:Nat->Nat} (h:RenOk ι ρ ι') {c:ATot} {n:Nat} (hc:c.ok ι n):(renT ρ c).ok ι' n:=by
 cases c with
 |n k=>exact hc
 |u i s=>obtain⟨d,hd,e⟩:=hc;exact⟨d,h.f _ _ hd,e⟩
theorem renL_of {ι ι':Inj} {f:AVal->AVal} {P:AVal->Prop} (h:∀a v,P a->Den ι a v->Den ι' (f a) v):∀{as:List AVal} {vs:List Value},(∀x∈as,P x)->DenL ι as vs->DenL ι' (as.map f) vs
 |[],_,_,.nil=>.nil
 |a::as,_,hp,.cons h1 h2=>.cons (h a _ (hp a (List.mem_cons_self ..)) h1) (renL_of h (fun x hx=>hp x (List.mem_cons_of_mem _ hx)) h2)
theorem renV_ok {ι ι':Inj} {ρ:Nat->Nat} (h:RenOk ι ρ ι'):∀(n:Nat) (a:AVal) (v:Value),nfV n a->Den ι a v->Den ι' (renV ρ n a) v:=by
 intro n
 induction n with
 |zero=>intro a v _ _;exact .top
 |succ n ih=>
  intro a v hn hd
  cases hd with
  |ptr hr=>exact .ptr (h.f _ _ hr)
  |slc hr hl ho hc=>exact .slc (h.f _ _ hr) hl ho (renC_ok h hc)
  |rsl hr hl ho hc=>exact .rsl (h.f _ _ hr) hl ho (renC_ok h hc)
  |map hr=>exact .map (h.f _ _ hr)
  |fn h1 h2=>exact .fn (renL_of ih (allP_out hn.1) h1) (renL_of ih (allP_out hn.2) h2)
  |ifc h1=>exact .ifc (ih _ _ hn h1)
  |agg h1=>exact .agg (renL_of ih (allP_out hn) h1)
  |tup h1=>exact .tup (renL_of ih (allP_out hn) h1)
  |fpt hm h1=>exact .fpt (h.m _ _ hm) (renL_of ih (allP_out hn) h1)
  |ite ht hf=>exact .ite (fun e=>ih _ _ hn.1 (ht e)) (fun e=>ih _ _ hn.2 (hf e))
  |fam hm hl hv hle ho=>exact .fam (h.m _ _ hm) hl (fun k v hk=>hn k (by have:=(List.getElem?_eq_some_iff.1 hk).1;omega) _ _ _ h.bare (hv k v hk)) hle ho
  |fam0=>exact .fam0
  |fmp hm hl hv ho=>exact .fmp (h.m _ _ hm) hl (fun k v hk=>hn k (by have:=(List.getElem?_eq_some_iff.1 hk).1;omega) _ _ _ h.bare (hv k v hk)) ho
  |famx hd=>
   refine .famx ?_
   cases hd with
   |fam hm hl hv hle ho=>exact .fam (h.m _ _ hm) hl (fun k v hk=>hn k (by have:=(List.getElem?_eq_some_iff.1 hk).1;omega) _ _ _ h.bare (hv k v hk)) hle ho
   |fam0=>exact .fam0
  |fmw hm hl hv hle ho=>exact .fmw (h.m _ _ hm) hl (fun k hk=>hn k hk _ _ _ h.bare (hv k hk)) hle ho
  |fmw0=>exact .fmw0
  |fwp hm hl hv hk ho=>exact .fwp (h.m _ _ hm) hl (fun k hk=>hn k hk _ _ _ h.bare (hv k hk)) hk ho
  |lit=>exact .lit
  |any h1 h2=>exact .any h1 h2
  |top=>exact .top
  |str=>exact .str
  |rope=>exact .rope
  |lenr=>exact .lenr
  |ub h1=>exact .ub h1
  |sp had=>exact .sp (h.ad _ _ had)
  |ssl had hl=>exact .ssl (h.ad _ _ had) hl
  |smp had=>exact .smp (h.ad _ _ had)
  |by_ h1 h2 h3=>exact .by_ (h.m _ _ h1) h2 h3
  |by0=>exact .by0
  |bp h1 h2=>exact .bp (h.m _ _ h1) h2
  |e0=>exact .e0
  |@mp q v h1=>exact .mp (q:=q.ren ρ) (q.mono ι ⟨fun i=>ι'.f (ρ i),ι'.m,ι'.ad⟩ v ⟨fun i r h'=>h.f i r h',h.m,h.ad⟩ h1)
def renE (ρ:Nat->Nat):List (AVal×AVal×Nat)->List (AVal×AVal×Nat)
 |[]=>[]
 |(k,v,n)::r=>(renV ρ 24 k,renV ρ 24 v,n)::renE ρ r
def nfE:List (AVal×AVal×Nat)->Prop
 |[]=>True
 |(k,v,_)::r=>nfV 24 k/\nfV 24 v/\nfE r
theorem renE_ok {ι ι':Inj} {ρ:Nat->Nat} (h:RenOk ι ρ ι'):∀{es:List (AVal×AVal×Nat)} {l:List MapEntry},nfE es->EDen ι es l->EDen ι' (renE ρ es) l
 |[],[],_,_=>trivial
 |(_,_,_)::_,_::_,hn,hd=>⟨renV_ok h 24 _ _ hn.1 hd.1,renV_ok h 24 _ _ hn.2.1 hd.2.1,hd.2.2.1,renE_ok h hn.2.2 hd.2.2.2⟩
 |[],_::_,_,hd=>by cases hd
 |(_,_,_)::_,[],_,hd=>by cases hd
def renB (ρ:Nat->Nat):ABlk->ABlk
 | .row cs e t=>.row (cs.map (renV ρ 24)) e (renT ρ t)
 | .bytes l e t=>.bytes l e (renT ρ t)
 | .rbytes l e t=>.rbytes l e (renT ρ t)
 | .fam f n us xs e t=>.fam f n us xs e (renT ρ t)
 | .famw f wd n xs e t=>.famw f wd n xs e (renT ρ t)
 | .map es c=>.map (renE ρ es) c
 | .siter l p=>.siter l p
def nfB:ABlk->Prop
 | .row cs _ _=>allP (nfV 24) cs
 | .fam f n us xs _ _=>us=[]/\xs=[]/\∀i,i<n->SubA 0 (f i) (f i)
 | .famw f _ n xs _ _=>xs=[]/\∀i,i<n->SubL 0 (f i) (f i)
 | .map es _=>nfE es
 |_=>True
theorem renB_ok {ι ι':Inj} {ρ:Nat->Nat} (h:RenOk ι ρ ι') {b:ABlk} {o:Obj} (hn:nfB b) (hd:BDen ι b o):BDen ι' (renB ρ b) o:=by
 cases b with
 |row cs e t=>
  obtain⟨vs,rest,rfl,hv,ht⟩:=hd
  exact⟨vs,rest,rfl,renL_of (renV_ok h 24) (allP_out hn) hv,renT_ok h ht⟩
 |bytes l e t=>
  obtain⟨rest,fz,rfl,ht,hfz⟩:=hd
  exact⟨rest,fz,rfl,renT_ok h ht,hfz⟩
 |rbytes l e t=>
  obtain⟨rest,fz,rfl,ht,hfz⟩:=hd
  exact⟨rest,fz,rfl,renT_ok h ht,hfz⟩
 |fam f n us xs e t=>
  obtain⟨rfl,rfl,hs⟩:=hn
  obtain⟨vs,ys,rest,rfl,hl,hv,hy,ht⟩:=hd
  exact⟨vs,ys,rest,rfl,hl,fun k v hk=>hs k (by have:=(List.getElem?_eq_some_iff.1 hk).1;omega) _ _ _ h.bare (hv k v hk),by cases hy;exact .nil,renT_ok h ht⟩
 |famw f wd n xs e t=>
  obtain⟨rfl,hs⟩:=hn
  obtain⟨vs,ys,rest,rfl,hl,hv,hy,ht⟩:=hd
  exact⟨vs,ys,rest,rfl,hl,fun k hk=>hs k hk _ _ _ h.bare (hv k hk),by cases hy;exact .nil,renT_ok h ht⟩
 |map es c=>
  obtain⟨ent,rfl,hE⟩:=hd
  exact⟨ent,rfl,renE_ok h hn hE⟩
 |siter l p=>exact hd
def wimgs (ros:List Nat) (σ:Sg):List (Nat×ABlk)->List Nat
 |[]=>[]
 |(i,_)::r=>cond (hasN ros i) (wimgs ros σ r) (match look σ i with
  |some (.id j)=>j::wimgs ros σ r
  |_=>wimgs ros σ r)
def rho (σ:Sg) (p next:Nat):Nat->Nat:=fun i=>cond (Nat.blt i p) (match look σ i with|some (.id j)=>j|_=>0) (next+(i-p))
def layO (ρ:Nat->Nat) (l:List (Nat×ABlk)) (T:Tr ABlk):Tr ABlk:=l.foldr (fun x T=>T.set (ρ x.1) (some (renB ρ x.2))) T
def hasKey (i:Nat):List (Nat×ABlk)->Bool
 |[]=>false
 |(k,_)::r=>Nat.beq k i||hasKey i r
def pinsIn (l:List (Nat×ABlk)):Nat->Bool
 |0=>true
 |n+1=>hasKey n l&&pinsIn l n
structure GenS where
 A:Type
 st:SId->Option ABlk
 dec:List AVal->AHeap->Option A
 dom:A->Prop
 args1:A->List AVal
 blks1:A->List (Nat×ABlk)
 next1:Nat
 ros1:List Nat
 p1:Nat
 X:Type
 G:A->X->Prop
 val:X->AVal
 out:X->List (Nat×ABlk)
 n2:Nat
def GenS.okC (S:GenS) (a:S.A) (σ:Sg):Bool:=belowAll S.next1 σ&&(distinctN (imgs σ (S.blks1 a))&&(disjN (imgs σ (S.blks1 a)) (fzs σ)&&pinsIn (S.blks1 a) S.p1))
def GenS.spec (S:GenS):Spec:=fun args H K=>match S.dec args H with
 |some a=>H.st=S.st/\S.dom a/\mLs (mV H 24) args (S.args1 a) [] (fun σ=>mBlks H S.ros1 (S.blks1 a) σ (fun σ=>gd (S.okC a σ)
  (∀x,S.G a x->K (renV (rho σ S.p1 H.next) 24 (S.val x)) ⟨layO (rho σ S.p1 H.next) (S.out x) (delAll (wimgs S.ros1 σ (S.blks1 a)) (delAll (fzs σ) H)).blks,H.next+(S.n2-S.p1),H.defs,H.ros,H.st⟩)))
 |none=>False
def entV (p:Nat) (v:AVal) (H:AHeap) (D:HD) (t:AVal) (blks:List (Nat×ABlk)):Prop:=
 H.st=D.st/\nfV 24 t/\allP (fun x=>nfB x.2) blks/\mV H 24 v t (pins p) (fun σ=>mBlks H D.ros blks σ (fun σ=>okS D blks σ))
def GenS.Body (S:GenS) (P:Program) (f:FuncId):Prop:=
 ∀a,S.dom a->∀(w0:World) (F0:Fp) (ι:Inj) (w:World) (vs:List Value),Inv w0 F0 ι (hpD ⟨S.next1,S.ros1,S.st⟩ (S.blks1 a) []) w->DenL ι (S.args1 a) vs->
  Calls P f vs.toArray w (PostV w0 F0 (ι.bare S.p1) (fun v H=>∃x,S.G a x/\entV S.p1 v H ⟨S.n2,[],S.st⟩ (S.val x) (S.out x)))
section
variable {P:Program} {w0 w:World} {F0:Fp} {ι:Inj} {H:AHeap}
theorem entV_ok {p:Nat} {v:AVal} {D:HD} {t:AVal} {blks:List (Nat×ABlk)} {x:Value} (h:entV p v H D t blks) (hi:Inv w0 F0 ι H w) (hd:Den ι v x):
 ∃ι3,(ι.bare p).le ι3/\Inv w0 F0 ι3 (hpD D blks []) w/\Den ι3 t x:=by
 obtain⟨hst,_,_,h⟩:=h
 obtain⟨σ1,e1,h,d1⟩:=mV_ok hi 24 h hd
 obtain⟨σ2,e2,h,d2⟩:=mBlks_ok hi h
 have e12:=Sg.ext_trans e1 e2
 exact⟨comp w ι σ2,comp_pin hi e12,small_inv hi hst d2 h (e12.n (pins_ok H p)),d1.mono (comp_le e2)⟩
theorem layO_get {ρ:Nat->Nat}:∀{l:List (Nat×ABlk)} {T:Tr ABlk} {k:Nat} {b:ABlk},(layO ρ l T).get k=some b->(∃i c,Tr.get (l.foldr (fun x T=>T.set x.1 (some x.2)) .nil) i=some c/\ρ i=k/\b=renB ρ c)\/T.get k=some b
 |[],T,k,b,h=>.inr h
 |(i,c)::r,T,k,b,h=>by
  have h:((layO ρ r T).set (ρ i) (some (renB ρ c))).get k=some b:=h
  rw[Tr.get_set] at h
  by_cases e:k=ρ i
  ·rw[if_pos e] at h
   cases h
   exact .inl ⟨i,c,by simp only[List.foldr_cons,Tr.get_set,if_true],e.symm,rfl⟩
  ·rw[if_neg e] at h
   rcases layO_get h with⟨i',c',h1,h2,h3⟩|h1
   ·refine .inl ⟨i',c',?_,h2,h3⟩
    simp only[List.foldr_cons,Tr.get_set]
    rw[if_neg (fun e'=>e (by rw[←h2,e']))]
    exact h1
   ·exact .inr h1
theorem mem_wimgs {ros:List Nat} {σ:Sg}:∀{l:List (Nat×ABlk)} {j:Nat},j∈wimgs ros σ l->∃z∈l,hasN ros z.1=false/\look σ z.1=some (.id j)
 |(i,b)::us,j,h=>by
  simp only[wimgs] at h
  cases hr:hasN ros i with
  |true=>
   rw[hr,cond_true] at h
   obtain⟨z,hz,hzl⟩:=mem_wimgs h
   exact⟨z,List.mem_cons_of_mem _ hz,hzl⟩
  |false=>
   rw[hr,cond_false] at h
   split at h
   ·rename_i j' hl
    rcases List.mem_cons.1 h with rfl|h
    ·exact⟨_,List.mem_cons_self ..,hr,hl⟩
    ·obtain⟨z,hz,hzl⟩:=mem_wimgs h
     exact⟨z,List.mem_cons_of_mem _ hz,hzl⟩
   ·obtain⟨z,hz,hzl⟩:=mem_wimgs h
    exact⟨z,List.mem_cons_of_mem _ hz,hzl⟩
theorem wimgs_mem {ros:List Nat} {σ:Sg}:∀{l:List (Nat×ABlk)} {z:Nat×ABlk} {j:Nat},z∈l->hasN ros z.1=false->look σ z.1=some (.id j)->j∈wimgs ros σ l
 |(i,b)::us,z,j,hz,hn,hl=>by
  simp only[wimgs]
  rcases List.mem_cons.1 hz with rfl|hz
  ·rw[hn,cond_false,hl];exact List.mem_cons_self ..
  ·have:=wimgs_mem hz hn hl
   cases hasN ros i with
   |true=>exact this
   |false=>
    rw[cond_false]
    split
    ·exact List.mem_cons_of_mem _ this
    ·exact this
theorem hasKey_ok {i:Nat}:∀{l:List (Nat×ABlk)},hasKey i l=true->∃x∈l,x.1=i
 |(k,b)::r,h=>by
  simp only[hasKey,Bool.or_eq_true] at h
  rcases h with h|h
  ·exact⟨(k,b),List.mem_cons_self ..,Nat.eq_of_beq_eq_true h⟩
  ·obtain⟨x,hx,e⟩:=hasKey_ok h
   exact⟨x,List.mem_cons_of_mem _ hx,e⟩
theorem pinsIn_ok {l:List (Nat×ABlk)}:∀{n i:Nat},pinsIn l n=true->i<n->∃x∈l,x.1=i
 |n+1,i,h,hi=>by
  simp only[pinsIn,Bool.and_eq_true] at h
  by_cases e:i=n
  ·subst e;exact hasKey_ok h.1
  ·exact pinsIn_ok h.2 (by omega)
def handF (w:World) (ι:Inj) (H:AHeap) (ros:List Nat) (σ:Sg) (l:List (Nat×ABlk)):Fp:=
 ⟨fun r=>∃j∈wimgs ros σ l,∃b,H.get j=some b/\ι j=some r,fun r=>∃z∈l,hasN ros z.1=true/\∃j b,look σ z.1=some (.id j)/\H.get j=some b/\ι j=some r,fun r=>∃o,(comp w ι σ).m r=some o⟩
theorem handF_w {ros:List Nat} {σ:Sg} {l:List (Nat×ABlk)} (d:BlkD w0 F0 w ι H ros σ l) {r:Nat} (h:(handF w ι H ros σ l).w r):F0.w r\/w0.heap.size<=r:=by
 obtain⟨j,hj,b,hg,hr⟩:=h
 obtain⟨z,hz,hn,hl⟩:=mem_wimgs hj
 obtain⟨j',c,r',o,hl',hg',hr',_,_,hF,_⟩:=d z hz
 rw[hl] at hl';cases hl'
 rw[hr] at hr';cases hr'
 rcases hF with h1|h1|h1
 ·exact .inl h1
 ·exact .inr h1
 ·rw[hn] at h1;cases h1.2
theorem hand_small (hi:Inv w0 F0 ι H w) {D:HD} {σ:Sg} {l:List (Nat×ABlk)} (hst:H.st=D.st) (d:BlkD w0 F0 w ι H D.ros σ l) (hok:okS D l σ) (hz:FzOk H σ):
 Inv w (handF w ι H D.ros σ l) (comp w ι σ) (hpD D l []) w:=by
 have hs:=small_inv (ds:=[]) hi hst d hok hz
 refine⟨?_,hs.inj,hs.fresh,fun _ _ _=>rfl,Nat.le_refl _,rfl,rfl,rfl,⟨hi.good,fun x hx=>?_⟩,⟨fun r o hm=>⟨(hs.fz.frz r o hm).1,.inl ⟨o,hm⟩⟩,hs.fz.nofz,hs.fz.st,hs.fz.stinj,hs.fz.stad⟩⟩
 ·intro i b hg
  obtain⟨j,c,r,o,hl,hg',hr,ho,hb,hF,_⟩:=d (i,b) (hpD_get hg)
  refine⟨r,o,by rw[comp_id hl];exact hr,ho,hb,?_⟩
  cases hn:hasN D.ros i with
  |true=>exact .inr (.inr ⟨⟨(i,b),hpD_get hg,hn,j,c,hl,hg',hr⟩,hn⟩)
  |false=>exact .inl ⟨j,wimgs_mem (hpD_get hg) hn hl,c,hg',hr⟩
 ·obtain⟨g1,g2⟩:=hi.glob.2 x hx
  refine⟨Nat.lt_of_lt_of_le g1 hi.size,fun hf=>?_⟩
  rcases handF_w d hf with hf|hf
  ·exact g2 hf
  ·omega
theorem genS_core0 {S:GenS} {K:AVal->AHeap->Prop} {vs:List Value} {a:S.A} {σ2:Sg} (hi:Inv w0 F0 ι H w) (hst:H.st=S.st) (hdom:S.dom a) (d1:DenL (comp w ι σ2) (S.args1 a) vs) (d2:BlkD w0 F0 w ι H S.ros1 σ2 (S.blks1 a)) (hz:FzOk H σ2) (hc:S.okC a σ2=true)
 (hK:∀x,S.G a x->K (renV (rho σ2 S.p1 H.next) 24 (S.val x)) ⟨layO (rho σ2 S.p1 H.next) (S.out x) (delAll (wimgs S.ros1 σ2 (S.blks1 a)) (delAll (fzs σ2) H)).blks,H.next+(S.n2-S.p1),H.defs,H.ros,H.st⟩):
 ∃a F1 ι1,S.dom a/\Inv w F1 ι1 (hpD ⟨S.next1,S.ros1,S.st⟩ (S.blks1 a) []) w/\DenL ι1 (S.args1 a) vs/\
  ∀e w',PostV w F1 (ι1.bare S.p1) (fun v H=>∃x,S.G a x/\entV S.p1 v H ⟨S.n2,[],S.st⟩ (S.val x) (S.out x)) e w'->PostV w0 F0 ι K e w':=by
 simp only[GenS.okC,Bool.and_eq_true] at hc
 have hok:okS ⟨S.next1,S.ros1,S.st⟩ (S.blks1 a) σ2:=gd_in (by simp only[Bool.and_eq_true];exact⟨hc.1,hc.2.1,hc.2.2.1⟩) trivial
 have hsmall:=hand_small hi (D:=⟨S.next1,S.ros1,S.st⟩) hst d2 hok hz
 have hcompfz:=(small_inv (ds:=[]) hi (D:=⟨S.next1,S.ros1,S.st⟩) hst d2 hok hz).fz
 refine⟨a,_,comp w ι σ2,hdom,hsmall,d1,fun e w' he=>?_⟩
 cases e with
 |panicked c=>exact he.elim
 |outgrown=>exact he.elim
 |returned v=>
 obtain⟨av,H',ι',⟨x,hG,hent⟩,hdx,hle',hinv'⟩:=he
 have hnf:=hent.2.1
 have hnfb:=hent.2.2.1
 obtain⟨ι3,hle3,hinv,hdv⟩:=entV_ok hent hinv' hdx
 clear hent hinv' hdx
 have hle:((comp w ι σ2).bare S.p1).le ι3:=Inj.le_trans (Inj.bare_step hle') hle3
 have hlt:∀{id b r},H.get id=some b->ι id=some r->r<w.heap.size:=fun hg hr=>by
  obtain⟨r',o,hr',ho,_⟩:=hi.blk _ _ hg
  rw[hr] at hr';cases hr'
  rcases Nat.lt_or_ge _ w.heap.size with h'|h'
  ·exact h'
  ·rw[Array.getElem?_eq_none h'] at ho;cases ho
 have hnext:∀{k r},ι k=some r->k<H.next:=fun{k r} hr=>by
  rcases Nat.lt_or_ge k H.next with h'|h'
  ·exact h'
  ·rw[hi.fresh k h'] at hr;cases hr
 let ι4:Inj:=⟨fun k=>if k<H.next then ι k else ι3 (S.p1+(k-H.next)),ι3.m,ι3.ad⟩
 have hle4:ι.le ι4:=⟨fun k r hr=>by simp[ι4,hnext hr,hr],fun r o hm=>hle.m _ _ (comp_m hi hm),hle.ad⟩
 have hρ:RenOk ι3 (rho σ2 S.p1 H.next) ι4:=by
  refine⟨fun i r hr=>?_,fun _ _ h=>h,fun _ _ h=>h⟩
  ·unfold rho
   by_cases hp:i<S.p1
   ·rw[blt_iff.2 hp,cond_true]
    obtain⟨z,hz,rfl⟩:=pinsIn_ok hc.2.2.2 hp
    obtain⟨j,c,r0,o,hl,hg,hr0,_⟩:=d2 z hz
    rw[hl]
    have h3:=hle.f z.1 r0 (by
     show(if z.1<S.p1 then(comp w ι σ2) z.1 else none)=_
     rw[if_pos hp,comp_id hl];exact hr0)
    rw[hr] at h3;cases h3
    simp[ι4,hnext hr0,hr0]
   ·rw[blt_iff'.2 (Nat.le_of_not_lt hp),cond_false]
    have e:S.p1+(H.next+(i-S.p1)-H.next)=i:=by omega
    have hn:¬H.next+(i-S.p1)<H.next:=by omega
    show(if H.next+(i-S.p1)<H.next then ι (H.next+(i-S.p1)) else ι3 (S.p1+(H.next+(i-S.p1)-H.next)))=some r
    rw[if_neg hn,e]
    exact hr
 have hold:∀{k b r},(delAll (wimgs S.ros1 σ2 (S.blks1 a)) (delAll (fzs σ2) H)).get k=some b->ι k=some r->H.get k=some b/\k∉fzs σ2/\¬(handF w ι H S.ros1 σ2 (S.blks1 a)).w r:=by
  intro k b r hk hr
  rw[delAll_get] at hk
  split at hk
  ·cases hk
  ·rename_i hn
   rw[delAll_get] at hk
   split at hk
   ·cases hk
   ·rename_i hn2
    refine⟨hk,hn2,?_⟩
    rintro⟨j,hj,bj,hgj,hrj⟩
    have:=hi.inj k j b bj r hk hgj hr hrj
    subst this
    exact hn hj
 have hnew:∀{r},(handF w ι H S.ros1 σ2 (S.blks1 a)).w r\/w.heap.size<=r->F0.w r\/w0.heap.size<=r:=fun h=>by
  rcases h with h|h
  ·exact handF_w d2 h
  ·exact .inr (Nat.le_trans hi.size h)
 have hout:∀{i c},Tr.get ((S.out x).foldr (fun x T=>T.set x.1 (some x.2)) .nil) i=some c->∃r o,ι3 i=some r/\w'.heap[r]?=some o/\BDen ι4 (renB (rho σ2 S.p1 H.next) c) o/\((handF w ι H S.ros1 σ2 (S.blks1 a)).w r\/w.heap.size<=r)/\ι3.m r=none:=by
  intro i c hg
  have hg':(hpD ⟨S.n2,[],S.st⟩ (S.out x) []).get i=some c:=hg
  obtain⟨r,o,hr,ho,hb,hF⟩:=hinv.blk _ _ hg'
  refine⟨r,o,hr,ho,renB_ok hρ (allP_out hnfb _ (fold_get _ _ hg)) hb,?_,hinv.fz.nofz _ _ _ hg' hr⟩
  rcases hF with h1|h1|h1
  ·exact .inl h1
  ·exact .inr h1
  ·cases h1.2
 have hk4:∀{k r},ι k=some r->ι4 k=some r:=fun h=>hle4.f _ _ h
 refine⟨_,_,ι4,hK x hG,renV_ok hρ 24 _ _ hnf hdv,hle4,⟨?_,?_,?_,?_,Nat.le_trans hi.size hinv.size,hinv.tape.trans hi.tape,hinv.os.trans hi.os,hinv.output.trans hi.output,hi.glob,⟨?_,?_,?_,hinv.fz.stinj,fun x r hr=>by
  show ∃b,H.st x=some b
  rw[hst];exact hinv.fz.stad x r hr⟩⟩⟩
 ·intro k b hk
  rcases layO_get hk with⟨i,c,hg,rfl,rfl⟩|hk
  ·obtain⟨r,o,hr,ho,hb,hF,_⟩:=hout hg
   exact⟨r,o,hρ.f _ _ hr,ho,hb,(hnew hF).elim .inl fun h=>.inr (.inl h)⟩
  ·have hk1:=hk
   rw[show Tr.get (delAll (wimgs S.ros1 σ2 (S.blks1 a)) (delAll (fzs σ2) H)).blks k=(delAll (wimgs S.ros1 σ2 (S.blks1 a)) (delAll (fzs σ2) H)).get k from rfl,delAll_get] at hk1
   split at hk1
   ·cases hk1
   ·rw[delAll_get] at hk1
    split at hk1
    ·cases hk1
    ·obtain⟨r,o,hr,ho,hb,hF⟩:=hi.blk k b hk1
     obtain⟨_,_,hnw⟩:=hold hk hr
     refine⟨r,o,hk4 hr,?_,hb.mono hle4,hF⟩
     rw[hinv.frame r (hlt hk1 hr) hnw]
     exact ho
 ·have old:∀{k b r},(delAll (wimgs S.ros1 σ2 (S.blks1 a)) (delAll (fzs σ2) H)).get k=some b->ι4 k=some r->ι k=some r/\H.get k=some b/\¬(handF w ι H S.ros1 σ2 (S.blks1 a)).w r/\r<w.heap.size:=by
   intro k b r hk hr
   have hk1:=hk
   rw[delAll_get] at hk1
   split at hk1
   ·cases hk1
   ·rw[delAll_get] at hk1
    split at hk1
    ·cases hk1
    ·obtain⟨r0,o,hr0,_⟩:=hi.blk k b hk1
     have:=hk4 hr0
     rw[hr] at this;cases this
     obtain⟨_,_,hnw⟩:=hold hk hr0
     exact⟨hr0,hk1,hnw,hlt hk1 hr0⟩
  intro i j b c r h1 h2 h3 h4
  rcases layO_get h1 with⟨i1,c1,hg1,rfl,rfl⟩|h1<;>rcases layO_get h2 with⟨i2,c2,hg2,rfl,rfl⟩|h2
  ·obtain⟨r1,o1,hr1,_⟩:=hout hg1
   obtain⟨r2,o2,hr2,_⟩:=hout hg2
   have e1:=hρ.f _ _ hr1
   have e2:=hρ.f _ _ hr2
   rw[h3] at e1;rw[h4] at e2;cases e1;cases e2
   have:=hinv.inj i1 i2 c1 c2 r hg1 hg2 hr1 hr2
   rw[this]
  ·obtain⟨r1,o1,hr1,_,_,hF,_⟩:=hout hg1
   have e1:=hρ.f _ _ hr1
   rw[h3] at e1;cases e1
   obtain⟨_,_,hnw,hl⟩:=old h2 h4
   rcases hF with hF|hF
   ·exact(hnw hF).elim
   ·omega
  ·obtain⟨r1,o1,hr1,_,_,hF,_⟩:=hout hg2
   have e1:=hρ.f _ _ hr1
   rw[h4] at e1;cases e1
   obtain⟨_,_,hnw,hl⟩:=old h1 h3
   rcases hF with hF|hF
   ·exact(hnw hF).elim
   ·omega
  ·obtain⟨a1,a2,_⟩:=old h1 h3
   obtain⟨b1,b2,_⟩:=old h2 h4
   exact hi.inj i j b c r a2 b2 a1 b1
 ·intro k hk
  have hk:H.next+(S.n2-S.p1)<=k:=hk
  have:¬k<H.next:=by omega
  simp only[ι4,this,if_false]
  exact hinv.fresh _ (by show S.n2<=_;omega)
 ·intro r hr hnf
  rw[hinv.frame r (Nat.lt_of_lt_of_le hr hi.size) ?_]
  ·exact hi.frame r hr hnf
  ·intro hw
   rcases handF_w d2 hw with h1|h1
   ·exact hnf h1
   ·omega
 ·intro r o hm
  obtain⟨h1,h2⟩:=hinv.fz.frz r o hm
  refine⟨h1,?_⟩
  rcases h2 with⟨o',ho'⟩|h2|h2
  ·exact(hcompfz.frz r o' ho').2
  ·rcases handF_w d2 h2 with h3|h3
   ·exact .inr (.inl h3)
   ·exact .inr (.inr h3)
  ·exact .inr (.inr (Nat.le_trans hi.size h2))
 ·intro k b r hk hr
  rcases layO_get hk with⟨i,c,hg,rfl,rfl⟩|hk
  ·obtain⟨r1,o1,hr1,_,_,_,hm⟩:=hout hg
   have e1:=hρ.f _ _ hr1
   rw[hr] at e1;cases e1
   exact hm
  ·have hk1:=hk
   rw[show Tr.get (delAll (wimgs S.ros1 σ2 (S.blks1 a)) (delAll (fzs σ2) H)).blks k=(delAll (wimgs S.ros1 σ2 (S.blks1 a)) (delAll (fzs σ2) H)).get k from rfl,delAll_get] at hk1
   split at hk1
   ·cases hk1
   ·rw[delAll_get] at hk1
    split at hk1
    ·cases hk1
    ·obtain⟨r0,o0,hr0,_⟩:=hi.blk k b hk1
     have:=hk4 hr0
     rw[hr] at this;cases this
     obtain⟨_,hnz,hnw⟩:=hold hk hr0
     cases hm:ι4.m r with
     |none=>rfl
     |some o=>
      obtain⟨_,h2⟩:=hinv.fz.frz r o hm
      rcases h2 with⟨o',ho'⟩|h2|h2
      ·simp only[comp] at ho'
       split at ho'
       ·rename_i hcase
        rcases hcase with h1|⟨j,hj,hjr⟩
        ·rw[hi.fz.nofz k b r hk1 hr0] at h1;cases h1
        ·obtain⟨b',hg2,_⟩:=hz j hj
         have:=hi.inj j k b' b r hg2 hk1 hjr hr0
         subst this
         exact(hnz hj).elim
       ·cases ho'
      ·exact(hnw h2).elim
      ·exact absurd (hlt hk1 hr0) (Nat.not_lt.2 h2)
 ·intro sx b r hx hr
  obtain⟨o,h1,h2⟩:=hinv.fz.st sx b r (by show S.st sx=some b;rw[←hst];exact hx) hr
  exact⟨o,h1,h2.mono ⟨fun i r h=>by simp[Inj.bare] at h,fun _ _ h=>h,fun _ _ h=>h⟩⟩
theorem genS_core {S:GenS} {args:List AVal} {K:AVal->AHeap->Prop} {vs:List Value} (hs:S.spec args H K) (hi:Inv w0 F0 ι H w) (hd:DenL ι args vs):
 ∃a F1 ι1,S.dom a/\Inv w F1 ι1 (hpD ⟨S.next1,S.ros1,S.st⟩ (S.blks1 a) []) w/\DenL ι1 (S.args1 a) vs/\
  ∀e w',PostV w F1 (ι1.bare S.p1) (fun v H=>∃x,S.G a x/\entV S.p1 v H ⟨S.n2,[],S.st⟩ (S.val x) (S.out x)) e w'->PostV w0 F0 ι K e w':=by
 unfold GenS.spec at hs
 split at hs
 rotate_left
 ·exact hs.elim
 rename_i a _
 obtain⟨hst,hdom,hs⟩:=hs
 obtain⟨σ1,e1,hs,d1⟩:=mLs_ok (mV_ok hi 24) hs hd
 obtain⟨σ2,e2,hs,d2⟩:=mBlks_ok hi hs
 obtain⟨hc,hK⟩:=gd_out hs
 clear hs
 exact genS_core0 hi hst hdom (d1.mono (comp_le e2)) d2 ((Sg.ext_trans e1 e2).n (fun j hj=>by cases hj)) hc hK
def GenS.specV (S:GenS):Spec:=fun args H K=>match S.dec args H with
 |some a=>H.st=S.st/\S.dom a/\SubL 0 args (S.args1 a)/\gd (nilL (S.blks1 a)&&S.okC a [])
  (∀x,S.G a x->K (renV (rho [] S.p1 H.next) 24 (S.val x)) ⟨layO (rho [] S.p1 H.next) (S.out x) H.blks,H.next+(S.n2-S.p1),H.defs,H.ros,H.st⟩)
 |none=>False
theorem genS_coreV {S:GenS} {args:List AVal} {K:AVal->AHeap->Prop} {vs:List Value} (hs:S.specV args H K) (hi:Inv w0 F0 ι H w) (hd:DenL ι args vs):
 ∃a F1 ι1,S.dom a/\Inv w F1 ι1 (hpD ⟨S.next1,S.ros1,S.st⟩ (S.blks1 a) []) w/\DenL ι1 (S.args1 a) vs/\
  ∀e w',PostV w F1 (ι1.bare S.p1) (fun v H=>∃x,S.G a x/\entV S.p1 v H ⟨S.n2,[],S.st⟩ (S.val x) (S.out x)) e w'->PostV w0 F0 ι K e w':=by
 unfold GenS.specV at hs
 split at hs
 rotate_left
 ·exact hs.elim
 rename_i a _
 obtain⟨hst,hdom,hsub,hs⟩:=hs
 obtain⟨hc,hK⟩:=gd_out hs
 clear hs
 rw[Bool.and_eq_true] at hc
 have hnil:=nilL_eq hc.1
 refine genS_core0 (σ2:=[]) hi hst hdom (hsub _ _ _ (comp_bare hi) hd) (by rw[hnil];exact fun x hx=>by cases hx) (fun j hj=>by cases hj) hc.2 ?_
 rw[hnil]
 exact hK
theorem genS_ok {S:GenS} {f:FuncId} (hf:FunOk P f) (h:S.Body P f):SpecOk P f S.spec:=by
 intro args H K hs
 refine anext_of_calls hf ?_
 intro w0 F0 ι w vs hi hd
 obtain⟨a,F1,ι1,hdom,h1,h2,h3⟩:=genS_core hs hi hd
 exact Calls.mono (h a hdom w F1 ι1 w vs h1 h2) h3
theorem genS_okV {S:GenS} {f:FuncId} (hf:FunOk P f) (h:S.Body P f):SpecOk P f S.specV:=by
 intro args H K hs
 refine anext_of_calls hf ?_
 intro w0 F0 ι w vs hi hd
 obtain⟨a,F1,ι1,hdom,h1,h2,h3⟩:=genS_coreV hs hi hd
 exact Calls.mono (h a hdom w F1 ι1 w vs h1 h2) h3
def GenS.BodyD (S:GenS) (P:Program) (f:FuncId):Prop:=
 ∀a,S.dom a->∀(w0:World) (F0:Fp) (ι:Inj) (w:World) (vs:List Value),Inv w0 F0 ι (hpD ⟨S.next1,S.ros1,S.st⟩ (S.blks1 a) []) w->DenL ι (S.args1 a) vs->
  CallsD P f vs.toArray .returning w (fun e u' w'=>u'=.returning/\PostV w0 F0 (ι.bare S.p1) (fun v H=>∃x,S.G a x/\entV S.p1 v H ⟨S.n2,[],S.st⟩ (S.val x) (S.out x)) e w')
theorem genS_okD {S:GenS} {f:FuncId} (hf:FunOk P f) (h:S.BodyD P f):SpecOkD P f S.spec:=by
 refine⟨hf,fun args H K hs=>?_⟩
 intro w0 F0 ι w vs hi hd
 obtain⟨a,F1,ι1,hdom,h1,h2,h3⟩:=genS_core hs hi hd
 exact CallsD.mono (h a hdom w F1 ι1 w vs h1 h2) fun e u' w' ⟨hu,he⟩=>⟨hu,h3 e w' he⟩
structure Ho (p:Prop):Prop where
 out:p
theorem Ho.of {p:Prop} (q:Prop) (e:p=q) (h:q):Ho p:=⟨e▸h⟩
theorem LoopD.bodyH {D:LoopD} {ft:FuncId->Option Func} {T:Tabs} {LT:List (List Nat×LSpec)} {root:Code} (p:List Nat) (hft:FtOk P ft) (htab:TabOk P T) (hLT:LTok D.p P root LT) (n:Nat)
 (h:∀j,D.side j->Ho (exW P ft T LT n root p (sub root p) (D.fr j) (D.hp j) (D.K j))):D.Body P (sub root p):=fun j hj=>exW_ok hft htab hLT n (h j hj).out rfl
theorem nlH {f:FuncId} {fn:Func} {b:Code} {ft:FuncId->Option Func} {T:Tabs} {st:SId->Option ABlk} {args:List AVal} {G:AVal->Prop} {LT:List (List Nat×LSpec)} (hft:FtOk P ft) (htab:TabOk P T) (n:Nat) (hLT:LTok 0 P b LT)
 (hf:P.funcs[f]?=some fn) (hb:fn.body=some b) (h:Ho (exW P ft T LT n b [] b (mkFr fn.ntmps args) (H0 st) (finA P (lvl P ft T n).dx fn (fun v H=>H.st=st/\G v)))):NlCalls P f st args G:=
 fnW hft htab n hLT hf hb rfl h.out
theorem genS_body {S:GenS} {f:FuncId} {fn:Func} {b:Code} {ft:FuncId->Option Func} {T:Tabs} {LT:S.A->List (List Nat×LSpec)} (hft:FtOk P ft) (htab:TabOk P T) (n:Nat) (hLT:∀a,S.dom a->LTok S.p1 P b (LT a))
 (hf:P.funcs[f]?=some fn) (hb:fn.body=some b)
 (h:∀a,S.dom a->Ho (exW P ft T (LT a) n b [] b (mkFr fn.ntmps (S.args1 a)) (hpD ⟨S.next1,S.ros1,S.st⟩ (S.blks1 a) []) (finA P (lvl P ft T n).dx fn (fun v H=>∃x,S.G a x/\entV S.p1 v H ⟨S.n2,[],S.st⟩ (S.val x) (S.out x))))):S.Body P f/\S.BodyD P f:=by
 refine⟨fun a ha w0 F0 ι w vs hi hd=>?_,fun a ha w0 F0 ι w vs hi hd=>?_⟩
 ·exact calls_of_wp_defers hf hb (Code.wp_mono (fun e a w hp=>fin_ok (lvl_ok hft htab n).2 hp) (exW_ok hft htab (hLT a ha) n (h a ha).out rfl w0 F0 ι w _ hi (enter_rel hd) .nil))
 ·exact callsD_of_wp_defers hf hb (Code.wp_mono (fun e a w hp=>fin_ok (lvl_ok hft htab n).2 hp) (exW_ok hft htab (hLT a ha) n (h a ha).out rfl w0 F0 ι w _ hi (enter_rel hd) .nil))
end
end Go.Sx
namespace Go.Sx
open Go
variable [Syms]
section
variable {P:Program} {w0 w:World} {F0:Fp} {ι:Inj} {H:AHeap}
theorem Inv.reB (h:Inv w0 F0 ι H w) {H':AHeap} (hn:H'.next=H.next) (hro:H'.ros=H.ros) (hst:H'.st=H.st) (hb:∀id b,H'.get id=some b->∃c,H.get id=some c/\∀o,BDen ι c o->BDen ι b o):Inv w0 F0 ι H' w:=by
 refine⟨fun id b hg=>?_,fun i j b c r h1 h2 h3 h4=>?_,fun id hid=>h.fresh id (by rw[←hn];exact hid),h.frame,h.size,h.tape,h.os,h.output,h.glob,⟨h.fz.frz,fun k b r hk hr=>?_,fun x b r hx hr=>h.fz.st x b r (by rw[←hst];exact hx) hr,h.fz.stinj,fun x r hr=>by rw[hst];exact h.fz.stad x r hr⟩⟩
 ·obtain⟨c,hc,hcb⟩:=hb id b hg
  obtain⟨r,o,hr,ho,hbd,hF⟩:=h.blk id c hc
  refine⟨r,o,hr,ho,hcb o hbd,?_⟩
  have:H'.isRo id=H.isRo id:=by unfold AHeap.isRo;rw[hro]
  rw[this];exact hF
 ·obtain⟨b',hb',_⟩:=hb i b h1
  obtain⟨c',hc',_⟩:=hb j c h2
  exact h.inj i j b' c' r hb' hc' h3 h4
 ·obtain⟨c,hc,_⟩:=hb k b hk
  exact h.fz.nofz k c r hc hr
open Classical in
theorem Inv.bindSt (h:Inv w0 F0 ι H w) {ad':SId->Option Nat} {st':SId->Option ABlk} {H':AHeap} (hn:H'.next=H.next) (hro:H'.ros=H.ros) (hst:H'.st=st') (hsub:∀id b,H'.get id=some b->H.get id=some b)
 (hle:∀x r,ι.ad x=some r->ad' x=some r) (hold:∀x r,ι.ad x=some r->st' x=H.st x) (hinj:∀x y r,ad' x=some r->ad' y=some r->x=y) (had:∀x r,ad' x=some r->∃b,st' x=some b)
 (hnew:∀x r,ι.ad x=none->ad' x=some r->r<w.heap.size/\((F0.w r\/w0.heap.size<=r)\/(ι.m r).isSome=true)/\(∀id b,H'.get id=some b->ι id≠some r))
 (hbd:∀ι':Inj,ι'.ad=ad'->ι'.f=ι.f->(∀r o,ι.m r=some o->ι'.m r=some o)->∀x b r o,ι.ad x=none->ad' x=some r->st' x=some b->w.heap[r]?=some o->BDen (ι'.bare 0) b o):
 ∃ι':Inj,ι.le ι'/\ι'.ad=ad'/\ι'.f=ι.f/\Inv w0 F0 ι' H' w:=by
 let ι':Inj:=⟨ι.f,fun r=>if(ι.m r).isSome=true\/∃x,ι.ad x=none/\ad' x=some r then w.heap[r]? else none,ad'⟩
 have hm:∀r o,ι.m r=some o->ι'.m r=some o:=fun r o hr=>by
  show(if _ then _ else _)=_
  rw[if_pos (.inl (by rw[hr];rfl))]
  exact(h.fz.frz r o hr).1
 have hle':ι.le ι':=⟨fun _ _ h=>h,hm,hle⟩
 refine⟨ι',hle',rfl,rfl,⟨fun id b hg=>?_,fun i j b c r h1 h2 h3 h4=>h.inj i j b c r (hsub _ _ h1) (hsub _ _ h2) h3 h4,fun id hid=>h.fresh id (by rw[←hn];exact hid),h.frame,h.size,h.tape,h.os,h.output,h.glob,⟨fun r o hr=>?_,fun k b r hk hr=>?_,fun x b r hx hr=>?_,hinj,fun x r hr=>by rw[hst];exact had x r hr⟩⟩⟩
 ·obtain⟨r,o,hr,ho,hbd,hF⟩:=h.blk id b (hsub _ _ hg)
  refine⟨r,o,hr,ho,hbd.mono hle',?_⟩
  have:H'.isRo id=H.isRo id:=by unfold AHeap.isRo;rw[hro]
  rw[this];exact hF
 ·have hr:(if(ι.m r).isSome=true\/∃x,ι.ad x=none/\ad' x=some r then w.heap[r]? else none)=some o:=hr
  split at hr
  ·rename_i hc
   refine⟨hr,?_⟩
   have hc:(ι.m r).isSome=true\/(F0.w r\/w0.heap.size<=r):=by
    rcases hc with hc|⟨x,hx,hxr⟩
    ·exact .inl hc
    ·rcases(hnew x r hx hxr).2.1 with h1|h1
     ·exact .inr h1
     ·exact .inl h1
   rcases hc with hc|hc
   ·cases hmr:ι.m r with
    |none=>rw[hmr] at hc;cases hc
    |some o'=>exact(h.fz.frz r o' hmr).2
   ·exact .inr hc
  ·cases hr
 ·show(if _ then _ else _)=_
  rw[if_neg]
  rintro(hc|⟨x,hx,hxr⟩)
  ·rw[h.fz.nofz k b r (hsub _ _ hk) hr] at hc;cases hc
  ·exact(hnew x r hx hxr).2.2 k b hk hr
 ·rw[hst] at hx
  cases hox:ι.ad x with
  |some r'=>
   have:=hle x r' hox
   have hr:ad' x=some r:=hr
   rw[hr] at this;cases this
   rw[hold x r hox] at hx
   obtain⟨o,h1,h2⟩:=h.fz.st x b r hx hox
   exact⟨o,hm _ _ h1,h2.mono (Inj.bare_mono hle' 0)⟩
  |none=>
   have hr:ad' x=some r:=hr
   obtain⟨h1,_⟩:=hnew x r hox hr
   refine⟨w.heap[r],?_,hbd ι' rfl rfl hm x b r _ hox hr hx (Array.getElem?_eq_getElem h1)⟩
   show(if _ then _ else _)=_
   rw[if_pos (.inr ⟨x,hox,hr⟩)]
   exact Array.getElem?_eq_getElem h1
theorem loopRaw {J:Type} (I:J->World->Act->Prop) (μ:J->Nat) {x:Code} {Q:Exit->Act->World->Prop}
 (h:∀j w a,I j w a->x.wp P (fun e a' w'=>match e with
  | .normal=>∃j',μ j'<μ j/\I j' w' a'
  | .exit i=>Q (.exit i) a' w'
  | .ret=>Q .ret a' w'
  |_=>False) a w):∀j w a,I j w a->(Code.loop x).wp P Q a w:=by
 have key:∀(n:Nat) (j:J) (w:World) (a:Act),μ j<=n->I j w a->∀(b:Frame) (k:List Item) (cs:List Frame),
  ∃e a' w',Q e a' w'/\Arrives P (lone (b.at a (.code x:: .inLoop x::k)) cs w) b k cs e a' w':=by
  intro n
  induction n with
  |zero=>
   intro j w a hn hi b k cs
   obtain⟨e,a',w',hq,harr⟩:=h j w a hi b (.inLoop x::k) cs
   cases e with
   |normal=>
    obtain⟨j',hlt,_⟩:=hq
    omega
   |exit i=>exact⟨.exit i,a',w',hq,.pass (x:=.inLoop x) rfl (fun _ _=>.inl (by simp)) harr⟩
   |ret=>exact⟨.ret,a',w',hq,.pass (x:=.inLoop x) rfl (fun _ _=>.inl (by simp)) harr⟩
   |goto l=>exact hq.elim
   |panic ch=>exact hq.elim
   |outgrown=>exact hq.elim
  |succ n ih=>
   intro j w a hn hi b k cs
   obtain⟨e,a',w',hq,harr⟩:=h j w a hi b (.inLoop x::k) cs
   cases e with
   |normal=>
    obtain⟨j',hlt,hi'⟩:=hq
    obtain⟨e2,a2,w2,hq2,harr2⟩:=ih j' w' a' (by omega) hi' b k cs
    exact⟨e2,a2,w2,hq2,.of_steps (Steps.trans harr (.one step_inLoop)) harr2⟩
   |exit i=>exact⟨.exit i,a',w',hq,.pass (x:=.inLoop x) rfl (fun _ _=>.inl (by simp)) harr⟩
   |ret=>exact⟨.ret,a',w',hq,.pass (x:=.inLoop x) rfl (fun _ _=>.inl (by simp)) harr⟩
   |goto l=>exact hq.elim
   |panic ch=>exact hq.elim
   |outgrown=>exact hq.elim
 intro j w a hi b k cs
 obtain⟨e,a',w',hq,harr⟩:=key (μ j) j w a (Nat.le_refl _) hi b k cs
 exact⟨e,a',w',hq,.of_steps (.one step_loop) harr⟩
structure RecOk0 (P:Program) (f:FuncId) (fn:Func) (id:Nat) (o0 o1:Oper) (c:Call) (T T2:TypeId) (X:Code):Prop where
 hf:P.funcs[f]?=some fn
 hb:fn.body=some (.seq (.region id #[o0,o1] false) (.cond (.tmp 1) X .skip))
 hn:(fn.name== "runtime.NumGoroutine")=false
 hr:fn.results=#[]
 d0:o0.dst=some 0
 g0:o0.guard=none
 p0:o0.op=.call c
 pc:c.callee=.builtin .recover
 d1:o1.dst=some 1
 g1:o1.guard=none
 p1:o1.op=.binOp .neq T (.tmp 0) (.const .nilIface) T2
 eq:∃ms,P.underlying T=some (.interface ms)
 n3:fn.ntmps=3
def recA0:Spec:=fun args H K=>match args with
 |[]=>K (.tup []) H
 |_=>False
theorem rec0_ok {f:FuncId} {fn:Func} {id:Nat} {o0 o1:Oper} {c:Call} {T T2:TypeId} {X:Code} (R:RecOk0 P f fn id o0 o1 c T T2 X):SpecOkD P f recA0:=by
 refine⟨⟨fn,R.hf,by rw[R.hb];rfl,R.hn⟩,?_⟩
 intro args H K hs w0 F0 ι w vs hi hd
 unfold recA0 at hs
 split at hs
 ·cases hd
  refine callsD_of_wpS R.hf R.hb fun c₀ cs hu=>?_
  have htm:(([]:List Value).toArray++Array.replicate (fn.ntmps-([]:List Value).toArray.size) undef)=#[undef,undef,undef]:=by
   rw[R.n3];rfl
  rw[htm]
  refine wpS_seq (wpS_region ?_)
  have hrange:List.range (#[o0,o1]:Array Oper).size=[0,1]:=rfl
  rw[hrange]
  have e0:(#[o0,o1]:Array Oper)[0]?=some o0:=rfl
  have e1:(#[o0,o1]:Array Oper)[1]?=some o1:=rfl
  have w0':∀y,Region.wanted o0 y=true:=fun y=>by simp[Region.wanted,R.g0]
  have w1':∀y,Region.wanted o1 y=true:=fun y=>by simp[Region.wanted,R.g1]
  have hrec:recoverD (c₀::cs)=none:=by simp[recoverD,hu]
  have hx0:∀ρ,(execOp ρ o0).run P w=.ok .recover w:=fun ρ=>by
   simp only[execOp,R.p0,resolve,R.pc,Sem.run_bind,Sem.run_pure,Result.andThen_ok,invoke,builtin]
  have hx1:∀ρ:Operand->Value,ρ (.tmp 0)=.nilIface->ρ (.const .nilIface)=.nilIface->(execOp ρ o1).run P w=.ok (.value (.bool false)) w:=fun ρ h1 h2=>by
   obtain⟨ms,hu⟩:=R.eq
   have hg:=eqGuard_pass (P:=P) (w:=w) (op:=.neq) (t:=T) (x:=.tmp 0) (y:=.const .nilIface) (a:=.nilIface) (b:=.nilIface) (fun _ _=>rfl) (fun _ _ h=>by cases h)
   have hb:(binOp .neq T .nilIface .nilIface).run P w=.ok (.bool false) w:=by
    have e:binOp .neq T .nilIface .nilIface=(do pure (.bool (!(←Op.equal T .nilIface .nilIface)))):=rfl
    rw[e]
    have he:(Op.equal T .nilIface .nilIface).run P w=.ok true w:=by
     have hd:Op.maxDepth=(Op.maxDepth-1)+1:=by decide
     rw[Op.equal,hd]
     simp[Op.equalIn,run_underlying hu]
    simp only[Sem.run_bind,he,Result.andThen_ok,Sem.run_pure]
    rfl
   simp only[execOp,R.p1,h1,h2,Sem.run_bind,hg,Result.andThen_ok,hb,Sem.run_pure]
  simp only[wpOpsS,e0,e1,w0',w1',if_true,hx0,hrec,R.d0]
  have hput:(({tmps:=#[undef,undef,undef],defers:=[]}:Act).put (some 0) .nilIface)={tmps:=#[.nilIface,undef,undef],defers:=[]}:=rfl
  rw[hput]
  have:=hx1 ({tmps:=#[.nilIface,undef,undef],defers:=[]}:Act).eval rfl rfl
  rw[this]
  simp only[Oper.upon,R.d1]
  have hput2:(({tmps:=#[.nilIface,undef,undef],defers:=[]}:Act).put (some 1) (.bool false))={tmps:=#[.nilIface,.bool false,undef],defers:=[]}:=rfl
  rw[hput2]
  refine wpS_cond (t:=false) rfl ?_
  refine wpS_of_wp (wp_skip ?_)
  refine⟨rfl,.returning,by cases c₀;cases hu;rfl,.tuple #[],?_,rfl,?_⟩
  ·simp[results,R.hr,Array.mapM_eq_mapM_toList]
  ·exact⟨_,H,ι,hs,.tup .nil,Inj.le_refl _,hi⟩
 ·exact hs.elim
def LoopD.outs (D:LoopD) (e:AExit) (fr:Fr) (H:AHeap):List Way->Prop
 |[]=>False
 |W::r=>cond (exitEq e W.e) ((∃x:W.X,W.c x/\entA D.p fr H D.fn ⟨W.n,D.ros,D.st⟩ (W.s x) (W.b x) (W.d x))\/D.outs e fr H r) (D.outs e fr H r)
theorem LoopD.outs_ok {D:LoopD} {e:AExit} {fr:Fr} {H:AHeap}:∀{l:List Way},D.outs e fr H l->∃W∈l,W.e=e/\∃x:W.X,W.c x/\entA D.p fr H D.fn ⟨W.n,D.ros,D.st⟩ (W.s x) (W.b x) (W.d x)
 |W::r,h=>by
  simp only[LoopD.outs] at h
  cases hb:exitEq e W.e with
  |true=>
   rw[hb,cond_true] at h
   rcases h with⟨x,h⟩|h
   ·exact⟨W,List.mem_cons_self ..,(exitEq_eq hb).symm,x,h⟩
   ·obtain⟨V,hV,h⟩:=LoopD.outs_ok h
    exact⟨V,List.mem_cons_of_mem _ hV,h⟩
  |false=>
   rw[hb,cond_false] at h
   obtain⟨V,hV,h⟩:=LoopD.outs_ok h
   exact⟨V,List.mem_cons_of_mem _ hV,h⟩
def LoopD.K2 (D E:LoopD) (m:Nat):AExit->Fr->AHeap->Prop:=fun e fr H=>match e with
 | .normal=>(∃j',D.side j'/\D.μ j'<m/\entA D.p fr H D.fn ⟨D.n,D.ros,D.st⟩ (D.s j') (D.b j') (D.d j'))\/(∃j',E.side j'/\E.μ j'<m/\entA D.p fr H D.fn ⟨E.n,D.ros,D.st⟩ (E.s j') (E.b j') (E.d j'))
 |e=>D.outs e fr H D.ways
def LoopD.fr2 (D E:LoopD) (j:E.J):Fr:=frOf D.fn (E.s j)
def LoopD.hp2 (D E:LoopD) (j:E.J):AHeap:=hpD ⟨E.n,D.ros,D.st⟩ (E.b j) (E.d j)
structure LoopD.Body2 (D E:LoopD) (P:Program) (x:Code):Prop where
 a:∀j,D.side j->WPw D.p P x (D.fr j) (D.hp j) (D.K2 E (D.μ j))
 b:∀j,E.side j->WPw D.p P x (D.fr2 E j) (D.hp2 E j) (D.K2 E (E.μ j))
theorem LoopD.ok2 {D E:LoopD} {P:Program} {x:Code} (h:D.Body2 E P x) {j:D.J} {fr:Fr} {H:AHeap} {K:AExit->Fr->AHeap->Prop} (hk:D.at j fr H K):WPw D.p P (.loop x) fr H K:=by
 obtain⟨h1,h2,h3⟩:=hk
 refine WPw.ent (entA_ok h2) ?_
 have key:=loopW (P:=P) (pn:=D.p) (J:=D.J ⊕ E.J) (Sum.elim D.side E.side) (Sum.elim D.μ E.μ) (Sum.elim D.fr (D.fr2 E)) (Sum.elim D.hp (D.hp2 E)) (x:=x) (K:=fun e fr H=>D.outs e fr H D.ways) (fun j hj=>by
  have fin:∀{m:Nat} {frj:Fr} {Hj:AHeap},WPw D.p P x frj Hj (D.K2 E m)->WPw D.p P x frj Hj (fun e fr' H'=>match e with
   | .normal=>∃j':D.J ⊕ E.J,Sum.elim D.side E.side j'/\Sum.elim D.μ E.μ j'<m/\Ent D.p fr' H' (Sum.elim D.fr (D.fr2 E) j') (Sum.elim D.hp (D.hp2 E) j')
   |e=>D.outs e fr' H' D.ways):=fun hw=>hw.mono fun e fr H hK=>by
   cases e with
   |normal=>
    rcases hK with⟨j',a,b,c⟩|⟨j',a,b,c⟩
    ·exact⟨.inl j',a,b,entA_ok c⟩
    ·exact⟨.inr j',a,b,entA_ok c⟩
   |exit i=>exact hK
   |ret=>exact hK
  cases j with
  |inl j=>exact fin (h.a j hj)
  |inr j=>exact fin (h.b j hj)) (.inl j) h1
 refine key.post fun e fr H hK=>?_
 obtain⟨W,hm,he,x,hx,hent⟩:=LoopD.outs_ok hK
 subst he
 exact⟨_,_,entA_ok hent,allW_out h3 W hm x hx⟩
theorem LoopD.bodyH2 {P:Program} {D E:LoopD} {ft:FuncId->Option Func} {T:Tabs} {LT:List (List Nat×LSpec)} {root:Code} (p:List Nat) (hft:FtOk P ft) (htab:TabOk P T) (hLT:LTok D.p P root LT) (n:Nat)
 (h:∀j,D.side j->Ho (exW P ft T LT n root p (sub root p) (D.fr j) (D.hp j) (D.K2 E (D.μ j)))) (h2:∀j,E.side j->Ho (exW P ft T LT n root p (sub root p) (D.fr2 E j) (D.hp2 E j) (D.K2 E (E.μ j)))):D.Body2 E P (sub root p):=
 ⟨fun j hj=>exW_ok hft htab hLT n (h j hj).out rfl,fun j hj=>exW_ok hft htab hLT n (h2 j hj).out rfl⟩
def noS:Spec:=fun _ _ _=>False
theorem noS_ok {P:Program} {f:FuncId}:SpecOk P f noS:=fun _ _ _ h=>h.elim
end
end Go.Sx
