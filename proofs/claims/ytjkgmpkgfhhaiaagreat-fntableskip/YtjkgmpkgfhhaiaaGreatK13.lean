/- Lemmas of this claim; the last text says what is proved. -/
import Derived.Test.YtjkgmpkgfhhaiaaGreatK12
set_option linter.all false
namespace Go.Sx
open Go
variable [Syms]
section
variable {w0 w:World} {F0:Fp} {ι:Inj} {H:AHeap}
def mSlots (H:AHeap) (fr:Fr):List (Nat×AVal)->Sg->(Sg->Prop)->Prop
 |[],σ,K=>K σ
 |(t,v)::r,σ,K=>mV H 24 (fget fr t) v σ (fun σ=>mSlots H fr r σ K)
def mBlks (H:AHeap) (ros:List Nat):List (Nat×ABlk)->Sg->(Sg->Prop)->Prop
 |[],σ,K=>K σ
 |(i,b)::r,σ,K=>match look σ i with
  |some (.id j)=>match H.get j with
   |some x=>gd (!H.isRo j||hasN ros i) (mB H x b σ (fun σ=>mBlks H ros r σ K))
   |none=>False
  |_=>False
def PinF (p:Nat) (f:Nat->List AVal):Prop:=∀k,SubL p (f k) (f k)
def mDs (H:AHeap) (p:Nat):List DItem->List DItem->Sg->(Sg->Prop)->Prop
 |[],[],σ,K=>K σ
 |[],[.fam _ _ n],σ,K=>n=0/\K σ
 |[.one g as],[.one g' as'],σ,K=>gd (Nat.beq g g') (mLs (mV H 24) as as' σ K)
 |[.one g as,.fam g1 f n],[.fam g' f' n'],σ,K=>gd (Nat.beq g g'&&Nat.beq g1 g') (n'=n+1/\f=f'/\PinF p f/\mLs (mV H 24) as (f' n) σ K)
 |[.fam g f n],[.fam g' f' n'],σ,K=>gd (Nat.beq g g') (n=n'/\f=f'/\PinF p f/\K σ)
 |_,_,_,_=>False
def belowAll (next:Nat):Sg->Bool
 |[]=>true
 |(i,x)::r=>(match x with| .fz _=>true|_=>Nat.blt i next)&&belowAll next r
def imgs (σ:Sg):List (Nat×ABlk)->List Nat
 |[]=>[]
 |(i,_)::r=>match look σ i with
  |some (.id j)=>j::imgs σ r
  |_=>imgs σ r
def distinctN:List Nat->Bool
 |[]=>true
 |x::r=> !hasN r x&&distinctN r
def disjN (l:List Nat):List Nat->Bool
 |[]=>true
 |x::r=> !hasN l x&&disjN l r
def frOf (n:Nat) (l:List (Nat×AVal)):Fr:=⟨n,l.foldr (fun x T=>T.set x.1 (some x.2)) .nil⟩
structure HD where
 n:Nat
 ros:List Nat
 st:SId->Option ABlk
def hpD (D:HD) (l:List (Nat×ABlk)) (ds:List DItem):AHeap:=⟨l.foldr (fun x T=>T.set x.1 (some x.2)) .nil,D.n,ds,D.ros,D.st⟩
def pins:Nat->Sg
 |0=>[]
 |n+1=>(n,.id n)::pins n
def okS (D:HD) (blks:List (Nat×ABlk)) (σ:Sg):Prop:=gd (belowAll D.n σ&&(distinctN (imgs σ blks)&&disjN (imgs σ blks) (fzs σ))) True
def entA (pn:Nat) (fr:Fr) (H:AHeap) (n:Nat) (D:HD) (slots:List (Nat×AVal)) (blks:List (Nat×ABlk)) (ds:List DItem):Prop:=
 H.st=D.st/\gd (Nat.beq fr.n n) (mSlots H fr slots (pins pn) (fun σ=>mBlks H D.ros blks σ (fun σ=>mDs H pn H.defs ds σ (fun σ=>okS D blks σ))))
theorem fold_get {α:Type}:∀(l:List (Nat×α)) (i:Nat) {x:α},Tr.get (l.foldr (fun x T=>T.set x.1 (some x.2)) .nil) i=some x->(i,x)∈l
 |[],i,x,h=>by simp[Tr.get_nil] at h
 |(k,y)::r,i,x,h=>by
  simp only[List.foldr_cons,Tr.get_set] at h
  by_cases e:i=k
  ·rw[if_pos e] at h
   cases h
   rw[e];exact List.mem_cons_self ..
  ·rw[if_neg e] at h
   exact List.mem_cons_of_mem _ (fold_get r i h)
theorem hpD_get {D:HD} {l:List (Nat×ABlk)} {ds:List DItem} {i:Nat} {b:ABlk} (h:(hpD D l ds).get i=some b):(i,b)∈l:=fold_get l i h
theorem pins_look:∀{n i:Nat},i<n->look (pins n) i=some (.id i)
 |n+1,i,h=>by
  by_cases e:n=i
  ·subst e;exact look_id
  ·simp only[pins]
   rw[look_ne e]
   exact pins_look (by omega)
theorem comp_pin (hi:Inv w0 F0 ι H w) {pn:Nat} {σ:Sg} (h:Ex H (pins pn) σ):(ι.bare pn).le (comp w ι σ):=by
 refine⟨fun i r hr=>?_,fun r o hm=>comp_m hi hm,fun _ _ h=>h⟩
 by_cases e:i<pn
 ·rw[comp_id (h.l _ _ (pins_look e))]
  simpa[Inj.bare,e] using hr
 ·simp[Inj.bare,e] at hr
theorem mSlots_ok (hi:Inv w0 F0 ι H w) {fr:Fr} {a:Act} (hf:FRel ι fr a):∀{l:List (Nat×AVal)} {σ:Sg} {K:Sg->Prop},mSlots H fr l σ K->∃σ',Ex H σ σ'/\K σ'/\∀x∈l,Den (comp w ι σ') x.2 (a.tmps.getD x.1 undef)
 |[],σ,K,h=>⟨σ,Sg.ext_refl _,h,fun _ hx=>by cases hx⟩
 |(t,v)::r,σ,K,h=>by
  obtain⟨σ1,e1,h,d1⟩:=mV_ok hi 24 h (hf.t t)
  obtain⟨σ2,e2,hK,d2⟩:=mSlots_ok hi hf h
  refine⟨σ2,Sg.ext_trans e1 e2,hK,fun x hx=>?_⟩
  rcases List.mem_cons.1 hx with rfl|hx
  ·exact d1.mono (comp_le e2)
  ·exact d2 x hx
def BlkD (w0:World) (F0:Fp) (w:World) (ι:Inj) (H:AHeap) (ros:List Nat) (σ:Sg) (l:List (Nat×ABlk)):Prop:=
 ∀x∈l,∃j c r o,look σ x.1=some (.id j)/\H.get j=some c/\ι j=some r/\w.heap[r]?=some o/\BDen (comp w ι σ) x.2 o/\(F0.w r\/w0.heap.size<=r\/(F0.r r/\hasN ros x.1=true))/\(H.isRo j=true->hasN ros x.1=true)
theorem BlkD.mono {ros:List Nat} {σ σ':Sg} {l:List (Nat×ABlk)} (h:BlkD w0 F0 w ι H ros σ l) (he:Ex H σ σ'):BlkD w0 F0 w ι H ros σ' l:=fun x hx=>by
 obtain⟨j,c,r,o,h1,h2,h3,h4,h5,h6⟩:=h x hx
 exact⟨j,c,r,o,he.l _ _ h1,h2,h3,h4,h5.mono (comp_le he),h6⟩
theorem mBlks_ok (hi:Inv w0 F0 ι H w):∀{ros:List Nat} {l:List (Nat×ABlk)} {σ:Sg} {K:Sg->Prop},mBlks H ros l σ K->∃σ',Ex H σ σ'/\K σ'/\BlkD w0 F0 w ι H ros σ' l
 |ros,[],σ,K,h=>⟨σ,Sg.ext_refl _,h,fun _ hx=>by cases hx⟩
 |ros,(i,b)::rr,σ,K,h=>by
  simp only[mBlks] at h
  split at h
  ·rename_i j hl
   split at h
   ·rename_i c hg
    obtain⟨hro,h⟩:=gd_out h
    simp only[Bool.or_eq_true,Bool.not_eq_true'] at hro
    have hro':H.isRo j=true->hasN ros i=true:=fun h1=>by
     rcases hro with h2|h2
     ·rw[h1] at h2;cases h2
     ·exact h2
    obtain⟨r,o,hr,ho,hb,hF⟩:=hi.blk _ _ hg
    have hF:F0.w r\/w0.heap.size<=r\/(F0.r r/\hasN ros i=true):=by
     rcases hF with h1|h1|h1
     ·exact .inl h1
     ·exact .inr (.inl h1)
     ·exact .inr (.inr ⟨h1.1,hro' h1.2⟩)
    obtain⟨σ1,e1,h,d1⟩:=mB_ok hi h hb
    obtain⟨σ2,e2,hK,d2⟩:=mBlks_ok hi h
    refine⟨σ2,Sg.ext_trans e1 e2,hK,fun x hx=>?_⟩
    rcases List.mem_cons.1 hx with rfl|hx
    ·exact⟨j,c,r,o,e2.l _ _ (e1.l _ _ hl),hg,hr,ho,d1.mono (comp_le e2),hF,hro'⟩
    ·exact d2 x hx
   ·exact h.elim
  ·exact h.elim
theorem belowAll_ok {next:Nat}:∀{σ:Sg} {i:Nat} {x:Nm},belowAll next σ=true->look σ i=some x->i<next
 |[],i,x,_,h=>by cases h
 |(k,y)::r,i,x,hb,h=>by
  simp only[belowAll,Bool.and_eq_true] at hb
  cases y with
  |fz j=>rw[look_fz] at h;exact belowAll_ok hb.2 h
  |id j=>
   by_cases e:k=i
   ·subst e;exact blt_lt hb.1
   ·rw[look_ne e] at h;exact belowAll_ok hb.2 h
  |num j=>
   by_cases e:k=i
   ·subst e;exact blt_lt hb.1
   ·rw[look_ne e] at h;exact belowAll_ok hb.2 h
theorem hasN_of_mem:∀{l:List Nat} {i:Nat},i∈l->hasN l i=true
 |x::r,i,h=>by
  simp only[hasN]
  cases hb:Nat.beq x i with
  |true=>rfl
  |false=>
   rcases List.mem_cons.1 h with rfl|h
   ·rw[Nat.beq_refl] at hb;cases hb
   ·exact hasN_of_mem h
theorem disjN_ok {l:List Nat}:∀{r:List Nat} {x:Nat},disjN l r=true->x∈r->x∉l
 |y::r,x,h,hx,hm=>by
  simp only[disjN,Bool.and_eq_true,Bool.not_eq_true'] at h
  rcases List.mem_cons.1 hx with rfl|hx
  ·rw[hasN_of_mem hm] at h;cases h.1
  ·exact disjN_ok h.2 hx hm
theorem imgs_mem {σ:Sg}:∀{l:List (Nat×ABlk)} {z:Nat×ABlk} {j:Nat},z∈l->look σ z.1=some (.id j)->j∈imgs σ l
 |u::us,z,j,hz,hl=>by
  simp only[imgs]
  rcases List.mem_cons.1 hz with rfl|hz
  ·rw[hl];exact List.mem_cons_self ..
  ·have:=imgs_mem hz hl
   split
   ·exact List.mem_cons_of_mem _ this
   ·exact this
theorem imgs_inj {σ:Sg}:∀{l:List (Nat×ABlk)} {x y:Nat×ABlk} {j:Nat},distinctN (imgs σ l)=true->x∈l->y∈l->look σ x.1=some (.id j)->look σ y.1=some (.id j)->x.1=y.1
 |(i,b)::r,x,y,j,h,hx,hy,h1,h2=>by
  simp only[imgs] at h
  rcases List.mem_cons.1 hx with rfl|hx<;>rcases List.mem_cons.1 hy with rfl|hy
  ·rfl
  ·rw[h1] at h
   simp only[distinctN,Bool.and_eq_true,Bool.not_eq_true'] at h
   have:=hasN_of_mem (imgs_mem hy h2)
   rw[this] at h;cases h.1
  ·rw[h2] at h
   simp only[distinctN,Bool.and_eq_true,Bool.not_eq_true'] at h
   have:=hasN_of_mem (imgs_mem hx h1)
   rw[this] at h;cases h.1
  ·split at h
   ·simp only[distinctN,Bool.and_eq_true] at h
    exact imgs_inj h.2 hx hy h1 h2
   ·exact imgs_inj h hx hy h1 h2
theorem mDs_ok (hi:Inv w0 F0 ι H w) {pn:Nat}:∀{l t:List DItem} {σ:Sg} {K:Sg->Prop} {ds:List Deferred},mDs H pn l t σ K->Ex H (pins pn) σ->DRel ι l ds->∃σ',Ex H σ σ'/\K σ'/\DRel (comp w ι σ') t ds:=by
 intro l t σ K ds h hp hd
 have fam:∀{σ':Sg} {g:Nat} {f:Nat->List AVal},Ex H (pins pn) σ'->PinF pn f->∀{n dn},DFam ι g f n dn->DFam (comp w ι σ') g f n dn:=by
  intro σ' g f hp hpin n dn hd
  induction hd with
  |zero=>exact .zero
  |succ h hs ih=>
   obtain⟨cap,h1,h2⟩:=h.ex
   exact .succ ⟨cap,h1,hpin _ _ _ _ (comp_pin hi hp) h2⟩ ih
 unfold mDs at h
 split at h
 ·cases hd;exact⟨σ,Sg.ext_refl _,h,.nil⟩
 ·cases hd
  obtain⟨rfl,hK⟩:=h
  exact⟨σ,Sg.ext_refl _,hK,.fam .zero .nil⟩
 ·obtain⟨hg,h⟩:=gd_out h
  cases hd with
  |one h1 hr=>
  cases hr
  obtain⟨cap,h2,h3⟩:=h1.ex
  obtain⟨σ1,e1,hK,d1⟩:=mLs_ok (mV_ok hi 24) h h3
  exact⟨σ1,e1,hK,.one ⟨cap,by rw[←Nat.eq_of_beq_eq_true hg];exact h2,d1⟩ .nil⟩
 ·obtain⟨hg,hn1,hf1,hpin,hx⟩:=gd_out h
  clear h
  subst hn1;subst hf1
  simp only[Bool.and_eq_true] at hg
  have g1:=Nat.eq_of_beq_eq_true hg.1
  have g2:=Nat.eq_of_beq_eq_true hg.2
  subst g1;subst g2
  cases hd with
  |one h1 hr=>
  cases hr with
  |fam h4 hr=>
  cases hr
  obtain⟨cap,h2,h3⟩:=h1.ex
  obtain⟨σ1,e1,hK,d1⟩:=mLs_ok (mV_ok hi 24) hx h3
  exact⟨σ1,e1,hK,.fam (.succ ⟨cap,h2,d1⟩ (fam (Sg.ext_trans hp e1) hpin h4)) .nil⟩
 ·obtain⟨hg,rfl,rfl,hpin,hK⟩:=gd_out h
  have g1:=Nat.eq_of_beq_eq_true hg
  subst g1
  cases hd with
  |fam h4 hr=>
  cases hr
  exact⟨σ,Sg.ext_refl _,hK,.fam (fam hp hpin h4) .nil⟩
 ·exact h.elim
theorem small_inv (hi:Inv w0 F0 ι H w) {D:HD} {blks:List (Nat×ABlk)} {ds:List DItem} {σ:Sg} (hst:H.st=D.st) (d2:BlkD w0 F0 w ι H D.ros σ blks) (hok:okS D blks σ) (hz:FzOk H σ):Inv w0 F0 (comp w ι σ) (hpD D blks ds) w:=by
 obtain⟨hc,_⟩:=gd_out hok
 simp only[Bool.and_eq_true] at hc
 refine⟨?_,?_,?_,hi.frame,hi.size,hi.tape,hi.os,hi.output,hi.glob,⟨?_,?_,?_,?_,?_⟩⟩
 ·intro i b hg
  obtain⟨j,c,r,o,hl,hg',hr,ho,hb,hF,_⟩:=d2 (i,b) (hpD_get hg)
  exact⟨r,o,by rw[comp_id hl];exact hr,ho,hb,hF⟩
 ·intro i j b c r hi' hj' h1 h2
  have mi:=hpD_get hi'
  have mj:=hpD_get hj'
  obtain⟨ja,ca,ra,_,hla,hga,hra,_⟩:=d2 (i,b) mi
  obtain⟨jb,cb,rb,_,hlb,hgb,hrb,_⟩:=d2 (j,c) mj
  simp only at hla hlb
  rw[comp_id hla] at h1
  rw[comp_id hlb] at h2
  have:=hi.inj ja jb ca cb r hga hgb h1 h2
  subst this
  exact imgs_inj hc.2.1 mi mj hla hlb
 ·intro i hle
  have hle:D.n<=i:=hle
  cases hl:look σ i with
  |none=>show(match look σ i with|some (.id j)=>ι j|some (.num n)=>some n|_=>none)=none;rw[hl]
  |some x=>
   have:=belowAll_ok hc.1 hl
   omega
 ·intro r o hm
  simp only[comp] at hm
  split at hm
  ·rename_i hcase
   refine⟨hm,?_⟩
   rcases hcase with h1|⟨j,hj,hjr⟩
   ·cases hm1:ι.m r with
    |none=>rw[hm1] at h1;cases h1
    |some o'=>exact(hi.fz.frz r o' hm1).2
   ·obtain⟨b,hg,hro⟩:=hz j hj
    obtain⟨r',o',hr',_,_,hF⟩:=hi.blk j b hg
    rw[hjr] at hr';cases hr'
    rcases hF with h1|h1|h1
    ·exact .inr (.inl h1)
    ·exact .inr (.inr h1)
    ·rw[hro] at h1;cases h1.2
  ·cases hm
 ·intro k b r hk hr
  obtain⟨j,c,r',o,hl,hg',hr',ho,_⟩:=d2 (k,b) (hpD_get hk)
  rw[comp_id hl] at hr
  rw[hr] at hr';cases hr'
  simp only[comp]
  rw[if_neg]
  rintro(h1|⟨j',hj',hjr⟩)
  ·rw[hi.fz.nofz j c r hg' hr] at h1;cases h1
  ·obtain⟨b',hg2,_⟩:=hz j' hj'
   have:=hi.inj j' j b' c r hg2 hg' hjr hr
   subst this
   exact disjN_ok hc.2.2 hj' (imgs_mem (hpD_get hk) hl)
 ·intro x b r hx hr
  have hx:H.st x=some b:=by rw[hst];exact hx
  obtain⟨o,h1,h2⟩:=hi.fz.st x b r hx hr
  exact⟨o,comp_m hi h1,h2.mono (by have:=Inj.bare_mono (comp_bare hi (σ:=σ)) 0;rwa [Inj.bare_bare] at this)⟩
 ·intro x y r h1 h2
  exact hi.fz.stinj x y r h1 h2
 ·intro x r hr
  show ∃b,D.st x=some b
  rw[←hst];exact hi.fz.stad x r hr
theorem pins_fz:∀(n:Nat),fzs (pins n)=[]
 |0=>rfl
 |n+1=>by simp only[pins,fzs];exact pins_fz n
theorem pins_ok (H:AHeap) (n:Nat):FzOk H (pins n):=fun j hj=>by rw[pins_fz] at hj;cases hj
theorem entA_ok {pn:Nat} {fr:Fr} {H:AHeap} {n:Nat} {D:HD} {slots:List (Nat×AVal)} {blks:List (Nat×ABlk)} {ds:List DItem} (h:entA pn fr H n D slots blks ds):Ent pn fr H (frOf n slots) (hpD D blks ds):=by
 intro w0 F0 ι w a hi hf hd
 obtain⟨hst,h⟩:=h
 obtain⟨hc,h⟩:=gd_out h
 obtain⟨σ1,e1,h,d1⟩:=mSlots_ok hi hf h
 obtain⟨σ2,e2,h,d2⟩:=mBlks_ok hi h
 obtain⟨σ3,e3,h,d3⟩:=mDs_ok hi h (Sg.ext_trans e1 e2) hd
 have e13:=Sg.ext_trans (Sg.ext_trans e1 e2) e3
 refine⟨comp w ι σ3,comp_pin hi e13,small_inv hi hst (d2.mono e3) h (e13.n (pins_ok H pn)),⟨by rw[←hf.n];exact(Nat.eq_of_beq_eq_true hc).symm,fun t=>?_⟩,d3⟩
 cases hg:Tr.get (frOf n slots).t t with
 |none=>simp only[fget,hg,Option.getD_none];exact .top
 |some v=>
  simp only[fget,hg,Option.getD_some]
  exact(d1 (t,v) (fold_get slots t hg)).mono (comp_le (Sg.ext_trans e2 e3))
end
end Go.Sx
namespace Go.Sx
open Go
variable [Syms]
structure Way where
 e:AExit
 X:Type
 c:X->Prop
 s:X->List (Nat×AVal)
 b:X->List (Nat×ABlk)
 d:X->List DItem:=fun _=>[]
 n:Nat
def exitEq:AExit->AExit->Bool
 | .normal,.normal=>true
 | .exit i,.exit j=>Nat.beq i j
 | .ret,.ret=>true
 |_,_=>false
theorem exitEq_eq {a b:AExit} (h:exitEq a b=true):a=b:=by
 cases a<;>cases b<;>simp only[exitEq] at h<;>first|rfl|(rw[Nat.eq_of_beq_eq_true h])|cases h
def wayFor (e:AExit):List Way->Option Way
 |[]=>none
 |W::r=>cond (exitEq e W.e) (some W) (wayFor e r)
theorem wayFor_ok {e:AExit}:∀{l:List Way} {W:Way},wayFor e l=some W->W∈l/\W.e=e
 |V::r,W,h=>by
  simp only[wayFor] at h
  cases hb:exitEq e V.e with
  |true=>rw[hb,cond_true] at h;cases h;exact⟨List.mem_cons_self ..,(exitEq_eq hb).symm⟩
  |false=>
   rw[hb,cond_false] at h
   obtain⟨h1,h2⟩:=wayFor_ok h
   exact⟨List.mem_cons_of_mem _ h1,h2⟩
structure LoopD where
 J:Type
 side:J->Prop
 μ:J->Nat
 fn:Nat
 p:Nat:=0
 s:J->List (Nat×AVal)
 b:J->List (Nat×ABlk)
 d:J->List DItem:=fun _=>[]
 n:Nat
 ros:List Nat
 st:SId->Option ABlk
 ways:List Way
def LoopD.fr (D:LoopD) (j:D.J):Fr:=frOf D.fn (D.s j)
def LoopD.hp (D:LoopD) (j:D.J):AHeap:=hpD ⟨D.n,D.ros,D.st⟩ (D.b j) (D.d j)
def Way.fr (W:Way) (fn:Nat) (x:W.X):Fr:=frOf fn (W.s x)
def Way.hp (W:Way) (ros:List Nat) (st:SId->Option ABlk) (x:W.X):AHeap:=hpD ⟨W.n,ros,st⟩ (W.b x) (W.d x)
def LoopD.K (D:LoopD) (j:D.J):AExit->Fr->AHeap->Prop:=fun e fr H=>match e with
 | .normal=>∃j',D.side j'/\D.μ j'<D.μ j/\entA D.p fr H D.fn ⟨D.n,D.ros,D.st⟩ (D.s j') (D.b j') (D.d j')
 |e=>match wayFor e D.ways with
  |some W=>∃x:W.X,W.c x/\entA D.p fr H D.fn ⟨W.n,D.ros,D.st⟩ (W.s x) (W.b x) (W.d x)
  |none=>False
def allW (fn:Nat) (ros:List Nat) (st:SId->Option ABlk) (K:AExit->Fr->AHeap->Prop):List Way->Prop
 |[]=>True
 |[W]=>∀x,W.c x->K W.e (W.fr fn x) (W.hp ros st x)
 |W::r=>(∀x,W.c x->K W.e (W.fr fn x) (W.hp ros st x))/\allW fn ros st K r
theorem allW_out {fn:Nat} {ros:List Nat} {st:SId->Option ABlk} {K:AExit->Fr->AHeap->Prop}:∀{l:List Way},allW fn ros st K l->∀W∈l,∀x,W.c x->K W.e (W.fr fn x) (W.hp ros st x)
 |[W],h,V,hV,x,hx=>by rw[List.mem_singleton] at hV;subst hV;exact h x hx
 |W::V'::r,h,V,hV,x,hx=>by
  rcases List.mem_cons.1 hV with rfl|hV
  ·exact h.1 x hx
  ·exact allW_out h.2 V hV x hx
def LoopD.at (D:LoopD) (j:D.J):LSpec:=fun fr H K=>D.side j/\entA D.p fr H D.fn ⟨D.n,D.ros,D.st⟩ (D.s j) (D.b j) (D.d j)/\allW D.fn D.ros D.st K D.ways
def LoopD.Body (D:LoopD) (P:Program) (x:Code):Prop:=∀j,D.side j->WPw D.p P x (D.fr j) (D.hp j) (D.K j)
theorem LoopD.ok {D:LoopD} {P:Program} {x:Code} (h:D.Body P x) {j:D.J} {fr:Fr} {H:AHeap} {K:AExit->Fr->AHeap->Prop} (hk:D.at j fr H K):WPw D.p P (.loop x) fr H K:=by
 obtain⟨h1,h2,h3⟩:=hk
 refine WPw.ent (entA_ok h2) ?_
 refine(loopW (P:=P) (pn:=D.p) D.side D.μ D.fr D.hp (x:=x) (K:=fun e fr H=>match wayFor e D.ways with
  |some W=>∃x:W.X,W.c x/\entA D.p fr H D.fn ⟨W.n,D.ros,D.st⟩ (W.s x) (W.b x) (W.d x)
  |none=>False) (fun j hj=>(h j hj).mono fun e fr H hK=>?_) j h1).post fun e fr H hK=>?_
 ·cases e with
  |normal=>
   obtain⟨j',a,b,c⟩:=hK
   exact⟨j',a,b,entA_ok c⟩
  |exit i=>exact hK
  |ret=>exact hK
 ·split at hK
  ·rename_i W hW
   obtain⟨x,hx,hent⟩:=hK
   obtain⟨hm,he⟩:=wayFor_ok hW
   subst he
   exact⟨_,_,entA_ok hent,allW_out h3 W hm x hx⟩
  ·exact hK.elim
theorem LTok.nil {pn:Nat} {P:Program} {root:Code}:LTok pn P root []:=fun _ hx=>by cases hx
theorem LTok.cons {pn:Nat} {P:Program} {root:Code} {p:List Nat} {s:LSpec} {LT:List (List Nat×LSpec)} (h:∀fr H K,s fr H K->WPw pn P (sub root p) fr H K) (hr:LTok pn P root LT):LTok pn P root ((p,s)::LT):=fun x hx=>by
 rcases List.mem_cons.1 hx with rfl|hx
 ·exact h
 ·exact hr x hx
theorem of_eq {p q:Prop} (e:p=q) (h:q):p:=e▸h
end Go.Sx
namespace Go.Sx
open Go
variable [Syms]
section
variable {P:Program} {w0 w:World} {F0:Fp} {ι:Inj} {H:AHeap}
theorem fnW {pn:Nat} {ft:FuncId->Option Func} {T:Tabs} {LT:List (List Nat×LSpec)} (hft:FtOk P ft) (htab:TabOk P T) {f:FuncId} {fn:Func} {b:Code} {args:List AVal} {K:AVal->AHeap->Prop} (n:Nat) (hLT:LTok pn P b LT)
 (hf:P.funcs[f]?=some fn) (hb:fn.body=some b) (hH:H.defs=[]) (h:exW P ft T LT n b [] b (mkFr fn.ntmps args) H (finA P (lvl P ft T n).dx fn K)):
 ∀(w0:World) (F0:Fp) (ι:Inj) (w:World) (vs:List Value),Inv w0 F0 ι H w->DenL ι args vs->Calls P f vs.toArray w (PostV w0 F0 (ι.bare pn) K):=
 callsW (lvl_ok hft htab n).2 hf hb hH (exW_ok hft htab hLT n h rfl)
def H0 (st:SId->Option ABlk):AHeap:=⟨.nil,0,[],[],st⟩
def noF (ι:Inj):Fp:=⟨fun _=>False,fun _=>False,fun r=>∃o,ι.m r=some o⟩
theorem Inv.empty (hi:Inv w0 F0 ι H w):Inv w (noF ι) (ι.bare 0) (H0 H.st) w:=
 ⟨fun id b h=>by simp[H0,AHeap.get,Tr.get_nil] at h,fun i j b c r h=>by simp[H0,AHeap.get,Tr.get_nil] at h,fun _ _=>by simp[Inj.bare],fun _ _ _=>rfl,Nat.le_refl _,rfl,rfl,rfl,⟨hi.good,fun x hx=>⟨Nat.lt_of_lt_of_le (hi.glob.2 x hx).1 hi.size,fun h=>h⟩⟩,
  ⟨fun r o hm=>⟨(hi.fz.frz r o hm).1,.inl ⟨o,hm⟩⟩,fun k b r h=>by simp[H0,AHeap.get,Tr.get_nil] at h,fun x b r hx hr=>by rw[Inj.bare_bare];exact hi.fz.st x b r hx hr,hi.fz.stinj,hi.fz.stad⟩⟩
def Inj.with (ι ι':Inj):Inj:=⟨ι.f,ι'.m,ι'.ad⟩
theorem Inv.kept {ι':Inj} {H':AHeap} {w':World} (h:Inv w (noF ι) ι' H' w') (hst:H'.st=H.st) (hle:(ι.bare 0).le ι') (hi:Inv w0 F0 ι H w):Inv w0 F0 (ι.with ι') H w'/\ι.le (ι.with ι'):=by
 have hle2:ι.le (ι.with ι'):=⟨fun _ _ h=>h,hle.m,hle.ad⟩
 have hlt:∀{id b r},H.get id=some b->ι id=some r->r<w.heap.size:=fun hg hr=>by
  obtain⟨r',o,hr',ho,_⟩:=hi.blk _ _ hg
  rw[hr] at hr';cases hr'
  rcases Nat.lt_or_ge _ w.heap.size with h'|h'
  ·exact h'
  ·rw[Array.getElem?_eq_none h'] at ho;cases ho
 refine⟨⟨fun id b hg=>?_,hi.inj,hi.fresh,fun r hr hf=>?_,Nat.le_trans hi.size h.size,h.tape.trans hi.tape,h.os.trans hi.os,h.output.trans hi.output,hi.glob,⟨fun r o hm=>?_,fun k b r hk hr=>?_,fun x b r hx hr=>h.fz.st x b r (by rw[hst];exact hx) hr,h.fz.stinj,fun x r hr=>by rw[←hst];exact h.fz.stad x r hr⟩⟩,hle2⟩
 ·obtain⟨r,o,hr,ho,hb,hF⟩:=hi.blk id b hg
  refine⟨r,o,hr,?_,hb.mono hle2,hF⟩
  rw[h.frame r (hlt hg hr) (fun h=>h)]
  exact ho
 ·rw[h.frame r (Nat.lt_of_lt_of_le hr hi.size) (fun h=>h)]
  exact hi.frame r hr hf
 ·obtain⟨h1,h2⟩:=h.fz.frz r o hm
  refine⟨h1,?_⟩
  rcases h2 with⟨o',ho'⟩|h2|h2
  ·exact(hi.fz.frz r o' ho').2
  ·exact h2.elim
  ·exact .inr (.inr (Nat.le_trans hi.size h2))
 ·cases hm:(ι.with ι').m r with
  |none=>rfl
  |some o=>
   obtain⟨_,h2⟩:=h.fz.frz r o hm
   rcases h2 with⟨o',ho'⟩|h2|h2
   ·rw[hi.fz.nofz k b r hk hr] at ho';cases ho'
   ·exact h2.elim
   ·exact absurd (hlt hk hr) (Nat.not_lt.2 h2)
def nlS:AVal->Bool
 | .lit _=>true
 | .any=>true
 | .top=>true
 | .str _=>true
 | .rope _=>true
 | .lenr _=>true
 | .ub _=>true
 | .sp _ _=>true
 | .ssl _ _ _=>true
 | .smp _=>true
 | .by_ _=>true
 | .bp _ _=>true
 | .e0=>true
 |_=>false
def nl:AVal->Bool
 | .tup []=>true
 | .tup [a]=>nlS a
 | .tup [a,b]=>nlS a&&nlS b
 | .tup [a,b,c]=>nlS a&&(nlS b&&nlS c)
 |v=>nlS v
theorem nlS_sub {p:Nat} {a:AVal} (h:nlS a=true):SubA p a a:=by
 intro ι ι' v hle hd
 cases hd<;>first
  |exact .lit
  |(rename_i h1 h2;exact .any h1 h2)
  |exact .top
  |exact .str
  |exact .rope
  |exact .lenr
  |(rename_i h1;exact .ub h1)
  |(rename_i h1;exact .sp (hle.ad _ _ h1))
  |(rename_i h1 h2;exact .ssl (hle.ad _ _ h1) h2)
  |(rename_i h1;exact .smp (hle.ad _ _ h1))
  |(rename_i h1 h2 h3;exact .by_ (hle.m _ _ h1) h2 h3)
  |exact .by0
  |(rename_i h1 h2;exact .bp (hle.m _ _ h1) h2)
  |exact .e0
  |cases h
theorem SubL.nil {p:Nat}:SubL p [] []:=fun ι ι' v _ hd=>by cases hd;exact .nil
theorem SubL.cons {p:Nat} {a b:AVal} {as bs:List AVal} (h:SubA p a b) (hs:SubL p as bs):SubL p (a::as) (b::bs):=fun ι ι' v hle hd=>by
 cases hd with
 |cons h1 h2=>exact .cons (h ι ι' _ hle h1) (hs ι ι' _ hle h2)
theorem SubA.tup {p:Nat} {as bs:List AVal} (h:SubL p as bs):SubA p (.tup as) (.tup bs):=fun ι ι' v hle hd=>by
 cases hd with
 |tup h1=>exact .tup (h ι ι' _ hle h1)
theorem SubA.agg {p:Nat} {as bs:List AVal} (h:SubL p as bs):SubA p (.agg as) (.agg bs):=fun ι ι' v hle hd=>by
 cases hd with
 |agg h1=>exact .agg (h ι ι' _ hle h1)
theorem SubA.ifc {p:Nat} {t:TypeId} {a b:AVal} (h:SubA p a b):SubA p (.ifc t a) (.ifc t b):=fun ι ι' v hle hd=>by
 cases hd with
 |ifc h1=>exact .ifc (h ι ι' _ hle h1)
theorem SubA.fn {p:Nat} {f:Fn} {as bs xs ys:List AVal} (h:SubL p as bs) (h':SubL p xs ys):SubA p (.fn f as xs) (.fn f bs ys):=fun ι ι' v hle hd=>by
 cases hd with
 |fn h1 h2=>exact .fn (h ι ι' _ hle h1) (h' ι ι' _ hle h2)
theorem SubA.ptr {p i o:Nat} (h:i<p):SubA p (.ptr i o) (.ptr i o):=fun ι ι' v hle hd=>by
 cases hd with
 |ptr hr=>exact .ptr (hle.f _ _ (by simp[Inj.bare,h,hr]))
theorem SubA.fam {p n:Nat} {f g:Nat->AVal} (h:∀k,k<n->SubA p (f k) (g k)):SubA p (.fam f n) (.fam g n):=fun ι ι' v hle hd=>by
 cases hd with
 |fam hm hn hv hl ho=>exact .fam (hle.m _ _ hm) hn (fun k v hk=>h k (by have:=(List.getElem?_eq_some_iff.1 hk).1;omega) ι ι' v hle (hv k v hk)) hl ho
 |fam0=>exact .fam0
theorem SubA.famx {p n:Nat} {f g:Nat->AVal} (h:∀k,k<n->SubA p (f k) (g k)):SubA p (.famx f n) (.famx g n):=fun ι ι' v hle hd=>by
 cases hd with
 |famx h1=>exact .famx (SubA.fam h ι ι' _ hle h1)
theorem SubA.fmw {p wd n:Nat} {f g:Nat->List AVal} (h:∀k,k<n->SubL p (f k) (g k)):SubA p (.fmw f wd n) (.fmw g wd n):=fun ι ι' v hle hd=>by
 cases hd with
 |fmw hm hn hv hl ho=>exact .fmw (hle.m _ _ hm) hn (fun k hk=>h k hk ι ι' _ hle (hv k hk)) hl ho
 |fmw0=>exact .fmw0
theorem SubA.fpt {p o:Nat} {as bs:List AVal} (h:SubL p as bs):SubA p (.fpt as o) (.fpt bs o):=fun ι ι' v hle hd=>by
 cases hd with
 |fpt hm hv=>exact .fpt (hle.m _ _ hm) (h ι ι' _ hle hv)
theorem SubA.ite {p:Nat} {c d:Bool} {a b a' b':AVal} (e:c=d) (h:c=true->SubA p a a') (h':c=false->SubA p b b'):SubA p (.ite c a b) (.ite d a' b'):=fun ι ι' v hle hd=>by
 subst e
 cases hd with
 |ite ht hf=>exact .ite (fun e=>h e ι ι' v hle (ht e)) (fun e=>h' e ι ι' v hle (hf e))
theorem nl_sub {p:Nat} {a:AVal} (h:nl a=true):SubA p a a:=by
 unfold nl at h
 split at h
 ·exact .tup .nil
 ·exact .tup (.cons (nlS_sub h) .nil)
 ·simp only[Bool.and_eq_true] at h
  exact .tup (.cons (nlS_sub h.1) (.cons (nlS_sub h.2) .nil))
 ·simp only[Bool.and_eq_true] at h
  exact .tup (.cons (nlS_sub h.1) (.cons (nlS_sub h.2.1) (.cons (nlS_sub h.2.2) .nil)))
 ·exact nlS_sub h
theorem nlL_sub {p:Nat}:∀{l:List AVal},l.all nl=true->SubL p l l
 |[],_=>.nil
 |a::as,h=>by
  simp only[List.all_cons,Bool.and_eq_true] at h
  exact .cons (nl_sub h.1) (nlL_sub h.2)
theorem SubF.refl {f:Nat->AVal} {n:Nat} {us:List (Nat×AVal)} (h:∀k,k<n->SubA 0 (f k) (f k)):SubF f f n us:=fun k hk _=>h k hk
theorem PinF.of {p:Nat} {f:Nat->List AVal} (h:∀k,SubL p (f k) (f k)):PinF p f:=h
def specN (A X:Type) (st:SId->Option ABlk) (dec:List AVal->Option A) (dom:A->Prop) (G:A->X->Prop) (mk:X->AVal):Spec:=fun args H K=>match dec args with
 |some a=>H.st=st/\dom a/\∀x,G a x->K (mk x) H
 |none=>False
def specF (A:Type) (st:SId->Option ABlk) (dec:List AVal->Option A) (dom:A->Prop) (F:A->AVal):Spec:=fun args H K=>match dec args with
 |some a=>H.st=st/\dom a/\K (F a) H
 |none=>False
def NlCalls (P:Program) (f:FuncId) (st:SId->Option ABlk) (args:List AVal) (G:AVal->Prop):Prop:=
 ∀(w0:World) (F0:Fp) (ι:Inj) (w:World) (vs:List Value),Inv w0 F0 ι (H0 st) w->DenL ι args vs->Calls P f vs.toArray w (PostV w0 F0 (ι.bare 0) (fun v H=>H.st=st/\G v))
theorem acalls_nl {f:FuncId} {args:List AVal} {G:AVal->Prop} {K:AVal->AHeap->Prop} (hn:SubL 0 args args)
 (h:NlCalls P f H.st args G) (hG:∀v,G v->SubA 0 v v/\K v H):ACalls P f args H K:=by
 intro w0 F0 ι w vs hi hd
 have hb:(ι.bare 0).le (ι.bare 0):=Inj.le_refl _
 refine Calls.mono (h w (noF ι) (ι.bare 0) w vs (Inv.empty hi) (hn _ _ _ (by exact⟨fun i r h=>h,fun _ _ h=>h,fun _ _ h=>h⟩) hd)) fun e w' he=>?_
 cases e<;>first
  |exact he.elim
  |(obtain⟨a,H',ι',hK,hda,hle,hinv⟩:=he
    rw[Inj.bare_bare] at hle
    obtain⟨h1,h2⟩:=hG a hK.2
    obtain⟨k1,k2⟩:=hinv.kept hK.1 hle hi
    exact⟨a,H,ι.with ι',h2,h1 ι' (ι.with ι') _ ⟨fun i r h=>by simp[Inj.bare] at h,fun _ _ h=>h,fun _ _ h=>h⟩ hda,k2,k1⟩)
theorem specN_ok {f:FuncId} {A X:Type} {st:SId->Option ABlk} {dec:List AVal->Option A} {dom:A->Prop} {G:A->X->Prop} {mk:X->AVal} (hf:FunOk P f) (hmk:∀x,SubA 0 (mk x) (mk x))
 (h:∀args a,dec args=some a->dom a->SubL 0 args args/\NlCalls P f st args (fun v=>∃x,G a x/\v=mk x)):
 SpecOk P f (specN A X st dec dom G mk):=by
 intro args H K hs
 unfold specN at hs
 split at hs
 ·rename_i a ha
  obtain⟨rfl,hs1,hs2⟩:=hs
  obtain⟨h1,h2⟩:=h args a ha hs1
  exact anext_of_calls hf (acalls_nl h1 h2 fun v ⟨x,hx,e⟩=>by subst e;exact⟨hmk x,hs2 x hx⟩)
 ·exact hs.elim
theorem specF_ok {f:FuncId} {A:Type} {st:SId->Option ABlk} {dec:List AVal->Option A} {dom:A->Prop} {F:A->AVal} (hf:FunOk P f) (hmk:∀x,SubA 0 (F x) (F x))
 (h:∀args a,dec args=some a->dom a->SubL 0 args args/\NlCalls P f st args (fun v=>v=F a)):
 SpecOk P f (specF A st dec dom F):=by
 intro args H K hs
 unfold specF at hs
 split at hs
 ·rename_i a ha
  obtain⟨rfl,hs1,hs2⟩:=hs
  obtain⟨h1,h2⟩:=h args a ha hs1
  exact anext_of_calls hf (acalls_nl h1 h2 fun v e=>by subst e;exact⟨hmk a,hs2⟩)
 ·exact hs.elim
def dec1:List AVal->Option (List UInt8)
 |[.str l]=>some l
 |_=>none
theorem dec1_ok {args:List AVal} {l:List UInt8} (h:dec1 args=some l):args=[.str l]:=by
 unfold dec1 at h
 split at h
 ·cases h;rfl
 ·cases h
end
theorem gd_iff {b:Bool} {p:Prop}:gd b p↔(b=true/\p):=⟨gd_out,fun h=>gd_in h.1 h.2⟩
theorem br_iff {b:Bool} {p q:Prop}:br b p q↔((b=true->p)/\(b=false->q)):=
 ⟨fun h=>by
  cases b
  ·exact⟨fun e=>(by cases e),fun _=>h⟩
  ·exact⟨fun _=>h,fun e=>(by cases e)⟩,fun h=>br_in h.1 h.2⟩
theorem blt_iff {a b:Nat}:Nat.blt a b=true↔a<b:=⟨blt_lt,fun h=>Nat.ble_eq_true_of_le h⟩
theorem ble_iff {a b:Nat}:Nat.ble a b=true↔a<=b:=⟨ble_le,fun h=>Nat.ble_eq_true_of_le h⟩
theorem blt_iff' {a b:Nat}:Nat.blt a b=false↔b<=a:=by
 rw[←Bool.not_eq_true,blt_iff];omega
theorem ble_iff' {a b:Nat}:Nat.ble a b=false↔b<a:=by
 rw[←Bool.not_eq_true,ble_iff];omega
end Go.Sx
