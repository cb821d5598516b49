/- Lemmas of this claim; the last text says what is proved. -/
import Derived.Test.YtblencgndjjleaaGreatDoorK07
import Derived.OrdersHeld
set_option linter.all false
namespace Go.Sx
open Go
variable [Syms]
def e_8(ops:Array Oper)(j:Nat):List Nat:=match ops[j]? with
 |some o=>(o.after.toList.filter (Region.binds .any)).map (·.on)
 |none=>[]
abbrev Held:=List (Nat×(World->Prop))
def Held.past(L:Held)(ops:Array Oper)(j:Nat):Held:=L.filter fun x=> !(e_8 ops j).contains x.1
section
variable {P:Program} {ops:Array Oper} {Q:Exit->Act->World->Prop}
def wpW(P:Program)(ops:Array Oper)(Q:Exit->Act->World->Prop):Nat->Array Bool->Held->Act->World->Prop
 |0,listed,_,a,w=>Region.ready .any ops listed=[]/\Q .normal a w
 |fuel+1,listed,L,a,w=>
  (Region.ready .any ops listed=[]->Q .normal a w)/\
  ∀j∈Region.ready .any ops listed,wpOp P ops Q j (fun a' w'=>(∀x∈L.past ops j,x.2 w')/\wpW P ops Q fuel (listed.setIfInBounds j true) (L.past ops j) a' w') a w
theorem f_2:∀(fuel:Nat) (listed:Array Bool) (L:Held) (a:Act) (w:World),wpW P ops Q fuel listed L a w->wpAny P .any ops Q fuel listed a w
 |0,_,_,_,_,h=>h
 |fuel+1,_,_,_,_,h=>⟨h.1,fun i hi=>wpOp_mono (fun a' w' h'=>f_2 fuel _ _ a' w' h'.2) (h.2 i hi)⟩
theorem i_a{S:World->Prop}{i:Nat}{oi:Oper}{v:Value}(hi:ops[i]?=some oi)(hsel:∀(j:Nat) (o:Oper) cs b,ops[j]?=some o->o.op≠ .select cs b)
 (hQ:∀c a w,Q (.panic c) (a.put oi.dst v) w->Q (.panic c) a w):
 ∀(fuel:Nat) (listed:Array Bool) (L:Held) (a:Act) (w:World),
  (∀j oj,ops[j]?=some oj->j≠i->listed.getD j true=false->(∀e∈oj.after,Region.binds .any e=true->e.on≠i)->oi.apart ops oj=true)->
  i∈Region.ready .any ops listed->YieldsIf P ops S oi v a->S w->(∀x∈L,x.2 w)->
  wpW P ops Q fuel (listed.setIfInBounds i true) ((i,S)::L) (a.put oi.dst v) w->wpW P ops Q (fuel+1) listed L a w:=by
 have sub:∀(L:Held) (w:World) (j:Nat),(∀x∈L,x.2 w)->∀x∈L.past ops j,x.2 w:=fun L w j h x hx=>h x ((List.mem_filter.1 hx).1)
 have weak:∀(fuel:Nat) (listed:Array Bool) (L L':Held) (a:Act) (w:World),(∀x∈L',x∈L)->wpW P ops Q fuel listed L a w->wpW P ops Q fuel listed L' a w:=by
  intro fuel
  induction fuel with
  |zero=>intro listed L L' a w _ h;exact h
  |succ fuel ih=>
   intro listed L L' a w hs h
   have hs':∀j,∀x∈Held.past L' ops j,x∈Held.past L ops j:=fun j x hx=>by
    simp only[Held.past,List.mem_filter] at hx⊢
    exact⟨hs x hx.1,hx.2⟩
   exact⟨h.1,fun j hj=>wpOp_mono (fun a' w' h'=>⟨fun x hx=>h'.1 x (hs' j x hx),ih _ _ _ a' w' (hs' j) h'.2⟩) (h.2 j hj)⟩
 intro fuel
 induction fuel with
 |zero=>
  intro listed L a w hfree hr hy hS hL H
  refine⟨fun h=>(by rw[h] at hr;cases hr),fun j hj=>?_⟩
  by_cases hji:j=i
  ·subst hji;exact hy.wpOp hi hS ⟨sub L w j hL,H⟩
  ·have:=ready_mono hj hji
   rw[H.1] at this
   cases this
 |succ fuel ih=>
  intro listed L a w hfree hr hy hS hL H
  refine⟨fun h=>(by rw[h] at hr;cases hr),fun j hj=>?_⟩
  by_cases hji:j=i
  ·subst hji
   refine hy.wpOp hi hS ⟨sub L w j hL,weak _ _ _ _ _ _ (fun x hx=>?_) H⟩
   exact List.mem_cons_of_mem _ ((List.mem_filter.1 hx).1)
  ·have h1:=H.2 j (ready_mono hj hji)
   obtain⟨hjun,oj,hoj,hall⟩:=mem_ready.1 hj
   have hnot:∀e∈oj.after,Region.binds .any e=true->e.on≠i:=fun e he hb heq=>by
    have h1:=hall e he hb
    have h0:=(mem_ready.1 hr).1
    rw[heq] at h1
    rcases Nat.lt_or_ge i listed.size with h'|h'
    ·simp[h'] at h0 h1;rw[h0] at h1;cases h1
    ·simp[Array.getElem?_eq_none h'] at h1
   have hpast:Held.past ((i,S)::L) ops j=(i,S)::L.past ops j:=by
    have hc:(e_8 ops j).contains i=false:=by
     rw[←Bool.not_eq_true]
     intro hc
     simp only[List.contains_iff_mem] at hc
     simp only[e_8,hoj,List.mem_map,List.mem_filter] at hc
     obtain⟨e,⟨he,hb⟩,heq⟩:=hc
     exact hnot e (by simpa using he) hb heq
    simp only[Held.past,List.filter_cons,hc,Bool.not_false,if_true]
   have h2:=wpOp_putIf hoj (hfree j oj hoj hji hjun hnot) (fun cs b=>hsel i oi cs b hi) (fun cs b=>hsel j oj cs b hoj) hQ hy h1
   have hfree':∀k ok,ops[k]?=some ok->k≠i->(listed.setIfInBounds j true).getD k true=false->
    (∀e∈ok.after,Region.binds .any e=true->e.on≠i)->oi.apart ops ok=true:=fun k ok hk hki hun hno=>by
    refine hfree k ok hk hki ?_ hno
    by_cases hjk:j=k
    ·subst hjk;exact hjun
    ·rw[getD_set_ne true hjk] at hun;exact hun
   refine wpOp_mono (fun a' w' h3=>?_) h2
   obtain⟨hy',hcond,hW⟩:=h3
   rw[hpast] at hcond hW
   refine⟨fun x hx=>hcond x (List.mem_cons_of_mem _ hx),?_⟩
   refine ih (listed.setIfInBounds j true) _ a' w' hfree' (ready_mono hr (Ne.symm hji)) hy' (hcond _ (List.mem_cons_self ..)) (fun x hx=>hcond x (List.mem_cons_of_mem _ hx)) ?_
   rw[Array.setIfInBounds_comm _ _ hji]
   exact hW
theorem i_4{id:Nat}{a:Act}{w:World}(hm:P.follows .mixedOrders=true)
 (h:wpW P ops Q ops.size (Array.replicate ops.size false) [] a {w with drawn:=w.drawn+1}):(Code.region id ops true).wp P Q a w:=
 wp_region_any hm (f_2 _ _ _ _ _ h)
end
def a_O:List Nat->AHeap->AHeap
 |[],H=>H
 |i::l,H=>a_O l (H.del i)
def i_b(H:AHeap):List Nat->Tr ABlk->Tr ABlk
 |[],T=>T
 |i::l,T=>i_b H l (T.set i (H.get i))
def l_8(H:AHeap)(ids:List Nat)(H':AHeap):AHeap:=⟨i_b H ids H'.blks,H'.next,H.defs,H.ros,H'.st⟩
theorem a_K:∀(ids:List Nat) (H:AHeap) (j:Nat),(a_O ids H).get j=if j∈ids then none else H.get j
 |[],H,j=>by simp[a_O]
 |i::l,H,j=>by
  rw[a_O,a_K l,AHeap.get_del]
  by_cases h1:j∈l
  ·simp[h1]
  ·by_cases h2:j=i
   ·simp[h2]
   ·simp[h1,h2]
theorem e_9:∀(ids:List Nat) (H:AHeap),(a_O ids H).next=H.next
 |[],_=>rfl
 |i::l,H=>by rw[a_O,e_9 l];rfl
theorem f_3:∀(ids:List Nat) (H:AHeap),(a_O ids H).ros=H.ros
 |[],_=>rfl
 |i::l,H=>by rw[a_O,f_3 l];rfl
theorem f_a:∀(ids:List Nat) (H:AHeap),(a_O ids H).st=H.st
 |[],_=>rfl
 |i::l,H=>by rw[a_O,f_a l];rfl
theorem i_5(ids:List Nat)(H:AHeap)(i:Nat):(a_O ids H).isRo i=H.isRo i:=by unfold AHeap.isRo;rw[f_3]
theorem f_4(H:AHeap):∀(ids:List Nat) (T:Tr ABlk) (j:Nat),(i_b H ids T).get j=if j∈ids then H.get j else T.get j
 |[],T,j=>by simp[i_b]
 |i::l,T,j=>by
  rw[i_b,f_4 H l,Tr.get_set]
  by_cases h1:j∈l
  ·simp[h1]
  ·by_cases h2:j=i
   ·subst h2;simp[h1]
   ·simp[h1,h2]
theorem d_O(H:AHeap)(ids:List Nat)(H':AHeap)(j:Nat):(l_8 H ids H').get j=if j∈ids then H.get j else H'.get j:=f_4 H ids H'.blks j
section
variable {P:Program} {w0 w:World} {F0:Fp} {ι:Inj} {H:AHeap}
def Foot(ι:Inj)(H:AHeap):Fp:=⟨fun r=>∃id b,H.get id=some b/\ι id=some r/\H.isRo id=false,fun r=>∃id b,H.get id=some b/\ι id=some r/\H.isRo id=true,fun r=>∃o,ι.m r=some o⟩
theorem Foot.none(h:Inv w0 F0 ι H w){ids:List Nat}{r:Nat}(hf:(Foot ι (a_O ids H)).w r):F0.w r\/w0.heap.size<=r:=by
 obtain⟨j,c,hj,hjr,hro⟩:=hf
 rw[a_K] at hj
 split at hj
 ·cases hj
 ·obtain⟨r',o,hr',_,_,hf⟩:=h.blk j c hj
  rw[hjr] at hr';cases hr'
  rw[i_5] at hro
  rcases hf with hf|hf|hf
  ·exact .inl hf
  ·exact .inr hf
  ·rw[hro] at hf;cases hf.2
theorem Inv.cut(h:Inv w0 F0 ι H w)(ids:List Nat):Inv w (Foot ι (a_O ids H)) ι (a_O ids H) w:=by
 refine⟨fun id b hg=>?_,fun i j b c r hi hj h1 h2=>?_,fun id hid=>h.fresh id (by rwa [e_9] at hid),fun _ _ _=>rfl,Nat.le_refl _,rfl,rfl,rfl,⟨h.good,fun x hx=>?_⟩,⟨fun r o hm=>⟨(h.fz.frz r o hm).1,.inl ⟨o,hm⟩⟩,fun k b r hk hr=>?_,fun x b r hx hr=>h.fz.st x b r (by rwa [f_a] at hx) hr,h.fz.stinj,fun x r hr=>by rw[f_a];exact h.fz.stad x r hr⟩⟩
 rotate_left 3
 ·rw[a_K] at hk
  split at hk
  ·cases hk
  ·exact h.fz.nofz k b r hk hr
 ·have hg':=hg
  rw[a_K] at hg'
  split at hg'
  ·cases hg'
  ·obtain⟨r,o,hr,ho,hb,_⟩:=h.blk id b hg'
   cases hro:(a_O ids H).isRo id with
   |false=>exact⟨r,o,hr,ho,hb,.inl ⟨id,b,hg,hr,hro⟩⟩
   |true=>exact⟨r,o,hr,ho,hb,.inr (.inr ⟨⟨id,b,hg,hr,hro⟩,rfl⟩)⟩
 ·rw[a_K] at hi hj
  split at hi
  ·cases hi
  ·split at hj
   ·cases hj
   ·exact h.inj i j b c r hi hj h1 h2
 ·obtain⟨g1,g2⟩:=h.glob.2 x hx
  refine⟨Nat.lt_of_lt_of_le g1 h.size,fun hf=>?_⟩
  rcases Foot.none h hf with hf|hf
  ·exact g2 hf
  ·omega
theorem Inv.lay{ι':Inj}{H':AHeap}{w':World}(h:Inv w0 F0 ι H w)(ids:List Nat)(hle:ι.le ι')(h':Inv w (Foot ι (a_O ids H)) ι' H' w')(hros:H'.ros=H.ros):Inv w0 F0 ι' (l_8 H ids H') w':=by
 have hlt:∀{id r b},H.get id=some b->ι id=some r->r<w.heap.size:=fun hg hr=>by
  obtain⟨r',o,hr',ho,_⟩:=h.blk _ _ hg
  rw[hr] at hr';cases hr'
  rcases Nat.lt_or_ge _ w.heap.size with h'|h'
  ·exact h'
  ·rw[Array.getElem?_eq_none h'] at ho;cases ho
 have hno:∀{id j r b c},id∈ids->H.get id=some b->ι id=some r->(a_O ids H).get j=some c->ι j=some r->False:=by
  intro id j r b c hid hg hr hj hjr
  rw[a_K] at hj
  split at hj
  ·cases hj
  ·rename_i hn
   have:=h.inj id j b c r hg hj hr hjr
   subst this
   exact hn hid
 have hnot:∀{id r b},id∈ids->H.get id=some b->ι id=some r->¬(Foot ι (a_O ids H)).w r:=by
  rintro id r b hid hg hr ⟨j,c,hj,hjr,_⟩
  exact hno hid hg hr hj hjr
 have hnotR:∀{id r b},id∈ids->H.get id=some b->ι id=some r->¬(Foot ι (a_O ids H)).r r:=by
  rintro id r b hid hg hr ⟨j,c,hj,hjr,_⟩
  exact hno hid hg hr hj hjr
 have hjro:∀i,(l_8 H ids H').isRo i=H.isRo i:=fun i=>rfl
 have hro':∀i,H'.isRo i=H.isRo i:=fun i=>by unfold AHeap.isRo;rw[hros]
 refine⟨fun id b hg=>?_,fun i j b c r hi hj h1 h2=>?_,fun id hid=>h'.fresh id hid,fun r hr hnf=>?_,Nat.le_trans h.size h'.size,h'.tape.trans h.tape,h'.os.trans h.os,h'.output.trans h.output,h.glob,⟨fun r o hm=>?_,fun k b r hk hr=>?_,fun x b r hx hr=>?_,fun x y r h1 h2=>?_,fun x r h1=>?_⟩⟩
 rotate_left 3
 ·obtain⟨h1,h2⟩:=h'.fz.frz r o hm
  refine⟨h1,?_⟩
  rcases h2 with⟨o',ho'⟩|h2|h2
  ·exact(h.fz.frz r o' ho').2
  ·rcases Foot.none h h2 with h3|h3
   ·exact .inr (.inl h3)
   ·exact .inr (.inr h3)
  ·exact .inr (.inr (Nat.le_trans h.size h2))
 ·rw[d_O] at hk
  split at hk
  ·rename_i hid
   obtain⟨r',o,hr',_⟩:=h.blk k b hk
   have e:=hle _ _ hr'
   rw[hr] at e;cases e
   cases hm:ι'.m r with
   |none=>rfl
   |some o'=>
    obtain⟨_,h2⟩:=h'.fz.frz r o' hm
    rcases h2 with⟨o',ho'⟩|h2|h2
    ·rw[h.fz.nofz k b r hk hr'] at ho';cases ho'
    ·exact(hnot hid hk hr' h2).elim
    ·exact absurd (hlt hk hr') (Nat.not_lt.2 h2)
  ·exact h'.fz.nofz k b r hk hr
 ·exact h'.fz.st x b r hx hr
 ·exact h'.fz.stinj x y r h1 h2
 ·exact h'.fz.stad x r h1
 ·rw[d_O] at hg
  split at hg
  ·rename_i hid
   obtain⟨r,o,hr,ho,hb,hf⟩:=h.blk id b hg
   refine⟨r,o,hle _ _ hr,?_,hb.mono hle,hf⟩
   rw[h'.frame r (hlt hg hr) (hnot hid hg hr)]
   exact ho
  ·obtain⟨r,o,hr,ho,hb,hf⟩:=h'.blk id b hg
   refine⟨r,o,hr,ho,hb,?_⟩
   rcases hf with hf|hf|⟨⟨k,c,hk,hkr,_⟩,hf⟩
   ·rcases Foot.none h hf with h1|h1
    ·exact .inl h1
    ·exact .inr (.inl h1)
   ·exact .inr (.inl (Nat.le_trans h.size hf))
   ·rw[a_K] at hk
    split at hk
    ·cases hk
    ·obtain⟨r',_,hr',_,_,hf'⟩:=h.blk k c hk
     rw[hkr] at hr';cases hr'
     rcases hf' with h1|h1|h1
     ·exact .inl h1
     ·exact .inr (.inl h1)
     ·exact .inr (.inr ⟨h1.1,by rw[hjro,←hro'];exact hf⟩)
 ·rw[d_O] at hi hj
  have mixed:∀{i j b c r},i∈ids->H.get i=some b->H'.get j=some c->ι' i=some r->ι' j=some r->False:=by
   intro i j b c r hid hi hj h1 h2
   obtain⟨r1,o,hr,_⟩:=h.blk i b hi
   have hr':=hle _ _ hr
   rw[h1] at hr';cases hr'
   obtain⟨r2,o',hr2,_,_,hf⟩:=h'.blk j c hj
   rw[h2] at hr2;cases hr2
   rcases hf with hf|hf|hf
   ·exact hnot hid hi hr hf
   ·exact absurd (hlt hi hr) (Nat.not_lt.2 hf)
   ·exact hnotR hid hi hr hf.1
  split at hi<;>split at hj
  ·obtain⟨r1,o,hr,_⟩:=h.blk i b hi
   obtain⟨r2,o',hr2,_⟩:=h.blk j c hj
   have e1:=hle _ _ hr
   have e2:=hle _ _ hr2
   rw[h1] at e1;rw[h2] at e2;cases e1;cases e2
   exact h.inj i j b c r hi hj hr hr2
  ·rename_i hid _;exact(mixed hid hi hj h1 h2).elim
  ·rename_i _ hid;exact(mixed hid hj hi h2 h1).elim
  ·exact h'.inj i j b c r hi hj h1 h2
 ·rw[h'.frame r (Nat.lt_of_lt_of_le hr h.size) ?_]
  ·exact h.frame r hr hnf
  ·intro hf
   rcases Foot.none h hf with h1|h1
   ·exact hnf h1
   ·omega
end
end Go.Sx
namespace Go.Sx
open Go
variable [Syms]
structure FRel (ι:Inj) (fr:Fr) (a:Act):Prop where
 n:fr.n=a.tmps.size
 t:∀t,Den ι (i_U fr t) (a.tmps.getD t undef)
def j_E(fr:Fr)(d:Option Tmp)(v:AVal):Fr:=
 match d with
 |some d=>i_2 fr d v
 |none=>fr
def k_u(fr:Fr)(x:Operand)(b:Bool):Fr:=
 match x with
 | .tmp t=>i_2 fr t (.lit (.bool b))
 |_=>fr
theorem f_b(fr:Fr)(d:Nat)(v:AVal)(j:Nat):i_U (i_2 fr d v) j=if j=d/\d<fr.n then v else i_U fr j:=by
 unfold i_2
 cases hb:Nat.blt d fr.n with
 |true=>
  have h:d<fr.n:=Nat.le_of_ble_eq_true hb
  simp only[cond_true,i_U,Tr.get_set]
  by_cases e:j=d
  ·simp[e,h]
  ·simp[e]
 |false=>
  have h:¬d<fr.n:=by
   intro h
   have:Nat.blt d fr.n=true:=Nat.ble_eq_true_of_le h
   rw[this] at hb;cases hb
  simp[h]
theorem l_9(fr:Fr)(d:Nat)(v:AVal):(i_2 fr d v).n=fr.n:=by
 unfold i_2
 cases Nat.blt d fr.n<;>rfl
def m_a(all:List Oper)(o:Oper)(fr:Fr)(yes no:Fr->Prop):Prop:=
 match o.guard with
 |none=>yes fr
 |some (j,want)=>match(h_R all j).bind (·.dst) with
  |some d=>match i_U fr d with
   | .lit (.bool b)=>br b
     (cond want (yes (i_2 fr d (.lit (.bool true)))) (no (i_2 fr d (.lit (.bool true)))))
     (cond want (no (i_2 fr d (.lit (.bool false)))) (yes (i_2 fr d (.lit (.bool false)))))
   | .tup _=>no fr
   |_=>False
  |none=>False
def doA(P:Program)(cx:b_5)(o:Oper)(fr:Fr)(H:AHeap)(K:Fr->AHeap->Prop):Prop:=
 match o.op with
 | .defer c=>match c.callee with
   | .value f=>match eva fr f with
     | .fn (.func g) a b=>K (j_E fr o.dst d_r) (H.withD (.one g (a++c.args.toList.map (eva fr)++b)::H.defs))
     |_=>False
   |_=>False
 | .move (.tmp t)=>match i_U fr t with
   | .ite c a b=>br c (K (j_E (i_2 fr t a) o.dst a) H) (K (j_E (i_2 fr t b) o.dst b) H)
   |v=>K (j_E fr o.dst v) H
 |op=>opA P cx op (eva fr) (H.withD []) (fun v H'=>K (j_E fr o.dst v) (H'.withD H.defs))
def t_o(P:Program)(cx:b_5)(all:List Oper):List Oper->Fr->AHeap->(Fr->AHeap->Prop)->Prop
 |[],fr,H,K=>K fr H
 |o::r,fr,H,K=>m_a all o fr
  (fun fr=>doA P cx o fr H (fun fr H'=>t_o P cx all r fr H' K))
  (fun fr=>t_o P cx all r (j_E fr o.dst d_r) H K)
inductive AExit where
 |normal
 |exit (id:Nat)
 |ret
section
variable {P:Program} {w0 w:World} {F0:Fp} {ι:Inj} {H:AHeap}
theorem FRel.eval{fr:Fr}{a:Act}(h:FRel ι fr a)(x:Operand):Den ι (eva fr x) (a.eval x):=by
 cases x with
 |tmp t=>exact h.t t
 |const v=>exact a_Q 3 v
 |global g=>exact .lit
 |func f=>exact .fn .nil .nil
theorem FRel.put{fr:Fr}{a:Act}{v:AVal}{x:Value}(h:FRel ι fr a)(hv:Den ι v x)(d:Option Tmp):FRel ι (j_E fr d v) (a.put d x):=by
 cases d with
 |none=>exact h
 |some d=>
  refine⟨by simp[j_E,Act.put,l_9,h.n],fun t=>?_⟩
  simp only[j_E,Act.put,f_b,h.n]
  by_cases e:t=d/\d<a.tmps.size
  ·obtain⟨rfl,hlt⟩:=e
   simp only[true_and,hlt,if_true]
   rw[Array.getD_eq_getD_getElem?,Array.getElem?_setIfInBounds]
   simpa[hlt] using hv
  ·rw[if_neg e]
   have:=h.t t
   rw[Array.getD_eq_getD_getElem?] at this⊢
   rw[Array.getElem?_setIfInBounds]
   by_cases e1:d=t
   ·subst e1
    have hn:¬d<a.tmps.size:=fun hl=>e ⟨rfl,hl⟩
    have he:a.tmps[d]?=none:=by
     rw[Array.getElem?_eq_none_iff]
     exact Nat.le_of_not_lt hn
    rw[he] at this
    rw[if_pos rfl,if_neg hn]
    exact this
   ·simpa[e1] using this
theorem FRel.mono{ι':Inj}{fr:Fr}{a:Act}(h:FRel ι fr a)(hi:ι.le ι'):FRel ι' fr a:=⟨h.n,fun t=>(h.t t).mono hi⟩
theorem FRel.know{fr:Fr}{a:Act}{d:Nat}{v:Value}(h:FRel ι fr a)(hv:a.tmps.getD d undef=v):FRel ι (i_2 fr d (.lit v)) a:=by
 refine⟨by rw[l_9];exact h.n,fun t=>?_⟩
 rw[f_b]
 split
 ·rename_i e
  rw[e.1,hv]
  exact .lit
 ·exact h.t t
theorem FRel.more{fr:Fr}{a:Act}{d:Nat}{v:AVal}(h:FRel ι fr a)(hv:Den ι v (a.tmps.getD d undef)):FRel ι (i_2 fr d v) a:=by
 refine⟨by rw[l_9];exact h.n,fun t=>?_⟩
 rw[f_b]
 split
 ·rename_i e
  rw[e.1]
  exact hv
 ·exact h.t t
structure D1 (ι:Inj) (g:Nat) (as:List AVal) (d:Deferred):Prop where
 ex:∃cap,d.target=.fn (.func g) cap/\DenL ι as (d.args.toList++cap.toList)
theorem D1.mono{ι ι':Inj}(hi:ι.le ι'){g:Nat}{as:List AVal}{d:Deferred}(h:D1 ι g as d):D1 ι' g as d:=by
 obtain⟨cap,h1,h2⟩:=h.ex
 exact⟨cap,h1,h2.mono hi⟩
inductive DFam (ι:Inj) (g:Nat) (f:Nat->List AVal):Nat->List Deferred->Prop
 |zero:DFam ι g f 0 []
 |succ {n:Nat} {d:Deferred} {ds:List Deferred} (h:D1 ι g (f n) d) (hs:DFam ι g f n ds):DFam ι g f (n+1) (d::ds)
theorem DFam.mono{ι ι':Inj}(hi:ι.le ι'){g:Nat}{f:Nat->List AVal}:∀{n ds},DFam ι g f n ds->DFam ι' g f n ds
 |_,_,.zero=>.zero
 |_,_,.succ h hs=>.succ (h.mono hi) (DFam.mono hi hs)
inductive DRel (ι:Inj):List DItem->List Deferred->Prop
 |nil:DRel ι [] []
 |one {g:Nat} {as:List AVal} {d:Deferred} {r:List DItem} {ds:List Deferred} (h1:D1 ι g as d) (h:DRel ι r ds):DRel ι (.one g as::r) (d::ds)
 |fam {g:Nat} {f:Nat->List AVal} {n:Nat} {dn:List Deferred} {r:List DItem} {ds:List Deferred} (h1:DFam ι g f n dn) (h:DRel ι r ds):DRel ι (.fam g f n::r) (dn++ds)
theorem DRel.mono{ι ι':Inj}(hi:ι.le ι'):∀{r ds},DRel ι r ds->DRel ι' r ds
 |_,_,.nil=>.nil
 |_,_,.one h1 h=>.one (h1.mono hi) (DRel.mono hi h)
 |_,_,.fam h1 h=>.fam (h1.mono hi) (DRel.mono hi h)
def PostF(w0:World)(F0:Fp)(ι:Inj)(K:Fr->AHeap->Prop)(a:Act)(w:World):Prop:=
 ∃fr H ι',K fr H/\ι.le ι'/\FRel ι' fr a/\DRel ι' H.defs a.defers/\Inv w0 F0 ι' H w
theorem PostF.le{ι':Inj}{K:Fr->AHeap->Prop}{a:Act}(h:PostF w0 F0 ι' K a w)(hi:ι.le ι'):PostF w0 F0 ι K a w:=
 let ⟨fr,H,ι2,hK,hle,hf,hd,hinv⟩:=h
 ⟨fr,H,ι2,hK,Inj.le_trans hi hle,hf,hd,hinv⟩
theorem b_v(a:Act)(d:Option Tmp)(x:Value):(a.put d x).defers=a.defers:=by cases d<;>rfl
theorem e_y{o:Oper}{a:Act}{next:Act->World->Prop}{Q:Exit->Act->World->Prop}{K:AVal->AHeap->Prop}{r:Result Next}(h:d_N P w0 F0 ι K r)
 (hn:∀v x H' ι' w',K x H'->Den ι' x v->ι.le ι'->Inv w0 F0 ι' H' w'->next (a.put o.dst v) w'):o.upon P a next Q r:=by
 cases r with
 |halt x w'=>exact h.elim
 |ok n w'=>
  cases n<;>first
   |exact h.elim
   |(obtain⟨x,H',ι',hK,hd,hle,hinv⟩:=h
     exact hn _ x H' ι' w' hK hd hle hinv)
   |(refine Calls.mono h fun e w'' he=>?_
     cases e<;>first
      |exact he.elim
      |(obtain⟨x,H',ι',hK,hd,hle,hinv⟩:=he
        exact hn _ x H' ι' w'' hK hd hle hinv))
theorem f_c{all:List Oper}{o:Oper}{fr:Fr}{yes no:Fr->Prop}{a:Act}(h:m_a all o fr yes no)(hf:FRel ι fr a):
 (∃fr',FRel ι fr' a/\Region.wanted o (yielded all.toArray a.tmps)=true/\yes fr')\/(∃fr',FRel ι fr' a/\Region.wanted o (yielded all.toArray a.tmps)=false/\no fr'):=by
 unfold m_a at h
 split at h
 ·rename_i hg
  exact .inl ⟨fr,hf,by simp[Region.wanted,hg],h⟩
 ·rename_i j want hg
  split at h
  ·rename_i d hd'
   rw[b_J] at hd'
   split at h
   ·rename_i b hb
    have hvd:=hf.t d
    rw[hb] at hvd
    generalize hgd:a.tmps.getD d undef=v at hvd
    cases hvd with
    |lit=>
    have hv':a.tmps[d]?=some (.bool b):=by
     rw[Array.getD_eq_getD_getElem?] at hgd
     cases he:a.tmps[d]? with
     |none=>rw[he] at hgd;cases hgd
     |some y=>rw[he] at hgd;exact congrArg some hgd
    have hy:yielded all.toArray a.tmps j=some b:=by simp[yielded,hd',hv']
    have hset:∀c,c=b->FRel ι (i_2 fr d (.lit (.bool c))) a:=fun c hc=>by
     subst hc
     exact hf.know hgd
    rcases a_4 h with⟨rfl,h⟩|⟨rfl,h⟩
    ·cases want with
     |true=>exact .inl ⟨_,hset true rfl,aS,h⟩
     |false=>exact .inr ⟨_,hset true rfl,aS,h⟩
    ·cases want with
     |true=>exact .inr ⟨_,hset false rfl,aS,h⟩
     |false=>exact .inl ⟨_,hset false rfl,aS,h⟩
   ·rename_i cs hb
    have hvd:=hf.t d
    rw[hb] at hvd
    generalize hgd:a.tmps.getD d undef=v at hvd
    cases hvd with
    |tup hcs=>
    have hy:yielded all.toArray a.tmps j=none:=by
     rw[Array.getD_eq_getD_getElem?] at hgd
     cases he:a.tmps[d]? with
     |none=>simp[yielded,hd',he]
     |some y=>
      rw[he] at hgd
      simp at hgd
      subst hgd
      simp[yielded,hd',he]
    exact .inr ⟨fr,hf,aS,h⟩
   ·exact h.elim
  ·exact h.elim
theorem x_S{cx:b_5}(hcx:o_G P cx){o:Oper}{fr:Fr}{a:Act}{K:Fr->AHeap->Prop}{next:Act->World->Prop}{Q:Exit->Act->World->Prop}(h:doA P cx o fr H K)(hi:Inv w0 F0 ι H w)(hf:FRel ι fr a)(hd:DRel ι H.defs a.defers)
 (hn:∀a' fr' H' ι' w',K fr' H'->ι.le ι'->FRel ι' fr' a'->DRel ι' H'.defs a'.defers->Inv w0 F0 ι' H' w'->next a' w'):o.wp P a w next Q:=by
 unfold doA at h
 unfold Oper.wp
 split at h
 ·rename_i c hop
  split at h
  ·rename_i f hc
   split at h
   ·rename_i g x y hv
    have hfv:=hf.eval f
    rw[hv] at hfv
    have hrun:∃d cap,(execOp a.eval o).run P w=.ok (.defer d) w/\d.target=.fn (.func g) cap/\DenL ι (x++c.args.toList.map (eva fr)++y) (d.args.toList++cap.toList):=by
     generalize hsf:a.eval f=fv at hfv
     cases hfv with
     |fn ha hb=>
     rename_i vs ws
     refine⟨⟨.fn (.func g) ws.toArray,vs.toArray++c.args.map a.eval⟩,ws.toArray,?_,rfl,?_⟩
     rotate_left
     ·show DenL ι _ ((vs.toArray++c.args.map a.eval).toList++ws.toArray.toList)
      simpa using(ha.append (c_t (fun x=>hf.eval x) c.args.toList)).append hb
     ·simp only[execOp,hop,resolve,hc,hsf,Deferred.ofValue,Sem.run_bind,Sem.run_pure,Result.andThen_ok]
    obtain⟨d,cap,hrun,ht,hden⟩:=hrun
    rw[hrun,Oper.upon_defer]
    refine hn _ _ _ ι _ h (Inj.le_refl _) ?_ ?_ (hi.withD _)
    ·have:FRel ι fr {a with defers:=d::a.defers}:=⟨hf.n,hf.t⟩
     exact this.put (.tup .nil) _
    ·rw[b_v]
     exact .one ⟨cap,ht,hden⟩ hd
   ·exact h.elim
  ·exact h.elim
 ·rename_i t hop
  have hrun:(execOp a.eval o).run P w=.ok (.value (a.tmps.getD t undef)) w:=by simp only[execOp,hop];rfl
  have go:∀{v:AVal} {fr':Fr},FRel ι fr' a->Den ι v (a.tmps.getD t undef)->K (j_E fr' o.dst v) H->o.upon P a next Q ((execOp a.eval o).run P w):=fun hf' hv hK=>by
   rw[hrun]
   exact hn _ _ _ ι _ hK (Inj.le_refl _) (hf'.put hv _) bG hi
  have ht:=hf.t t
  split at h
  ·rename_i c x y he
   rw[he] at ht
   cases ht with
   |ite h1 h2=>
   rcases a_4 h with⟨hc,h⟩|⟨hc,h⟩
   ·exact go (hf.more (h1 hc)) (h1 hc) h
   ·exact go (hf.more (h2 hc)) (h2 hc) h
  ·exact go hf ht h
 ·rename_i op hop
  refine e_y (t_F (o:=o) hcx h (hi.withD []) (fun x=>hf.eval x)) fun v x H' ι' w' hK hx hle hinv=>?_
  refine hn _ _ _ ι' _ hK hle ((hf.mono hle).put hx _) ?_ (hinv.withD _)
  rw[b_v]
  exact hd.mono hle
theorem p_Y{cx:b_5}(hcx:o_G P cx){all:List Oper}{Q:Exit->Act->World->Prop}{K:Fr->AHeap->Prop}:
 ∀(l:List Oper) {ι:Inj} {fr:Fr} {H:AHeap} {a:Act} {w:World},t_o P cx all l fr H K->Inv w0 F0 ι H w->FRel ι fr a->DRel ι H.defs a.defers->(∀a' w',PostF w0 F0 ι K a' w'->Q .normal a' w')->wpList P all.toArray Q l a w:=by
 intro l
 induction l with
 |nil=>intro ι fr H a w h hi hf hd hQ;exact hQ a w ⟨fr,H,ι,h,Inj.le_refl _,hf,hd,hi⟩
 |cons o r ih=>
  intro ι fr H a w h hi hf hd hQ
  simp only[t_o] at h
  rcases f_c h hf with⟨fr',hf',hw,h⟩|⟨fr',hf',hw,h⟩
  ·simp only[wpList,hw,if_true]
   refine .inl (x_S hcx h hi hf' hd fun a' fr2 H2 ι' w' hK hle hf2 hd2 hinv=>?_)
   exact ih hK hinv hf2 hd2 (fun a' w' hp=>hQ a' w' (hp.le hle))
  ·simp only[wpList,hw,Bool.false_eq_true,if_false]
   exact ih h hi (hf'.put (.tup .nil) _) bG hQ
end
end Go.Sx
namespace Go.Sx
open Go
variable [Syms]
def m_b:Op->Bool
 | .move _=>true
 | .assign _=>true
 | .nilCheck _=>true
 | .fieldAddr .. =>true
 | .indexAddr .. =>true
 | .makeFunc .. =>true
 | .load .. =>true
 | .lookup .. =>true
 |_=>false
def m_c(P:Program)(o:Op)(ρ:Operand->AVal)(H:AHeap)(K:AVal->List Nat->Prop):Prop:=
 match o with
 | .move x=>K (ρ x) []
 | .assign x=>K (ρ x) []
 | .nilCheck x=>t_D P (ρ x) (fun v=>K v [])
 | .fieldAddr s x f=>c_C P s (ρ x) f (fun v=>K v [])
 | .indexAddr t x i=>c_D P t (ρ x) (ρ i) (fun v=>K v [])
 | .makeFunc f a b=>K (.fn f (a.toList.map ρ) (b.toList.map ρ)) []
 | .load t a=>match ρ a with
   | .ptr id off=>c_B P t (.ptr id off) H (fun v _=>K v [id])
   |x=>gd (fzA x) (c_B P t x H (fun v _=>K v []))
 | .lookup t m k ok=>match ρ m with
   | .map id=>c_N P t (.map id) (ρ k) ok H (fun v=>K v [id])
   | .smp x=>c_N P t (.smp x) (ρ k) ok H (fun v=>K v [])
   |_=>False
 |_=>False
def e_z:List Nat->List Nat
 |[]=>[]
 |x::r=>cond (d_F (e_z r) x) (e_z r) (x::e_z r)
theorem j_F:∀{l:List Nat} {i:Nat},d_F l i=true->i∈l
 |[],_,h=>am
 |x::r,i,h=>by
  simp only[d_F] at h
  cases hb:Nat.beq x i with
  |true=>rw[Nat.eq_of_beq_eq_true hb];exact List.mem_cons_self ..
  |false=>rw[hb,cond_false] at h;exact List.mem_cons_of_mem _ (j_F h)
theorem f_5:∀{l:List Nat} {i:Nat},i∈l->i∈e_z l
 |x::r,i,h=>by
  simp only[e_z]
  rcases List.mem_cons.1 h with rfl|h
  ·cases hb:d_F (e_z r) i with
   |true=>exact j_F hb
   |false=>exact List.mem_cons_self ..
  ·have:=f_5 h
   cases hb:d_F (e_z r) x with
   |true=>exact this
   |false=>exact List.mem_cons_of_mem _ this
def e_l(ops:Array Oper)(j:Nat)(T:List (Nat×Nat)):List Nat:=e_z ((T.filter fun x=> !(e_8 ops j).contains x.1).map (·.2))
def i_6(ops:Array Oper)(j:Nat)(T:List (Nat×Nat)):List (Nat×Nat):=T.filter fun x=> !(e_8 ops j).contains x.1
def m_d(ops:Array Oper)(listed:Array Bool):List Nat->Option (Nat×Oper)
 |[]=>none
 |i::r=>match ops[i]? with
  |some o=>cond (m_b o.op&&Region.free .any ops listed i) (some (i,o)) (m_d ops listed r)
  |none=>m_d ops listed r
def x_T:List Nat->(Nat->Prop)->Prop
 |[],_=>True
 |[j],f=>f j
 |j::r,f=>f j/\x_T r f
def i_c(P:Program)(cx:b_5)(ops:Array Oper):Nat->Array Bool->List (Nat×Nat)->Fr->AHeap->(Fr->AHeap->Prop)->Prop
 |0,listed,_,fr,H,K=>match Region.ready .any ops listed with
  |[]=>K fr H
  |_::_=>False
 |n+1,listed,T,fr,H,K=>match Region.ready .any ops listed with
  |[]=>K fr H
  |r::rs=>match m_d ops listed (r::rs) with
   |some (i,o)=>m_a ops.toList o fr
    (fun fr=>m_c P o.op (eva fr) H (fun v ids=>i_c P cx ops n (listed.setIfInBounds i true) (ids.map (fun id=>(i,id))++T) (j_E fr o.dst v) H K))
    (fun fr=>i_c P cx ops n (listed.setIfInBounds i true) T (j_E fr o.dst d_r) H K)
   |none=>x_T (r::rs) (fun j=>match ops[j]? with
    |some o=>m_a ops.toList o fr
     (fun fr=>opA P cx o.op (eva fr) ((a_O (e_l ops j T) H).withD []) (fun v H'=>gd (eqN H'.ros H.ros) (i_c P cx ops n (listed.setIfInBounds j true) (i_6 ops j T) (j_E fr o.dst v) (l_8 H (e_l ops j T) H') K)))
     (fun fr=>i_c P cx ops n (listed.setIfInBounds j true) (i_6 ops j T) (j_E fr o.dst d_r) H K)
    |none=>False)
section
variable {P:Program} {w0 w:World} {F0:Fp} {ι:Inj} {H:AHeap}
theorem j_G:∀{l:List Nat} {f:Nat->Prop},x_T l f->∀j∈l,f j
 |[],_,_,j,hj=>by cases hj
 |[i],f,h,j,hj=>by
  rw[List.mem_singleton] at hj
  subst hj;exact h
 |i::k::r,f,h,j,hj=>by
  rcases List.mem_cons.1 hj with rfl|hj
  ·exact h.1
  ·exact j_G h.2 j hj
theorem f_d{ops:Array Oper}{listed:Array Bool}{i:Nat}{o:Oper}:∀{l:List Nat},m_d ops listed l=some (i,o)->i∈l/\ops[i]?=some o/\Region.free .any ops listed i=true
 |[],h=>am
 |k::r,h=>by
  simp only[m_d] at h
  split at h
  ·rename_i o' ho
   cases hc:(m_b o'.op&&Region.free .any ops listed k) with
   |true=>
    rw[hc,cond_true] at h
    cases h
    simp only[Bool.and_eq_true] at hc
    exact⟨List.mem_cons_self ..,ho,hc.2⟩
   |false=>
    rw[hc,cond_false] at h
    obtain⟨h1,h2⟩:=f_d h
    exact⟨List.mem_cons_of_mem _ h1,h2⟩
  ·obtain⟨h1,h2⟩:=f_d h
   exact⟨List.mem_cons_of_mem _ h1,h2⟩
def TOk(ι:Inj)(H:AHeap)(w:World)(T:List (Nat×Nat))(L:Held):Prop:=
 ∀x∈L,(∀w',x.2 w')\/(∃r o,ι.m r=some o/\∀w':World,w'.heap[r]?=some o->x.2 w')\/∃id r o b,(x.1,id)∈T/\ι id=some r/\H.get id=some b/\w.heap[r]?=some o/\∀w':World,w'.heap[r]?=some o->x.2 w'
theorem TOk.now{T:List (Nat×Nat)}{L:Held}(hi:Inv w0 F0 ι H w)(h:TOk ι H w T L):∀x∈L,x.2 w:=fun x hx=>by
 rcases h x hx with h|⟨r,o,hm,h⟩|⟨id,r,o,b,_,_,_,ho,h⟩
 ·exact h w
 ·exact h w (hi.fz.frz r o hm).1
 ·exact h w ho
theorem o_2{o:Oper}{ρ:Operand->AVal}{σ:Operand->Value}{K:AVal->List Nat->Prop}(h:m_c P o.op ρ H K)(hi:Inv w0 F0 ι H w)(hd:∀x,Den ι (ρ x) (σ x)):
 ∃x v ids,∃S:World->Prop,Den ι x v/\K x ids/\S w/\(∀w',S w'->(execOp σ o).run P w'=.ok (.value v) w')/\
  ((∀w',S w')\/(∃r ob,ids=[]/\ι.m r=some ob/\∀w':World,w'.heap[r]?=some ob->S w')\/∃id r ob b,ids=[id]/\ι id=some r/\H.get id=some b/\w.heap[r]?=some ob/\∀w':World,w'.heap[r]?=some ob->S w'):=by
 have quiet:∀{x:AVal} {v:Value},Den ι x v->K x []->(∀w':World,(execOp σ o).run P w'=.ok (.value v) w')->_:=fun{x v} hx hK hr=>
  (⟨x,v,[],fun _=>True,hx,hK,trivial,fun w' _=>hr w',.inl fun _=>trivial⟩:∃x v ids,∃S:World->Prop,Den ι x v/\K x ids/\S w/\(∀w',S w'->(execOp σ o).run P w'=.ok (.value v) w')/\
    ((∀w',S w')\/(∃r ob,ids=[]/\ι.m r=some ob/\∀w':World,w'.heap[r]?=some ob->S w')\/∃id r ob b,ids=[id]/\ι id=some r/\H.get id=some b/\w.heap[r]?=some ob/\∀w':World,w'.heap[r]?=some ob->S w'))
 have vof:∀{s:Sem Value} {v:Value} {w':World},s.run P w'=.ok v w'->(do pure (.value (←s)):Sem Next).run P w'=.ok (.value v) w':=fun hs=>by
  simp only[Sem.run_bind,hs,Result.andThen_ok,Sem.run_pure]
 obtain⟨dst,op,type,pos,after,guard⟩:=o
 cases op<;>simp only[m_c] at h
 case move x=>exact quiet (hd x) h (fun _=>rfl)
 case assign x=>exact quiet (hd x) h (fun _=>rfl)
 case nilCheck x=>
  obtain⟨y,hrun,hy,hK⟩:=p_X h (hd x)
  exact quiet hy hK hrun
 case fieldAddr s x f=>
  obtain⟨y,v,hrun,hy,hK⟩:=d_I h (hd x)
  exact quiet hy hK (fun w'=>vof (hrun w'))
 case indexAddr t x i=>
  obtain⟨y,v,hrun,hy,hK⟩:=d_J h (hd x) (hd i)
  exact quiet hy hK (fun w'=>vof (hrun w'))
 case makeFunc f a b=>
  have e1:a.map σ=(a.toList.map σ).toArray:=aH
  have e2:b.map σ=(b.toList.map σ).toArray:=aH
  refine quiet (v:=.func f (a.map σ) (b.map σ)) ?_ h (fun w'=>rfl)
  rw[e1,e2]
  exact .fn (c_t hd _) (c_t hd _)
 case load t a=>
  split at h
  ·rename_i id off ha
   have hda:=hd a
   rw[ha] at hda
   obtain⟨x,y,r,ob,b,hr,hg,ho,hrun,hx,hK⟩:=j_n h hi hda
   exact⟨x,y,[id],fun w'=>w'.heap[r]?=some ob,hx,hK,ho,fun w' hw'=>vof (hrun w' hw'),.inr (.inr ⟨id,r,ob,b,rfl,hr,hg,ho,fun _ h=>h⟩)⟩
  ·obtain⟨hz,h⟩:=a_h h
   obtain⟨x,y,r,ob,hm,ho,hrun,hx,hK⟩:=j_o h hi (hd a) hz
   exact⟨x,y,[],fun w'=>w'.heap[r]?=some ob,hx,hK,ho,fun w' hw'=>vof (hrun w' hw'),.inr (.inl ⟨r,ob,rfl,hm,fun _ h=>h⟩)⟩
 case lookup t m k ok=>
  split at h
  ·rename_i id hm
   have hdm:=hd m
   rw[hm] at hdm
   obtain⟨x,y,r,ob,b,hr,hg,ho,hrun,hx,hK⟩:=h_3 (K:=fun v _=>K v [id]) h hi hdm (hd k)
   exact⟨x,y,[id],fun w'=>w'.heap[r]?=some ob,hx,hK,ho,fun w' hw'=>vof (hrun w' hw'),.inr (.inr ⟨id,r,ob,b,rfl,hr,hg,ho,fun _ h=>h⟩)⟩
  ·rename_i sx hm
   have hdm:=hd m
   rw[hm] at hdm
   obtain⟨x,y,r,ob,hr,ho,hrun,hx,hK⟩:=h_4 (K:=fun v _=>K v []) h hi hdm (hd k)
   exact⟨x,y,[],fun w'=>w'.heap[r]?=some ob,hx,hK,ho,fun w' hw'=>vof (hrun w' hw'),.inr (.inl ⟨r,ob,rfl,hr,fun _ h=>h⟩)⟩
  ·exact h.elim
 all_goals exact h.elim
theorem o_3{cx:b_5}(hcx:o_G P cx){ops:Array Oper}{Q:Exit->Act->World->Prop}{K:Fr->AHeap->Prop}(hs:Region.noSelect ops=true)(hQp:∀c a w,¬Q (.panic c) a w):
 ∀(n:Nat) {ι:Inj} {listed:Array Bool} {T:List (Nat×Nat)} {L:Held} {fr:Fr} {H:AHeap} {a:Act} {w:World},i_c P cx ops n listed T fr H K->Inv w0 F0 ι H w->FRel ι fr a->DRel ι H.defs a.defers->TOk ι H w T L->
  (∀a' w',PostF w0 F0 ι K a' w'->Q .normal a' w')->wpW P ops Q n listed L a w:=by
 have oparr:ops=ops.toList.toArray:=an
 intro n
 induction n with
 |zero=>
  intro ι listed T L fr H a w h hi hf hd hT hQ
  simp only[i_c] at h
  split at h
  ·rename_i hr
   exact⟨hr,hQ a w ⟨fr,H,ι,h,Inj.le_refl _,hf,hd,hi⟩⟩
  ·exact h.elim
 |succ n ih=>
  intro ι listed T L fr H a w h hi hf hd hT hQ
  simp only[i_c] at h
  split at h
  ·rename_i hr
   exact⟨fun _=>hQ a w ⟨fr,H,ι,h,Inj.le_refl _,hf,hd,hi⟩,by rw[hr];simp⟩
  ·rename_i r rs hr
   split at h
   ·rename_i i o hp
    obtain⟨hmem,ho,hfree⟩:=f_d hp
    rw[←hr] at hmem
    have hout:=f_c h hf
    rw[←oparr] at hout
    rcases hout with⟨fr',hf',hw,h⟩|⟨fr',hf',hw,h⟩
    ·obtain⟨x,v,ids,S,hx,hK,hS,hrun,hids⟩:=o_2 h hi (fun x=>hf'.eval x)
     refine i_a (S:=S) (v:=v) ho (Region.noSelect_spec hs) (fun c a w hq=>(hQp c _ w hq).elim) n listed L a w (Region.free_spec ho hfree) hmem (.inl ⟨hw,hrun⟩) hS (hT.now hi) ?_
     refine ih hK hi (hf'.put hx _) bG ?_ hQ
     intro y hy
     rcases List.mem_cons.1 hy with rfl|hy
     ·rcases hids with hids|⟨r,ob,rfl,hr,hall⟩|⟨id,r,ob,b,rfl,hr,hg,ho,hall⟩
      ·exact .inl hids
      ·exact .inr (.inl ⟨r,ob,hr,hall⟩)
      ·exact .inr (.inr ⟨id,r,ob,b,an,hr,hg,ho,hall⟩)
     ·rcases hT y hy with h1|h1|⟨id,r,ob,b,hm,h1⟩
      ·exact .inl h1
      ·exact .inr (.inl h1)
      ·exact .inr (.inr ⟨id,r,ob,b,List.mem_append_right _ hm,h1⟩)
    ·refine i_a (S:=fun _=>True) (v:=undef) ho (Region.noSelect_spec hs) (fun c a w hq=>(hQp c _ w hq).elim) n listed L a w (Region.free_spec ho hfree) hmem (.inr ⟨hw,rfl⟩) trivial (hT.now hi) ?_
     refine ih h hi (hf'.put (.tup .nil) _) bG ?_ hQ
     intro y hy
     rcases List.mem_cons.1 hy with rfl|hy
     ·exact .inl fun _=>trivial
     ·exact hT y hy
   ·refine⟨fun h0=>(by rw[hr] at h0;cases h0),fun j hj=>?_⟩
    rw[hr] at hj
    have hj:=j_G h j hj
    split at hj
    ·rename_i o ho
     have hout:=f_c hj hf
     rw[←oparr] at hout
     unfold wpOp
     simp only[ho]
     rcases hout with⟨fr',hf',hw,h⟩|⟨fr',hf',hw,h⟩
     ·rw[if_pos hw]
      refine .inl ?_
      unfold Oper.wp
      have hnx:=t_F hcx h ((hi.cut (e_l ops j T)).withD []) (fun x=>hf'.eval x)
      refine e_y hnx fun v x H' ι' w' hK hx hle hinv=>?_
      obtain⟨hros,hK⟩:=a_h hK
      have hros:=e_v hros
      have hlay:=hi.lay (e_l ops j T) hle hinv hros
      have hkeep:TOk ι' (l_8 H (e_l ops j T) H') w' (i_6 ops j T) (L.past ops j):=by
       intro y hy
       simp only[Held.past,List.mem_filter] at hy
       rcases hT y hy.1 with h1|⟨r,ob,hm,hall⟩|⟨id,r,ob,b,hm,h1,hg,hob,hall⟩
       ·exact .inl h1
       ·exact .inr (.inl ⟨r,ob,hle.m _ _ hm,hall⟩)
       ·have hmT:(y.1,id)∈i_6 ops j T:=by
         simp only[i_6,List.mem_filter]
         exact⟨hm,hy.2⟩
        have hid:id∈e_l ops j T:=f_5 (List.mem_map.2 ⟨_,hmT,rfl⟩)
        refine .inr (.inr ⟨id,r,ob,b,hmT,hle _ _ h1,by rw[d_O,if_pos hid];exact hg,?_,hall⟩)
        have hlt:r<w.heap.size:=by
         rcases Nat.lt_or_ge r w.heap.size with h'|h'
         ·exact h'
         ·rw[Array.getElem?_eq_none h'] at hob;cases hob
        rw[hinv.frame r hlt ?_]
        ·exact hob
        ·rintro⟨k,c,hk,hkr,_⟩
         rw[a_K] at hk
         split at hk
         ·cases hk
         ·rename_i hn
          have:=hi.inj id k b c r hg hk h1 hkr
          subst this
          exact hn hid
      exact⟨hkeep.now hlay,ih hK hlay ((hf'.mono hle).put hx _) (by rw[b_v];exact hd.mono hle) hkeep (fun a' w' hp=>hQ a' w' (hp.le hle))⟩
     ·rw[if_neg (by rw[hw];simp)]
      have hkeep:TOk ι H w (i_6 ops j T) (L.past ops j):=by
       intro y hy
       simp only[Held.past,List.mem_filter] at hy
       rcases hT y hy.1 with h1|h1|⟨id,r,ob,b,hm,h1⟩
       ·exact .inl h1
       ·exact .inr (.inl h1)
       ·exact .inr (.inr ⟨id,r,ob,b,by simp only[i_6,List.mem_filter];exact⟨hm,hy.2⟩,h1⟩)
      exact⟨hkeep.now hi,ih h hi (hf'.put (.tup .nil) _) bG hkeep hQ⟩
    ·exact hj.elim
def x_U(P:Program)(cx:b_5)(ops:Array Oper)(fr:Fr)(H:AHeap)(K:Fr->AHeap->Prop):Prop:=
 gd (P.follows .mixedOrders&&Region.noSelect ops) (i_c P cx ops ops.size (Array.replicate ops.size false) [] fr H K)
theorem m_e{cx:b_5}(hcx:o_G P cx){ops:Array Oper}{id:Nat}{Q:Exit->Act->World->Prop}{K:Fr->AHeap->Prop}{fr:Fr}{a:Act}(hQp:∀c a w,¬Q (.panic c) a w)
 (h:x_U P cx ops fr H K) (hi:Inv w0 F0 ι H w) (hf:FRel ι fr a) (hd:DRel ι H.defs a.defers) (hQ:∀a' w',PostF w0 F0 ι K a' w'->Q .normal a' w'):(Code.region id ops true).wp P Q a w:=by
 obtain⟨hc,h⟩:=a_h h
 simp only[Bool.and_eq_true] at hc
 refine i_4 hc.1 ?_
 exact o_3 hcx hc.2 hQp ops.size h (hi.drew _) hf hd (fun x hx=>bv) hQ
end
end Go.Sx

