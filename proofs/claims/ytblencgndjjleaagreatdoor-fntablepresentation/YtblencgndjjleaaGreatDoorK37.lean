/- Lemmas of this claim; the last text says what is proved. -/
import Derived.Test.YtblencgndjjleaaGreatDoorK36
set_option linter.all false
namespace Tk
open Go Go.Sx Go.Proofs
open Q
variable [Syms]
theorem j_8{a b:Option Nat}(h:c_f a=c_f b):a=b:=by
 cases a<;>cases b<;>simp_all [c_f]
theorem c_k{m:Nat->Option Obj}{a:Nat}{p1 p2 p3 p4 p5 q1 q2 q3 q4 q5:Option Nat}{ty ty':Nat}{d d':By}{z z':Value}(h:nodeW m a p1 p2 p3 p4 p5 ty d z)(h':nodeW m a q1 q2 q3 q4 q5 ty' d' z'):p1=q1/\p4=q4/\ty=ty'/\d=d':=by
 obtain⟨r,h⟩:=h
 obtain⟨r',h'⟩:=h'
 rw[h] at h'
 have e:=Option.some.inj h'
 have e:=congrArg (fun o=>match o with|Obj.cells c _ _=>c.toList|_=>[]) e
 simp only[List.cons_append,List.nil_append,List.cons.injEq] at e
 obtain⟨e1,e2,e3,e4,e5,e6,e7,e8,_⟩:=e
 refine⟨j_8 e1,j_8 e4,?_,?_⟩
 ·injection e6 with _ e6
  exact Int.ofNat.inj e6
 ·injection e8 with e8
  injection e8 with e8
  simpa using congrArg Array.toList e8
structure TreeM (T:TD) (A:Nat->Nat) (B D:Nat->Nat->Nat) (R:Nat) (m:Nat->Option Obj):Prop where
 row:∀i,i<T.R->nodeM m (A i) (some R) (some (B i 0)) (some (B i (T.C i-1))) (b_B A i) (d_C A T.R i) 3 trL
 cell:∀i j,i<T.R->j<T.C i->nodeM m (B i j) (some (A i)) (cond (b_X (T.tx i j)) none (some (D i j))) (cond (b_X (T.tx i j)) none (some (D i j))) (b_B (B i) j) (d_C (B i) (T.C i) j) 3 (cond (Nat.beq i 0&&T.hd) thL tdL)
 text:∀i j,i<T.R->j<T.C i->b_X (T.tx i j)=false->nodeM m (D i j) (some (B i j)) none none none none 1 (T.tx i j)
def hdF(T:TD)(i _j:Nat):By:=cond (Nat.beq i 0&&T.hd) thL tdL
theorem p_A{T:TD}{A:Nat->Nat}{R:Nat}{m:Nat->Option Obj}(h:∀i,i<T.R->rowM (hdF T i) (T.tx i) (T.C i) R (b_B A i) (d_C A T.R i) (A i) m):∃B D,TreeM T A B D R m:=by
 classical
 let B:Nat->Nat->Nat:=fun i=>if g:i<T.R then Classical.choose (h i g) else fun _=>0
 have hB:∀i (g:i<T.R),B i=Classical.choose (h i g):=fun i g=>by simp only[B];rw[dif_pos g]
 have h1:∀i,i<T.R->nodeM m (A i) (some R) (some (B i 0)) (some (B i (T.C i-1))) (b_B A i) (d_C A T.R i) 3 trL:=fun i g=>by
  rw[hB i g];exact(Classical.choose_spec (h i g)).1
 have h2:∀i j,i<T.R->j<T.C i->cellM (hdF T i j) (T.tx i j) (A i) (b_B (B i) j) (d_C (B i) (T.C i) j) (B i j) m:=fun i j g gj=>by
  rw[hB i g];exact(Classical.choose_spec (h i g)).2 j gj
 let D:Nat->Nat->Nat:=fun i j=>if g:i<T.R/\j<T.C i then Classical.choose (h2 i j g.1 g.2) else 0
 have hD:∀i j (g:i<T.R) (gj:j<T.C i),D i j=Classical.choose (h2 i j g gj):=fun i j g gj=>by simp only[D];rw[dif_pos ⟨g,gj⟩]
 refine⟨B,D,h1,fun i j g gj=>?_,fun i j g gj ht=>?_⟩
 ·rw[hD i j g gj];exact(Classical.choose_spec (h2 i j g gj)).1
 ·rw[hD i j g gj];exact(Classical.choose_spec (h2 i j g gj)).2 ht
theorem f_M{A:Nat->Nat}{n:Nat}(h:∀i i',i<n->i'<n->A i=A i'->b_B A i=b_B A i'):∀i i',i<n->i'<n->A i=A i'->i=i'
 |0,0,_,_,_=>rfl
 |0,i'+1,h1,h2,e=>by have:=h 0 (i'+1) h1 h2 e;simp[b_B] at this
 |i+1,0,h1,h2,e=>by have:=h (i+1) 0 h1 h2 e;simp[b_B] at this
 |i+1,i'+1,h1,h2,e=>by
  have:=h (i+1) (i'+1) h1 h2 e
  simp only[b_B,Option.some.injEq] at this
  rw[f_M h i i' ac ac this]
section
variable {T:TD} {A:Nat->Nat} {B D:Nat->Nat->Nat} {R:Nat} {m:Nat->Option Obj}
theorem TreeM.rr(h:TreeM T A B D R m){i i':Nat}(h1:i<T.R)(h2:i'<T.R)(e:A i=A i'):i=i':=
 f_M (fun i i' h1 h2 e=>by
  have a:=h.row i h1
  rw[e] at a
  exact(c_k a (h.row i' h2)).2.1) i i' h1 h2 e
theorem TreeM.cc(h:TreeM T A B D R m){i i' j j':Nat}(h1:i<T.R)(h2:i'<T.R)(g1:j<T.C i)(g2:j'<T.C i')(e:B i j=B i' j'):i=i'/\j=j':=by
 have a:=h.cell i j h1 g1
 rw[e] at a
 have e1:=(c_k a (h.cell i' j' h2 g2)).1
 have e1:=h.rr h1 h2 (Option.some.inj e1)
 subst e1
 exact⟨rfl,f_M (fun k k' k1 k2 e=>by
  have a:=h.cell i k h1 k1
  rw[e] at a
  exact(c_k a (h.cell i k' h1 k2)).2.1) j j' g1 g2 e⟩
theorem TreeM.tt(h:TreeM T A B D R m){i i' j j':Nat}(h1:i<T.R)(h2:i'<T.R)(g1:j<T.C i)(g2:j'<T.C i')(t1:b_X (T.tx i j)=false)(t2:b_X (T.tx i' j')=false)(e:D i j=D i' j'):i=i'/\j=j':=by
 have a:=h.text i j h1 g1 t1
 rw[e] at a
 have e1:=(c_k a (h.text i' j' h2 g2 t2)).1
 exact h.cc h1 h2 g1 g2 (Option.some.inj e1)
theorem TreeM.rc(h:TreeM T A B D R m){i i' j':Nat}(h1:i<T.R)(h2:i'<T.R)(g2:j'<T.C i')(e:A i=B i' j'):False:=by
 have a:=h.row i h1
 rw[e] at a
 have e1:=(c_k a (h.cell i' j' h2 g2)).2.2.2
 cases hb:(Nat.beq i' 0&&T.hd)<;>rw[hb] at e1<;>simp[trL,thL,tdL] at e1
theorem TreeM.ct(h:TreeM T A B D R m){i i' j j':Nat}(h1:i<T.R)(g1:j<T.C i)(h2:i'<T.R)(g2:j'<T.C i')(t2:b_X (T.tx i' j')=false)(e:B i j=D i' j'):False:=by
 have a:=h.cell i j h1 g1
 rw[e] at a
 have e1:=(c_k a (h.text i' j' h2 g2 t2)).2.2.1
 omega
end
def okN(p:Nat):Nat->AVal->Bool
 |0,_=>false
 |n+1,v=>match v with
  | .ptr i _=>Nat.blt i p
  | .slc i _ l _=>Nat.blt i p&&Nat.blt 0 l
  | .map i=>Nat.blt i p
  | .fn _ a b=>a.all (okN p n)&&b.all (okN p n)
  | .ifc _ v=>okN p n v
  | .agg cs=>cs.all (okN p n)
  |v=>nlS v
def nmV(g:Nat->SId):Nat->AVal->AVal
 |0,v=>v
 |n+1,v=>match v with
  | .ptr i o=>.sp (g i) o
  | .slc i o l _=>.ssl (g i) o l
  | .map i=>.smp (g i)
  | .fn f a b=>.fn f (a.map (nmV g n)) (b.map (nmV g n))
  | .ifc t v=>.ifc t (nmV g n v)
  | .agg cs=>.agg (cs.map (nmV g n))
  |v=>v
structure NmOk (p:Nat) (g:Nat->SId) (ι ι':Inj):Prop where
 n:∀i r,i<p->ι.f i=some r->ι'.ad (g i)=some r
 le:(ι.bare 0).le ι'
theorem i_H{p:Nat}{g:Nat->SId}{ι ι':Inj}{n:Nat}(ih:∀a v,okN p n a=true->Den ι a v->Den ι' (nmV g n a) v):∀{xs:List AVal} {vs:List Value},xs.all (okN p n)=true->DenL ι xs vs->DenL ι' (xs.map (nmV g n)) vs
 |[],_,_,.nil=>.nil
 |a::xs,_,h,.cons h1 h2=>by
  rw[List.all_cons,Bool.and_eq_true] at h
  exact .cons (ih _ _ h.1 h1) (i_H ih h.2 h2)
theorem w_u{p:Nat}{g:Nat->SId}{ι ι':Inj}(h:NmOk p g ι ι'):∀(n:Nat) (a:AVal) (v:Value),okN p n a=true->Den ι a v->Den ι' (nmV g n a) v:=by
 intro n
 induction n with
 |zero=>intro a v hk;cases hk
 |succ n ih=>
  intro a v hk hd
  have base:∀a,nlS a=true->Den ι a v->Den ι' a v:=fun a ha hd=>a_g (p:=0) ha _ _ _ h.le hd
  cases a<;>first
   |exact base _ hk hd
   |(cases hd with
     |ptr hr=>exact .sp (h.n _ _ (a_Y hk) hr))
   |(simp only[okN,Bool.and_eq_true] at hk
     cases hd with
     |slc hr hl ho hc=>
      rcases ho with rfl|h0
      ·exact .ssl (h.n _ _ (a_Y hk.1) hr) hl
      ·have:=a_Y hk.2;omega)
   |(cases hd with
     |map hr=>exact .smp (h.n _ _ (a_Y hk) hr))
   |(simp only[okN,Bool.and_eq_true] at hk
     cases hd with
     |fn h1 h2=>exact .fn (i_H ih hk.1 h1) (i_H ih hk.2 h2))
   |(cases hd with
     |ifc h1=>exact .ifc (ih _ _ hk h1))
   |(cases hd with
     |agg h1=>exact .agg (i_H ih hk h1))
   |(cases hk)
theorem c_v{p:Nat}{g:Nat->SId}{ι ι':Inj}(h:NmOk p g ι ι'){cs:List AVal}{e t t':Nat}{o:Obj}(hk:(cs.all (okN p 8)&&Nat.ble t' cs.length)=true)(hd:BDen ι (.row cs e (.n t)) o):BDen ι' (.row (cs.map (nmV g 8)) e (.n t')) o:=by
 obtain⟨vs,rest,rfl,hv,ht⟩:=hd
 rw[Bool.and_eq_true] at hk
 exact⟨vs,rest,rfl,i_H (w_u h 8) hk.1 hv,Nat.le_trans (a_B hk.2) (by rw[hv.length];omega)⟩
theorem nmE{ι ι':Inj}(h:(ι.bare 0).le ι'):∀{es:List (AVal×AVal×Nat)} {l:List MapEntry},es.all (fun e=>nlS e.1&&nlS e.2.1)=true->EDen ι es l->EDen ι' es l
 |[],[],_,_=>trivial
 |(_,_,_)::_,_::_,hk,hd=>by
  rw[List.all_cons,Bool.and_eq_true,Bool.and_eq_true] at hk
  exact⟨a_g (p:=0) hk.1.1 _ _ _ h hd.1,a_g (p:=0) hk.1.2 _ _ _ h hd.2.1,hd.2.2.1,nmE h hk.2 hd.2.2.2⟩
 |[],_::_,_,hd=>by cases hd
 |(_,_,_)::_,[],_,hd=>by cases hd
theorem o_b{ι ι':Inj}(h:(ι.bare 0).le ι'){es:List (AVal×AVal×Nat)}{c:Nat}{o:Obj}(hk:es.all (fun e=>nlS e.1&&nlS e.2.1)=true)(hd:BDen ι (.map es c) o):BDen ι' (.map es c) o:=by
 obtain⟨en,rfl,hE⟩:=hd
 exact⟨en,rfl,nmE h hk hE⟩
def cvN(T:TD):Nat->ABlk
 |0=>.row [.lit .nilIface,.slc 1 0 3 .x,.slc 2 0 4 .x,.slc 3 0 2 .x,.slc 4 0 3 .x,.slc 5 0 2 .x,.map 6,.slc 7 0 11 .x,.map 8,.str [],.top] 124 (.n 0)
 |1=>.row [.str [98,97,115,101],.str [99,111,109,109,111,110,109,97,114,107],.str [116,97,98,108,101]] 9 (.n 0)
 |2=>.row [.fn (.func 144) [.ptr 10 0] [],pr 100,.fn (.func 145) [.ptr 10 0] [],pr 1000,.fn (.func 194) [.ptr 11 0] [],pr 500,.fn (.func 195) [] [.ptr 12 0],pr 1100] 153 (.n 0)
 |3=>.row [.fn (.func 211) [.ptr 11 0] [],pr 500,.fn (.func 410) [.ptr 9 0] [],pr 500] 208 (.n 0)
 |4=>.row [.fn (.func 149) [.ptr 10 0] [],pr 500,.fn (.func 150) [.ptr 10 0] [],pr 520,.fn (.func 212) [.agg cmR] [],pr 1000] 166 (.n 0)
 |5=>.row [.fn (.func 147) [.ptr 10 0] [],pr 500,.fn (.func 190) [.agg cmR] [],pr 1000] 223 (.n 0)
 |6=>.map (y_b 0 mdL) 20
 |7=>.row [.top,.top,.top,.top,.top,.top,.top,.top,.top,.top,.top,.top,.top,.top,.top,.top,.top,.top,.top,.top,.top,.top] 344 (.n 0)
 |8=>.map t_Y 10
 |9=>.row [.lit .nilIface,.str T.span,.str T.keep,.lit (.bool T.skip),.lit (.bool T.promote),.lit (.bool T.pres),.str T.pad] 180 (.n 0)
 |10=>.row [] 78 (.n 0)
 |11=>.row cmR 90 (.n 0)
 |_=>.row [.ptr 11 0] 91 (.n 0)
def cvL(T:TD):List (Nat×ABlk):=[(0,cvN T 0),(1,cvN T 1),(2,cvN T 2),(3,cvN T 3),(4,cvN T 4),(5,cvN T 5),(6,cvN T 6),(7,cvN T 7),(8,cvN T 8),(9,cvN T 9),(10,cvN T 10),(11,cvN T 11),(12,cvN T 12)]
section
variable {P:Program} {w0 w:World} {F0:Fp} {ι:Inj} {H:AHeap}
def allF(H:AHeap):Sg:=fzL (e_F H [] H.next) []
theorem i_I{H:AHeap}(hro:H.ros=[]):∀{n j:Nat} {b:ABlk},j<n->H.get j=some b->j∈e_F H [] n
 |n+1,j,b,h,hg=>by
  by_cases e:j=n
  ·subst e
   simp only[e_F]
   rw[hg]
   simp[hro,d_F]
  ·have:=i_I (n:=n) hro ac hg
   simp only[e_F]
   split
   ·rw[hro];simp[d_F,this]
   ·exact this
theorem o_c{σ:Sg}:∀{l:List Nat} {j:Nat},j∈l->j∈fzs (fzL l σ)
 |k::l,j,h=>by
  simp only[fzL,fzs]
  rcases List.mem_cons.1 h with rfl|h
  ·exact List.mem_cons_self ..
  ·exact List.mem_cons_of_mem _ (o_c h)
theorem c_p(hi:Inv w0 F0 ι H w)(hro:H.ros=[]){j:Nat}{b:ABlk}(hg:H.get j=some b):j∈fzs (allF H):=by
 refine o_c (i_I hro ?_ hg)
 obtain⟨r,o,hr,_⟩:=hi.blk j b hg
 rcases Nat.lt_or_ge j H.next with h|h
 ·exact h
 ·rw[hi.fresh j h] at hr;cases hr
theorem i_J{n:Nat}:∀{l:List Nat},c_S n (fzL l [])=true
 |[]=>rfl
 |k::l=>by simp only[fzL,c_S,Bool.true_and];exact i_J
theorem j_9:∀(l:List Nat),i_7 [] l=true
 |[]=>rfl
 |x::l=>by simp only[i_7,d_F,Bool.not_false,Bool.true_and];exact j_9 l
theorem o_d{st:SId->Option ABlk}{l:List Nat}:okS ⟨0,[],st⟩ [] (fzL l []):=by
 unfold okS
 refine l_q ?_ trivial
 rw[Bool.and_eq_true,Bool.and_eq_true]
 exact⟨i_J,rfl,j_9 _⟩
theorem Inv.allF(hi:Inv w0 F0 ι H w)(hro:H.ros=[]){st:SId->Option ABlk}(hst:H.st=st):Inv w0 F0 (b_r w ι (allF H)) (hpD ⟨0,[],st⟩ [] []) w:=
 c_7 hi (D:=⟨0,[],st⟩) (blks:=[]) hst (fun x hx=>bv) o_d ((m_k (σ:=[]) fun j hj=>d_h hj).n fun j hj=>by cases hj)
def mpS(S:GenS)(q:S.X->MP):GenS:={S with p1:=0,val:=fun x=>.mp (q x),out:=fun _=>[],n2:=0}
theorem h_J{S:GenS}{q:S.X->MP}{f:FuncId}(h:S.Body P f)(hp:S.p1=0)(hn:∀x (ι ι':Inj) v,(∀r o,ι.m r=some o->ι'.m r=some o)->(q x).p ι v->(q x).p ι' v)
 (hq:∀(x:S.X) (w0 w:World) (F0:Fp) (ι:Inj) (v:Value),Inv w0 F0 ι (hpD ⟨S.n2,[],S.st⟩ (S.out x) []) w->Den ι (S.val x) v->(q x).p (b_r w ι (allF (hpD ⟨S.n2,[],S.st⟩ (S.out x) []))) v):(mpS S q).Body P f:=by
 intro a ha w0 F0 ι w vs hi hd
 refine Calls.mono (h a ha w0 F0 ι w vs hi hd) fun e w' he=>?_
 cases e with
 |panicked _=>exact he.elim
 |outgrown=>exact he.elim
 |returned v=>
 obtain⟨a2,H2,ι2,⟨x,hG,hent⟩,hda,hle2,hinv2⟩:=he
 rw[hp] at hent hle2
 obtain⟨ι3,hle3,hinv3,hd3⟩:=f_l hent hinv2 hda
 have hq':=hq x _ _ _ _ _ hinv3 hd3
 refine⟨.mp (q x),hpD ⟨0,[],S.st⟩ [] [],b_r w' ι3 (allF (hpD ⟨S.n2,[],S.st⟩ (S.out x) [])),⟨x,hG,rfl,trivial,trivial,?_⟩,.mp hq',?_,Inv.allF hinv3 rfl rfl⟩
 ·refine⟨⟨fun w0 F0 w ι v hi' hd=>?_⟩,o_d⟩
  cases hd with
  |mp hv=>exact hn x _ _ v (fun r o=>a_6 hi') hv
 ·exact⟨fun i r hr=>by simp[Inj.bare,mpS] at hr,fun r o hm=>a_6 hinv3 (hle3.m _ _ (hle2.m _ _ hm)),fun y r hr=>hle3.ad _ _ (hle2.ad _ _ hr)⟩
end
def cvOk(T:TD)(r:Nat->Nat)(m:Nat->Option Obj)(k:Nat):Prop:=∃o,m (r k)=some o/\(∀c fz,o≠ .cells c 173 fz)/\∀(ι':Inj) (b:ABlk),(∀i,i<13->ι'.ad (cv i)=some (r i))->(∀r o,m r=some o->ι'.m r=some o)->cvB T k=some b->BDen (ι'.bare 0) b o
theorem cvOk.mono{T:TD}{r:Nat->Nat}{m m':Nat->Option Obj}{k:Nat}(hm:∀r o,m r=some o->m' r=some o)(h:cvOk T r m k):cvOk T r m' k:=by
 obtain⟨o,h1,h2,h3⟩:=h
 exact⟨o,hm _ _ h1,h2,fun ι' b ha hm'=>h3 ι' b ha fun r o hr=>hm' _ _ (hm _ _ hr)⟩
def Q.qCp(T:TD)(ι:Inj)(v:Value):Prop:=∃r:Nat->Nat,v=.pointer (some ⟨r 0,0,none⟩)/\(∀i j,i<13->j<13->r i=r j->i=j)/\∀k,k<13->cvOk T r ι.m k
theorem o_e(T:TD)(ι ι':Inj)(v:Value)(hm:∀r o,ι.m r=some o->ι'.m r=some o)(h:qCp T ι v):qCp T ι' v:=by
 obtain⟨r,h1,h2,h3⟩:=h
 exact⟨r,h1,h2,fun k hk=>(h3 k hk).mono hm⟩
def Q.qC(T:TD):MP:=⟨qCp T,fun ι ι' v h=>o_e T ι ι' v h.m,fun ι v ⟨_,h,_⟩=>bC,[]⟩
def k_a:By:=[116,97,98,108,101]
def o_f:By:=[116,98,111,100,121]
def atM(ro:Bool)(m:Nat->Option Obj)(z:Value):Prop:=
 (ro=false->z=.slice none 0 0)/\(ro=true->∃(g c:Nat) (rest:List Value),z=.slice (some ⟨g,0,none⟩) 1 c/\1<=c/\m g=some (.cells (([Value.string ⟨([]:By).toArray⟩,Value.string ⟨roleL.toArray⟩,Value.string ⟨presL.toArray⟩]:List Value)++rest).toArray 175 (0,0)))
theorem atM.mono{ro:Bool}{m m':Nat->Option Obj}{z:Value}(hm:∀r o,m r=some o->m' r=some o)(h:atM ro m z):atM ro m' z:=
 ⟨h.1,fun g=>by
  obtain⟨a,c,rest,h1,h2,h3⟩:=h.2 g
  exact⟨a,c,rest,h1,h2,hm _ _ h3⟩⟩
theorem s_2{ro:Bool}{m:Nat->Option Obj}{z:Value}{ι:Inj}(h:atM ro m z)(hm:∀r o,m r=some o->ι.m r=some o):Den ι (atA ro) z:=by
 cases hr:ro with
 |false=>rw[h.1 hr];exact .ite (fun e=>aW) (fun _=>.lit)
 |true=>
  obtain⟨g,c,rest,rfl,h2,h3⟩:=h.2 hr
  refine .ite (fun _=>?_) (fun e=>aW)
  refine .fmw (e:=175) (fz:=(0,0)) (pre:=[]) (vs:=[.string ⟨([]:By).toArray⟩,.string ⟨roleL.toArray⟩,.string ⟨presL.toArray⟩]) (rest:=rest) (hm _ _ h3) rfl (fun k hk=>?_) h2 rfl
  have:k=0:=ac
  subst this
  exact .cons .str (.cons .str (.cons .str .nil))
def Q.qDp(ro:Bool)(h:Nat->Nat->By)(t:Nat->Nat->By)(C:Nat->Nat)(n:Nat)(ι:Inj)(v:Value):Prop:=∃(d b R:Nat) (A:Nat->Nat) (z:Value),v=.pointer (some ⟨d,0,none⟩)/\nodeM ι.m d none (some b) (some b) none none 2 []/\nodeW ι.m b (some d) (some R) (some R) none none 3 k_a z/\nodeM ι.m R (some b) (some (A 0)) (some (A (n-1))) none none 3 o_f/\(∀i,i<n->rowM (h i) (t i) (C i) R (b_B A i) (d_C A n i) (A i) ι.m)/\atM ro ι.m z
theorem o_g(ro:Bool)(h:Nat->Nat->By)(t:Nat->Nat->By)(C:Nat->Nat)(n:Nat)(ι ι':Inj)(v:Value)(hm:∀r o,ι.m r=some o->ι'.m r=some o)(hq:qDp ro h t C n ι v):qDp ro h t C n ι' v:=by
 obtain⟨d,b,R,A,z,h1,h2,h3,h4,h5,h6⟩:=hq
 exact⟨d,b,R,A,z,h1,h2.mono hm,h3.mono hm,h4.mono hm,fun i hi=>(h5 i hi).mono hm,h6.mono hm⟩
def Q.qD(ro:Bool)(h:Nat->Nat->By)(t:Nat->Nat->By)(C:Nat->Nat)(n:Nat):MP:=⟨qDp ro h t C n,fun ι ι' v hl=>o_g ro h t C n ι ι' v hl.m,fun ι v ⟨_,_,_,_,_,h,_⟩=>bC,[]⟩
theorem q_7{ro ro':Bool}(hr:ro=ro'){h h':Nat->Nat->By}{t:Nat->Nat->By}{C:Nat->Nat}{n p:Nat}{ρ:Nat->Nat}(hh:∀i,i<n->∀j,j<C i->h i j=h' i j):SubA p (.mp ((qD ro h t C n).ren ρ)) (.mp (qD ro' h' t C n)):=fun ι ι' v hle hd=>by
 subst hr
 cases hd with
 |mp hq=>
 obtain⟨d,b,R,A,z,h1,h2,h3,h4,h5,h6⟩:=hq
 exact .mp (q:=qD ro h' t C n) ⟨d,b,R,A,z,h1,h2.mono hle.m,h3.mono hle.m,h4.mono hle.m,fun i hi=>k_D (hh i hi) ((h5 i hi).mono hle.m),h6.mono hle.m⟩
theorem q_8{T:TD}{p:Nat}{ρ:Nat->Nat}:SubA p (.mp ((qC T).ren ρ)) (.mp (qC T)):=fun ι ι' v hle hd=>by
 cases hd with
 |mp hq=>exact .mp (q:=qC T) (o_e T _ _ v (fun r o h=>hle.m r o h) hq)
set_option maxRecDepth 100000 in
theorem w_v{T:TD}{ι ι':Inj}(h:NmOk 13 cv ι ι'){i:Nat}(hi:i<13){b:ABlk}{o:Obj}(hb:cvB T i=some b)(hd:BDen ι (cvN T i) o):BDen ι' b o:=by
 match i,hi with
 |0,_=>cases hb;exact c_v h rfl hd
 |1,_=>cases hb;exact c_v h rfl hd
 |2,_=>cases hb;exact c_v h rfl hd
 |3,_=>cases hb;exact c_v h rfl hd
 |4,_=>cases hb;exact c_v h rfl hd
 |5,_=>cases hb;exact c_v h rfl hd
 |6,_=>cases hb;exact o_b h.le rfl hd
 |7,_=>
  cases hb
  obtain⟨vs,rest,rfl,_,_⟩:=hd
  exact⟨[],vs++rest,rfl,.nil,Nat.zero_le _⟩
 |8,_=>cases hb;exact o_b h.le rfl hd
 |9,_=>cases hb;exact c_v h rfl hd
 |10,_=>cases hb;exact c_v h rfl hd
 |11,_=>cases hb;exact c_v h rfl hd
 |12,_=>cases hb;exact c_v h rfl hd
 |i+13,hi=>omega
set_option maxRecDepth 100000 in
theorem w_w{T:TD}{ι:Inj}{i:Nat}(hi:i<13){o:Obj}(hd:BDen ι (cvN T i) o):∀c fz,o≠ .cells c 173 fz:=by
 intro c fz e
 subst e
 match i,hi with
 |0,_|1,_|2,_|3,_|4,_|5,_|7,_|9,_|10,_|11,_|12,_=>
  obtain⟨vs,rest,e,_⟩:=hd
  injection e with _ e _
  exact absurd e ar
 |6,_|8,_=>
  obtain⟨en,e,_⟩:=hd
  cases e
 |i+13,hi=>omega
theorem h_K{T:TD}{i:Nat}(h:i<13):(hpD ⟨13,[],noSt⟩ (cvL T) []).get i=some (cvN T i):=by
 match i,h with
 |0,_|1,_|2,_|3,_|4,_|5,_|6,_|7,_|8,_|9,_|10,_|11,_|12,_=>rfl
 |i+13,h=>omega
theorem p_B{w0 w:World}{F0:Fp}{ι:Inj}{H:AHeap}(hi:Inv w0 F0 ι H w)(hst:H.st=noSt)(x:SId):ι.ad x=none:=by
 cases h:ι.ad x with
 |none=>rfl
 |some r=>
  obtain⟨b,hb⟩:=hi.fz.stad x r h
  rw[hst] at hb;cases hb
theorem E_R{T:TD}{w0 w:World}{F0:Fp}{ι:Inj}{v:Value}(hi:Inv w0 F0 ι (hpD ⟨13,[],noSt⟩ (cvL T) []) w)(hd:Den ι (.ptr 0 0) v):qCp T (b_r w ι (allF (hpD ⟨13,[],noSt⟩ (cvL T) []))) v:=by
 have hb:∀k,k<13->∃r o,ι.f k=some r/\w.heap[r]?=some o/\BDen ι (cvN T k) o:=fun k hk=>by
  obtain⟨r,o,hr,ho,hb,_⟩:=hi.blk k _ (h_K hk)
  exact⟨r,o,hr,ho,hb⟩
 have hr:∀k,k<13->ι.f k=some ((ι.f k).getD 0):=fun k hk=>by
  obtain⟨r,_,h,_⟩:=hb k hk
  rw[h];rfl
 refine⟨fun k=>(ι.f k).getD 0,?_,fun i j h1 h2 e=>?_,fun k hk=>?_⟩
 ·cases hd with
  |ptr h=>
   show _=Value.pointer (some ⟨(ι.f 0).getD 0,0,none⟩)
   rw[h];rfl
 ·have e:(ι.f i).getD 0=(ι.f j).getD 0:=e
  exact hi.inj i j _ _ _ (h_K h1) (h_K h2) (hr i h1) ((hr j h2).trans (congrArg some e.symm))
 ·obtain⟨r,o,h1,h2,h3⟩:=hb k hk
  have e:(ι.f k).getD 0=r:=by rw[h1];rfl
  refine⟨o,?_,w_w hk h3,fun ι' b ha hm hcb=>w_v (ι':=ι'.bare 0) ⟨fun i r hi' hri=>?_,⟨fun i r h=>bc,fun r o h=>hm r o (a_6 hi h),fun x r h=>?_⟩⟩ hk hcb h3⟩
  ·show(b_r w ι (allF _)).m ((ι.f k).getD 0)=some o
   rw[e];exact b_f (c_p hi rfl (h_K hk)) h1 h2
  ·show ι'.ad (cv i)=some r
   rw[ha i hi']
   show some ((ι.f i).getD 0)=some r
   rw[hri];rfl
  ·have h:ι.ad x=some r:=h
   rw[p_B hi rfl] at h;cases h
theorem i_K{ι':Inj}{m:Nat->Option Obj}{a:Nat}{o:Obj}{p1 p2 p3 p4 p5:Option Nat}{ty:Nat}{d:By}{par fst lst prv nxt dd qa:AVal}{z:Value}(h:nodeW m a p1 p2 p3 p4 p5 ty d z)(hm:m a=some o)(h1:Den ι' par (c_f p1))(h2:Den ι' fst (c_f p2))(h3:Den ι' lst (c_f p3))(h4:Den ι' prv (c_f p4))(h5:Den ι' nxt (c_f p5))
 (hd:Den ι' dd (.string ⟨d.toArray⟩)) (hz:Den ι' qa z):BDen ι' (b_w par fst lst prv nxt ty dd qa) o:=by
 obtain⟨rest,h⟩:=h
 rw[hm] at h
 cases h
 exact⟨_,rest,rfl,.cons h1 (.cons h2 (.cons h3 (.cons h4 (.cons h5 (.cons .lit (.cons .lit (.cons hd (.cons .str (.cons hz .nil))))))))),by show(10:Nat)<=10+rest.length;omega⟩
theorem e_b{ι':Inj}{m:Nat->Option Obj}{a:Nat}{o:Obj}{p1 p2 p3 p4 p5:Option Nat}{ty:Nat}{d:By}{par fst lst prv nxt dd:AVal}(h:nodeM m a p1 p2 p3 p4 p5 ty d)(hm:m a=some o)(h1:Den ι' par (c_f p1))(h2:Den ι' fst (c_f p2))(h3:Den ι' lst (c_f p3))(h4:Den ι' prv (c_f p4))(h5:Den ι' nxt (c_f p5))
 (hd:Den ι' dd (.string ⟨d.toArray⟩)):BDen ι' (c_d par fst lst prv nxt ty dd) o:=i_K h hm h1 h2 h3 h4 h5 hd .lit
theorem s_3{ι':Inj}{x:SId}{r:Nat}(h:ι'.ad x=some r):Den ι' (.sp x 0) (c_f (some r)):=.sp h
theorem Inv.noN{w0 w:World}{F0:Fp}{ι:Inj}{n:Nat}{st:SId->Option ABlk}(h:Inv w0 F0 ι (hpD ⟨n,[],st⟩ [] []) w):Inv w0 F0 (ι.bare 0) (hpD ⟨0,[],st⟩ [] []) w:=
 ⟨fun id b hg=>(by cases a_1 hg),fun i j b c r h1=>(by cases a_1 h1),fun id _=>(by simp[Inj.bare]),h.frame,h.size,h.tape,h.os,h.output,h.glob,⟨h.fz.frz,fun k b r hk=>(by cases a_1 hk),fun x b r hx hr=>(by
  rw[Inj.bare_bare];exact h.fz.st x b r hx hr),h.fz.stinj,h.fz.stad⟩⟩
theorem d_k{m:Nat->Option Obj}{a:Nat}{p1 p2 p3 p4 p5:Option Nat}{ty:Nat}{d:By}{z:Value}(h:nodeW m a p1 p2 p3 p4 p5 ty d z):∃o,m a=some o:=by
 obtain⟨r,h⟩:=h
 exact⟨_,h⟩
theorem k_b{T:TD}{ι':Inj}{A:Nat->Nat}{g:Nat->AVal}(i:Nat)(h:∀k,i=k+1->Den ι' (g k) (c_f (some (A k)))):Den ι' (.ite (Nat.beq i 0) np (g (i-1))) (c_f (b_B A i)):=by
 cases i with
 |zero=>exact .ite (fun _=>.lit) (fun e=>aW)
 |succ k=>exact .ite (fun e=>by simp at e) (fun _=>h k rfl)
theorem k_c{T:TD}{ι':Inj}{A:Nat->Nat}{g:Nat->AVal}(n i:Nat)(h:i+1<n->Den ι' (g (i+1)) (c_f (some (A (i+1))))):Den ι' (.ite (Nat.blt (i+1) n) (g (i+1)) np) (c_f (d_C A n i)):=by
 unfold d_C
 cases e:Nat.blt (i+1) n with
 |true=>exact .ite (fun _=>h (a_Y e)) (fun e=>aW)
 |false=>exact .ite (fun e=>aW) (fun _=>.lit)
theorem o_h{ι':Inj}{l:By}{d:Nat}{g:AVal}(h:b_X l=false->Den ι' g (c_f (some d))):Den ι' (.ite (!b_X l) g np) (c_f (cond (b_X l) none (some d))):=by
 cases e:b_X l with
 |true=>exact .ite (fun e=>aW) (fun _=>.lit)
 |false=>exact .ite (fun _=>h e) (fun e=>aW)
theorem s_4{ι':Inj}{c:Bool}:Den ι' (.ite c G_G G_F) (.string ⟨(cond c thL tdL).toArray⟩):=by
 cases c with
 |true=>exact .ite (fun _=>.str) (fun e=>aW)
 |false=>exact .ite (fun e=>aW) (fun _=>.str)
open Classical in
noncomputable def adF(T:TD)(r:Nat->Nat)(d b R:Nat)(A:Nat->Nat)(B D:Nat->Nat->Nat):SId->Option Nat:=fun x=>match x.k with
 |0=>if x.j=0/\x.i<13 then some (r x.i) else none
 |1=>if x=doc then some d else none
 |2=>if x=tbl then some b else none
 |3=>if x=tbd then some R else none
 |4=>if x.i<T.R/\x.j=0 then some (A x.i) else none
 |5=>if x.i<T.R/\x.j<T.C x.i then some (B x.i x.j) else none
 |6=>if x.i<T.R/\x.j<T.C x.i/\b_X (T.tx x.i x.j)=false then some (D x.i x.j) else none
 |_=>none
inductive AdK (T:TD) (r:Nat->Nat) (d b R:Nat) (A:Nat->Nat) (B D:Nat->Nat->Nat):SId->Nat->Prop where
 |cv {i:Nat} (h:i<13):AdK T r d b R A B D (Tk.cv i) (r i)
 |doc:AdK T r d b R A B D Tk.doc d
 |tbl:AdK T r d b R A B D Tk.tbl b
 |tbd:AdK T r d b R A B D Tk.tbd R
 |row {i:Nat} (h:i<T.R):AdK T r d b R A B D (tr i) (A i)
 |cell {i j:Nat} (h:i<T.R) (hj:j<T.C i):AdK T r d b R A B D (td i j) (B i j)
 |text {i j:Nat} (h:i<T.R) (hj:j<T.C i) (ht:b_X (T.tx i j)=false):AdK T r d b R A B D (tx i j) (D i j)
section
variable {T:TD} {r:Nat->Nat} {d b R:Nat} {A:Nat->Nat} {B D:Nat->Nat->Nat}
theorem g_E{x:SId}{a:Nat}(h:adF T r d b R A B D x=some a):AdK T r d b R A B D x a:=by
 obtain⟨k,i,j⟩:=x
 unfold adF at h
 split at h
 ·rename_i hk
  simp only at hk;subst hk
  split at h
  ·rename_i hc
   obtain⟨rfl,hi⟩:=hc
   cases h;exact .cv hi
  ·cases h
 ·split at h
  ·rename_i hc;rw[hc];cases h;exact .doc
  ·cases h
 ·split at h
  ·rename_i hc;rw[hc];cases h;exact .tbl
  ·cases h
 ·split at h
  ·rename_i hc;rw[hc];cases h;exact .tbd
  ·cases h
 ·rename_i hk
  simp only at hk;subst hk
  split at h
  ·rename_i hc
   obtain⟨hi,rfl⟩:=hc
   cases h;exact .row hi
  ·cases h
 ·rename_i hk
  simp only at hk;subst hk
  split at h
  ·rename_i hc
   cases h;exact .cell hc.1 hc.2
  ·cases h
 ·rename_i hk
  simp only at hk;subst hk
  split at h
  ·rename_i hc
   cases h;exact .text hc.1 hc.2.1 hc.2.2
  ·cases h
 ·cases h
theorem w_x{i:Nat}(h:i<13):adF T r d b R A B D (cv i)=some (r i):=if_pos ⟨rfl,h⟩
theorem q_9:adF T r d b R A B D doc=some d:=if_pos rfl
theorem o_i:adF T r d b R A B D tbl=some b:=if_pos rfl
theorem o_j:adF T r d b R A B D tbd=some R:=if_pos rfl
theorem i_L{i:Nat}(h:i<T.R):adF T r d b R A B D (tr i)=some (A i):=if_pos ⟨h,rfl⟩
theorem f_N{i j:Nat}(h:i<T.R)(hj:j<T.C i):adF T r d b R A B D (td i j)=some (B i j):=if_pos ⟨h,hj⟩
theorem o_k{i j:Nat}(h:i<T.R)(hj:j<T.C i)(ht:b_X (T.tx i j)=false):adF T r d b R A B D (tx i j)=some (D i j):=if_pos ⟨h,hj,ht⟩
structure AllM (T:TD) (r:Nat->Nat) (d b R:Nat) (A:Nat->Nat) (B D:Nat->Nat->Nat) (z:Value) (m:Nat->Option Obj):Prop where
 tm:TreeM T A B D R m
 doc:nodeM m d none (some b) (some b) none none 2 []
 tbl:nodeW m b (some d) (some R) (some R) none none 3 k_a z
 ta:atM T.role m z
 tbd:nodeM m R (some b) (some (A 0)) (some (A (T.R-1))) none none 3 o_f
 cv:∀k,k<13->cvOk T r m k
 ri:∀i j,i<13->j<13->r i=r j->i=j
variable {m:Nat->Option Obj} {z:Value}
theorem e_H(h:AllM T r d b R A B D z m){i a:Nat}(hi:i<13){p1 p2 p3 p4 p5:Option Nat}{ty:Nat}{dd:By}{y:Value}(hn:nodeW m a p1 p2 p3 p4 p5 ty dd y)(e:r i=a):False:=by
 obtain⟨o,h1,h2,_⟩:=h.cv i hi
 obtain⟨rest,hn⟩:=hn
 rw[e,hn] at h1
 cases h1
 exact h2 _ _ rfl
theorem b_x{a:Nat}{p1 p2 p3 p4 p5 q1 q2 q3 q4 q5:Option Nat}{ty ty':Nat}{dd dd':By}{y y':Value}(h:nodeW m a p1 p2 p3 p4 p5 ty dd y)(h':nodeW m a q1 q2 q3 q4 q5 ty' dd' y')(hne:ty≠ty'\/dd≠dd'):False:=by
 obtain⟨_,_,e1,e2⟩:=c_k h h'
 rcases hne with g|g
 ·exact g e1
 ·exact g e2
theorem g_F{c:Bool}:k_a≠cond c thL tdL/\o_f≠cond c thL tdL/\trL≠cond c thL tdL:=by cases c<;>decide
theorem AdK.inj(h:AllM T r d b R A B D z m){x y:SId}{a:Nat}(hx:AdK T r d b R A B D x a)(hy:AdK T r d b R A B D y a):x=y:=by
 have tm:=h.tm
 cases hx with
 |@cv i hi=>
  generalize hxx:r i=a at*
  cases hy with
  |@cv j hj=>rw[h.ri i j hi hj hxx]
  |doc=>exact(e_H h hi h.doc hxx).elim
  |tbl=>exact(e_H h hi h.tbl hxx).elim
  |tbd=>exact(e_H h hi h.tbd hxx).elim
  |row h'=>exact(e_H h hi (tm.row _ h') hxx).elim
  |cell h' hj'=>exact(e_H h hi (tm.cell _ _ h' hj') hxx).elim
  |text h' hj' ht'=>exact(e_H h hi (tm.text _ _ h' hj' ht') hxx).elim
 |doc=>
  have n:=h.doc
  generalize hxx:d=a at*
  cases hy with
  |cv hi=>exact(e_H h hi n rfl).elim
  |doc=>rfl
  |tbl=>exact(b_x n h.tbl (.inl ar)).elim
  |tbd=>exact(b_x n h.tbd (.inl ar)).elim
  |row h'=>exact(b_x n (tm.row _ h') (.inl ar)).elim
  |cell h' hj'=>exact(b_x n (tm.cell _ _ h' hj') (.inl ar)).elim
  |text h' hj' ht'=>exact(b_x n (tm.text _ _ h' hj' ht') (.inl ar)).elim
 |tbl=>
  have n:=h.tbl
  generalize hxx:b=a at*
  cases hy with
  |cv hi=>exact(e_H h hi n rfl).elim
  |doc=>exact(b_x n h.doc (.inl ar)).elim
  |tbl=>rfl
  |tbd=>exact(b_x n h.tbd (.inr ar)).elim
  |row h'=>exact(b_x n (tm.row _ h') (.inr ar)).elim
  |cell h' hj'=>exact(b_x n (tm.cell _ _ h' hj') (.inr g_F.1)).elim
  |text h' hj' ht'=>exact(b_x n (tm.text _ _ h' hj' ht') (.inl ar)).elim
 |tbd=>
  have n:=h.tbd
  generalize hxx:R=a at*
  cases hy with
  |cv hi=>exact(e_H h hi n rfl).elim
  |doc=>exact(b_x n h.doc (.inl ar)).elim
  |tbl=>exact(b_x n h.tbl (.inr ar)).elim
  |tbd=>rfl
  |row h'=>exact(b_x n (tm.row _ h') (.inr ar)).elim
  |cell h' hj'=>exact(b_x n (tm.cell _ _ h' hj') (.inr g_F.2.1)).elim
  |text h' hj' ht'=>exact(b_x n (tm.text _ _ h' hj' ht') (.inl ar)).elim
 |@row i h1=>
  have n:=tm.row i h1
  generalize hxx:A i=a at*
  cases hy with
  |cv hi=>exact(e_H h hi n rfl).elim
  |doc=>exact(b_x n h.doc (.inl ar)).elim
  |tbl=>exact(b_x n h.tbl (.inr ar)).elim
  |tbd=>exact(b_x n h.tbd (.inr ar)).elim
  |row h'=>rw[tm.rr h1 h' hxx]
  |cell h' hj'=>exact(b_x n (tm.cell _ _ h' hj') (.inr g_F.2.2)).elim
  |text h' hj' ht'=>exact(b_x n (tm.text _ _ h' hj' ht') (.inl ar)).elim
 |@cell i j h1 hj=>
  have n:=tm.cell i j h1 hj
  generalize hxx:B i j=a at*
  cases hy with
  |cv hi=>exact(e_H h hi n rfl).elim
  |doc=>exact(b_x n h.doc (.inl ar)).elim
  |tbl=>exact(b_x n h.tbl (.inr g_F.1.symm)).elim
  |tbd=>exact(b_x n h.tbd (.inr g_F.2.1.symm)).elim
  |row h'=>exact(b_x n (tm.row _ h') (.inr g_F.2.2.symm)).elim
  |cell h' hj'=>obtain⟨rfl,rfl⟩:=tm.cc h1 h' hj hj' hxx;rfl
  |text h' hj' ht'=>exact(b_x n (tm.text _ _ h' hj' ht') (.inl ar)).elim
 |@text i j h1 hj ht=>
  have n:=tm.text i j h1 hj ht
  generalize hxx:D i j=a at*
  cases hy with
  |cv hi=>exact(e_H h hi n rfl).elim
  |doc=>exact(b_x n h.doc (.inl ar)).elim
  |tbl=>exact(b_x n h.tbl (.inl ar)).elim
  |tbd=>exact(b_x n h.tbd (.inl ar)).elim
  |row h'=>exact(b_x n (tm.row _ h') (.inl ar)).elim
  |cell h' hj'=>exact(b_x n (tm.cell _ _ h' hj') (.inl ar)).elim
  |text h' hj' ht'=>obtain⟨rfl,rfl⟩:=tm.tt h1 h' hj hj' ht ht' hxx;rfl
theorem AdK.obj(h:AllM T r d b R A B D z m){x:SId}{a:Nat}(hx:AdK T r d b R A B D x a):∃o,m a=some o:=by
 cases hx with
 |cv hi=>obtain⟨o,ho,_⟩:=h.cv _ hi;exact⟨o,ho⟩
 |doc=>exact d_k h.doc
 |tbl=>exact d_k h.tbl
 |tbd=>exact d_k h.tbd
 |row h'=>exact d_k (h.tm.row _ h')
 |cell h' hj'=>exact d_k (h.tm.cell _ _ h' hj')
 |text h' hj' ht'=>exact d_k (h.tm.text _ _ h' hj' ht')
theorem AdK.dom{x:SId}{a:Nat}(hx:AdK T r d b R A B D x a):∃c,a_f T x=some c:=by
 cases hx with
 |@cv i hi=>
  match i,hi with
  |0,_|1,_|2,_|3,_|4,_|5,_|6,_|7,_|8,_|9,_|10,_|11,_|12,_=>exact⟨_,rfl⟩
  |i+13,h=>omega
 |doc=>exact⟨_,rfl⟩
 |tbl=>exact⟨_,rfl⟩
 |tbd=>exact⟨_,rfl⟩
 |row h=>exact⟨_,rfl⟩
 |cell h hj=>exact⟨_,rfl⟩
 |text h hj ht=>exact⟨_,rfl⟩
set_option maxRecDepth 100000 in
theorem s_5(hT:T.Ok){ι':Inj}(h:AllM T r d b R A B D z m)(had:ι'.ad=adF T r d b R A B D)(hm:∀r o,m r=some o->ι'.m r=some o){x:SId}{a:Nat}{o:Obj}{c:ABlk}(hk:AdK T r d b R A B D x a)(hb:a_f T x=some c)(ho:m a=some o):BDen (ι'.bare 0) c o:=by
 have tm:=h.tm
 have sp:∀{y:SId} {a:Nat},adF T r d b R A B D y=some a->Den (ι'.bare 0) (.sp y 0) (c_f (some a)):=fun h=>s_3 (by show ι'.ad _=_;rw[had];exact h)
 cases hk with
 |cv hi=>
  obtain⟨o',h1,_,h3⟩:=h.cv _ hi
  rw[ho] at h1;cases h1
  exact h3 ι' c (fun i hi=>by rw[had];exact w_x hi) hm hb
 |doc=>cases hb;exact e_b h.doc ho .lit (sp o_i) (sp o_i) .lit .lit .str
 |tbl=>cases hb;exact i_K h.tbl ho (sp q_9) (sp o_j) (sp o_j) .lit .lit .str (s_2 h.ta hm)
 |tbd=>cases hb;exact e_b h.tbd ho (sp o_i) (sp (i_L hT.r)) (sp (i_L (Nat.sub_lt hT.r ar))) .lit .lit .str
 |@row i h=>
  cases hb
  exact e_b (tm.row i h) ho (sp o_j) (sp (f_N h (hT.c i h))) (sp (f_N (j:=T.C i-1) h (Nat.sub_lt (hT.c i h) ar)))
   (k_b (T:=T) (g:=trP) i fun k e=>sp (i_L ac)) (k_c (T:=T) (g:=trP) T.R i fun e=>sp (i_L e)) .str
 |@cell i j h hj=>
  cases hb
  exact e_b (tm.cell i j h hj) ho (sp (i_L h)) (o_h fun e=>sp (o_k h hj e)) (o_h fun e=>sp (o_k h hj e))
   (k_b (T:=T) (g:=tdP i) j fun k e=>sp (f_N h ac)) (k_c (T:=T) (g:=tdP i) (T.C i) j fun e=>sp (f_N h e)) s_4
 |@text i j h hj ht=>
  cases hb
  exact e_b (tm.text i j h hj ht) ho (sp (f_N h hj)) .lit .lit .lit .lit .str
end
def bS(T:TD):GenS where
 A:=Unit
 st:=noSt
 dec:=fun _ _=>some ()
 dom:=fun _=>T.Ok
 args1:=fun _=>[.mp (qC T),.mp (qD T.role (hdF T) T.tx T.C T.R),ns]
 blks1:=fun _=>[]
 next1:=0
 ros1:=[]
 p1:=0
 X:=By
 G:=fun _ x=>x=post (docF T)
 val:=fun x=>.tup [.by_ x,.lit .nilIface]
 out:=fun _=>[]
 n2:=0
set_option maxRecDepth 100000 in
theorem o_l(T:TD):(bS T).Body Tryz.prog 29:=by
 intro a ha w0 F0 ι w vs hi hd
 have hT:T.Ok:=ha
 have hst:(hpD ⟨0,[],noSt⟩ [] []).st=noSt:=rfl
 have nad:=p_B hi hst
 cases hd with
 |cons hd1 hd=>
 cases hd with
 |cons hd2 hd=>
 cases hd with
 |cons hd3 hd=>
 cases hd
 cases hd1 with
 |mp hq1=>
 cases hd2 with
 |mp hq2=>
 obtain⟨r,e1,ri,hcv⟩:=hq1
 obtain⟨d,b,R,A,z,e2,nd,nb,nR,hrow,hat⟩:=hq2
 subst e1;subst e2
 obtain⟨B,D,tm⟩:=p_A hrow
 have all:AllM T r d b R A B D z ι.m:=⟨tm,nd,nb,hat,nR,hcv,ri⟩
 have hlt:∀{r o},ι.m r=some o->r<w.heap.size:=fun{r o} hm=>by
  have ho:=(hi.fz.frz r o hm).1
  rcases Nat.lt_or_ge r w.heap.size with h'|h'
  ·exact h'
  ·rw[Array.getElem?_eq_none h'] at ho;cases ho
 obtain⟨ι',hle,had,hf,hinv⟩:=Inv.bindSt hi (ad':=adF T r d b R A B D) (st':=a_f T) (H':=hpD ⟨0,[],a_f T⟩ [] []) rfl rfl rfl (fun id b h=>(by cases a_1 h)) (fun x r h=>by rw[nad] at h;cases h) (fun x r h=>by rw[nad] at h;cases h)
  (fun x y a hx hy=>AdK.inj all (g_E hx) (g_E hy)) (fun x a hx=>(g_E hx).dom)
  (fun x a _ hx=>by
   obtain⟨o,hm⟩:=(g_E hx).obj all
   exact⟨hlt hm,.inr (by rw[hm];rfl),fun id b h=>(by cases a_1 h)⟩)
  (fun ι' had hf hmm x c a o _ hx hb ho=>by
   obtain⟨o',hm⟩:=(g_E hx).obj all
   have:=(hi.fz.frz a o' hm).1
   rw[ho] at this;cases this
   exact s_5 hT all had hmm (g_E hx) hb hm)
 have hargs:DenL (ι'.bare 0) [.sp (cv 0) 0,.sp doc 0,ns] _:=.cons (.sp (by show ι'.ad _=_;rw[had];exact w_x ac)) (.cons (.sp (by show ι'.ad _=_;rw[had];exact q_9)) (.cons (a_g (p:=0) rfl ι (ι'.bare 0) _ ⟨fun i r h=>bc,hle.m,hle.ad⟩ hd3) .nil))
 refine Calls.mono ((E_Q T hT).1 () hT w0 F0 (ι'.bare 0) w _ (Inv.noN hinv) hargs) fun e w' he=>?_
 cases e with
 |panicked _=>exact he.elim
 |outgrown=>exact he.elim
 |returned v=>
 obtain⟨a2,H2,ι2,⟨x,hG,hent⟩,hda,hle2,hinv2⟩:=he
 obtain⟨ι3,hle3,hinv3,hd3⟩:=f_l hent hinv2 hda
 have hm3:∀r o,ι.m r=some o->ι3.m r=some o:=fun r o h=>hle3.m _ _ (hle2.m _ _ (hle.m _ _ h))
 refine⟨.tup [.by_ x,.lit .nilIface],hpD ⟨0,[],noSt⟩ [] [],⟨fun _=>none,ι3.m,fun _=>none⟩,⟨x,hG,rfl,⟨trivial,trivial⟩,trivial,⟨rfl,trivial⟩⟩,?_,⟨fun i r h=>by simp[Inj.bare,bS] at h,hm3,fun y r h=>by have h:ι.ad y=some r:=h;rw[nad] at h;cases h⟩,
  ⟨fun id b hg=>(by cases a_1 hg),fun i j b c r h1=>(by cases a_1 h1),fun _ _=>rfl,hinv3.frame,hinv3.size,hinv3.tape,hinv3.os,hinv3.output,hinv3.glob,⟨hinv3.fz.frz,fun k b r hk=>(by cases a_1 hk),fun y b r hy=>(by cases hy),fun y z r h=>am,fun y r h=>am⟩⟩⟩
 cases hd3 with
 |tup h3=>
 cases h3 with
 |cons h4 h5=>
 cases h5 with
 |cons h6 h7=>
 cases h7
 cases h6
 refine .tup (.cons ?_ (.cons .lit .nil))
 cases h4 with
 |by_ h1 h2 h3=>exact .by_ h1 h2 h3
 |by0=>exact .by0
theorem o_m:a_t Tryz.prog 29:=w_t
end Tk

