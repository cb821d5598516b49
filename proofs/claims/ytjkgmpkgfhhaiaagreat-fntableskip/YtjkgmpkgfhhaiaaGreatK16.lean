/- Lemmas of this claim; the last text says what is proved. -/
import Derived.Test.YtjkgmpkgfhhaiaaGreatK15
set_option linter.all false
section
open Go Go.Sx Go.Proofs
namespace Tk
open Q
variable [Syms]
def Q.noSt:SId->Option ABlk:=fun _=>none
def elA (name kids:AVal):List AVal:=[.lit (.int .i64 (0:Nat)),name,.str [],ns,kids]
def txA (t:By):List AVal:=[.lit (.int .i64 (1:Nat)),.str [],.str t,ns,ns]
def Q.kidN (t:By):Nat:=cond (nilB t) 0 1
def cellA (h t:By):List AVal:=elA (.str h) (.fmw (fun _=>txA t) 5 (kidN t))
def decS:List AVal->By
 |[_,_,.str t,_,_]=>t
 |_=>[]
end Tk
namespace Tk
open Q
variable [Syms]
def ptrV (o:Option Nat):Value:=.pointer (o.map fun b=>⟨b,0,none⟩)
def nodeM (m:Nat->Option Obj) (a:Nat) (par fst lst prv nxt:Option Nat) (ty:Nat) (data:By):Prop:=
 ∃rest:List Value,m a=some (.cells ([ptrV par,ptrV fst,ptrV lst,ptrV prv,ptrV nxt,.int .u32 (ty:Nat),.int .u32 (0:Nat),.string ⟨data.toArray⟩,.string ⟨([]:By).toArray⟩,.slice none 0 0]++rest).toArray 157 (0,0))
def thL:By:=[116,104]
def tdL:By:=[116,100]
def cellM (h t:By) (R:Nat) (prv nxt:Option Nat) (a:Nat) (m:Nat->Option Obj):Prop:=
 ∃b,nodeM m a (some R) (cond (nilB t) none (some b)) (cond (nilB t) none (some b)) prv nxt 3 h/\(nilB t=false->nodeM m b (some a) none none none none 1 t)
def prevO (A:Nat->Nat):Nat->Option Nat
 |0=>none
 |j+1=>some (A j)
def nextO (A:Nat->Nat) (n j:Nat):Option Nat:=cond (Nat.blt (j+1) n) (some (A (j+1))) none
theorem nodeM.mono {m m':Nat->Option Obj} {a:Nat} {p1 p2 p3 p4 p5:Option Nat} {ty:Nat} {d:By} (hm:∀r o,m r=some o->m' r=some o) (h:nodeM m a p1 p2 p3 p4 p5 ty d):nodeM m' a p1 p2 p3 p4 p5 ty d:=by
 obtain⟨rest,h⟩:=h
 exact⟨rest,hm _ _ h⟩
theorem cellM.mono {m m':Nat->Option Obj} {h t:By} {R a:Nat} {p n:Option Nat} (hm:∀r o,m r=some o->m' r=some o) (hc:cellM h t R p n a m):cellM h t R p n a m':=by
 obtain⟨b,h1,h2⟩:=hc
 exact⟨b,h1.mono hm,fun g=>(h2 g).mono hm⟩
def Q.qTp (h:Nat->By) (t:Nat->By) (k:Nat) (ι:Inj) (v:Value):Prop:=v=.slice none 0 0/\∃(A:Nat->Nat) (R:Nat),ι.f 0=some R/\ι.f 1=some (A (k-1))/\ι.f 2=some (A 0)/\(2<=k->ι.f 4=some (A (k-2)))/\(∀j,j+1<k->cellM (h j) (t j) R (prevO A j) (some (A (j+1))) (A j) ι.m)/\(nilB (t (k-1))=false->∃b,ι.f 3=some b/\nodeM ι.m b (some (A (k-1))) none none none none 1 (t (k-1)))
theorem qT_mono (h:Nat->By) (t:Nat->By) (k:Nat):∀ι ι' v,ι.le ι'->qTp h t k ι v->qTp h t k ι' v:=fun ι ι' v hl ⟨hv,A,R,h0,h1,h2,h4,hc,h3⟩=>⟨hv,A,R,hl.f _ _ h0,hl.f _ _ h1,hl.f _ _ h2,fun g=>hl.f _ _ (h4 g),fun j hj=>(hc j hj).mono hl.m,fun g=>by
 obtain⟨b,hb,hn⟩:=h3 g
 exact⟨b,hl.f _ _ hb,hn.mono hl.m⟩⟩
theorem qT_one (h:Nat->By) (t:Nat->By) (k:Nat):∀ι v,qTp h t k ι v->v.oneCell'=true:=fun ι v ⟨hv,_⟩=>by rw[hv];rfl
def qT (h:Nat->By) (t:Nat->By) (k:Nat):MP:=⟨qTp h t k,qT_mono h t k,qT_one h t k,[0,1]⟩
def Q.qRp (h:Nat->By) (t:Nat->By) (n:Nat) (ι:Inj) (v:Value):Prop:=v=.slice none 0 0/\∃(A:Nat->Nat) (R:Nat),ι.f 0=some R/\ι.f 1=some (A (n-1))/\ι.f 2=some (A 0)/\∀j,j<n->cellM (h j) (t j) R (prevO A j) (nextO A n j) (A j) ι.m
theorem qR_mono (h:Nat->By) (t:Nat->By) (n:Nat):∀ι ι' v,ι.le ι'->qRp h t n ι v->qRp h t n ι' v:=fun ι ι' v hl ⟨hv,A,R,h0,h1,h2,hc⟩=>⟨hv,A,R,hl.f _ _ h0,hl.f _ _ h1,hl.f _ _ h2,fun j hj=>(hc j hj).mono hl.m⟩
theorem qR_one (h:Nat->By) (t:Nat->By) (n:Nat):∀ι v,qRp h t n ι v->v.oneCell'=true:=fun ι v ⟨hv,_⟩=>by rw[hv];rfl
def qR (h:Nat->By) (t:Nat->By) (n:Nat):MP:=⟨qRp h t n,qR_mono h t n,qR_one h t n,[0]⟩
def nodeQ (par fst lst prv nxt:AVal) (ty:Nat) (data q:AVal):ABlk:=.row [par,fst,lst,prv,nxt,.lit (.int .u32 ty),.lit (.int .u32 0),data,.str [],q] 157 (.n 10)
def s_tr':AVal:=s_tr
def rowA (h:Nat->By) (t:Nat->By) (n:Nat):List AVal:=elA s_tr (.fmw (fun j=>cellA (h j) (t j)) 5 n)
def decC:List AVal->By×By
 |[_,.str h,_,_,.fmw g _ _]=>(h,decS (g 0))
 |_=>([],[])
theorem den_np {ι:Inj} {v:Value} (h:Den ι np v):v=ptrV none:=by cases h;rfl
theorem den_ns {ι:Inj} {v:Value} (h:Den ι ns v):v=.slice none 0 0:=by cases h;rfl
theorem den_ptr {ι:Inj} {v:Value} {i b:Nat} (hb:ι.f i=some b) (h:Den ι (.ptr i 0) v):v=ptrV (some b):=by
 cases h with
 |ptr hr=>rw[hb] at hr;cases hr;rfl
theorem den_str {ι:Inj} {v:Value} {l:By} (h:Den ι (.str l) v):v=.string ⟨l.toArray⟩:=by cases h;rfl
theorem nodeM_of {ι:Inj} {m:Nat->Option Obj} {a:Nat} {o:Obj} {par fst lst prv nxt d q:AVal} {ty:Nat} {p1 p2 p3 p4 p5:Option Nat} {dd:By}
 (hb:BDen ι (nodeQ par fst lst prv nxt ty d q) o) (hm:m a=some o)
 (h1:∀v,Den ι par v->v=ptrV p1) (h2:∀v,Den ι fst v->v=ptrV p2) (h3:∀v,Den ι lst v->v=ptrV p3) (h4:∀v,Den ι prv v->v=ptrV p4) (h5:∀v,Den ι nxt v->v=ptrV p5)
 (hd:∀v,Den ι d v->v=.string ⟨dd.toArray⟩) (hq:∀v,Den ι q v->v=.slice none 0 0):nodeM m a p1 p2 p3 p4 p5 ty dd:=by
 obtain⟨vs,rest,rfl,hv,_⟩:=hb
 cases hv with
 |cons a1 hv=>
 cases hv with
 |cons a2 hv=>
 cases hv with
 |cons a3 hv=>
 cases hv with
 |cons a4 hv=>
 cases hv with
 |cons a5 hv=>
 cases hv with
 |cons a6 hv=>
 cases hv with
 |cons a7 hv=>
 cases hv with
 |cons a8 hv=>
 cases hv with
 |cons a9 hv=>
 cases hv with
 |cons a10 hv=>
 cases hv
 have e1:=h1 _ a1
 have e2:=h2 _ a2
 have e3:=h3 _ a3
 have e4:=h4 _ a4
 have e5:=h5 _ a5
 have e8:=hd _ a8
 have e9:=den_str a9
 have e10:=hq _ a10
 cases a6;cases a7
 subst e1;subst e2;subst e3;subst e4;subst e5;subst e8;subst e9;subst e10
 exact⟨rest,hm⟩
theorem nodeQ_mp {ι:Inj} {o:Obj} {par fst lst prv nxt d:AVal} {q:MP} {ty:Nat} (hb:BDen ι (nodeQ par fst lst prv nxt ty d (.mp q)) o):∃v,q.p ι v:=by
 obtain⟨vs,rest,rfl,hv,_⟩:=hb
 obtain⟨y,_,hy⟩:=hv.get 9 rfl
 cases hy with
 |mp h=>exact⟨y,h⟩
theorem nilB_t {l:By} (h:nilB l=true):l=[]:=by cases l with
 |nil=>rfl
 |cons a b=>cases h
theorem cellA_sub {h t:By} {p:Nat}:SubL p (cellA h t) (cellA h t):=.cons (nlS_sub rfl) (.cons (nlS_sub rfl) (.cons (nlS_sub rfl) (.cons (nlS_sub rfl) (.cons (SubA.fmw fun k _=>nlL_sub rfl) .nil))))
theorem kidN_f {t:By} (h:nilB t=false):kidN t=1:=by unfold kidN;rw[h];rfl
theorem kidN_t {t:By} (h:nilB t=true):kidN t=0:=by unfold kidN;rw[h];rfl
theorem cellA_c {h t:By} (hn:nilB t=false):SubL 0 [.agg (cellA h t)] [.agg (elA (.str h) (.fmw (fun _=>txA t) 5 1))]:=.cons (SubA.agg (.cons (nlS_sub rfl) (.cons (nlS_sub rfl) (.cons (nlS_sub rfl) (.cons (nlS_sub rfl) (.cons (by rw[kidN_f hn];exact SubA.fmw fun k _=>nlL_sub rfl) .nil)))))) .nil
theorem cellA_e {h t:By} (hn:nilB t=true):SubL 0 [.agg (cellA h t)] [.agg (elA (.str h) .e0)]:=.cons (SubA.agg (.cons (nlS_sub rfl) (.cons (nlS_sub rfl) (.cons (nlS_sub rfl) (.cons (nlS_sub rfl) (.cons (by
 rw[kidN_t hn]
 intro ι ι' v _ hd
 cases hd<;>exact .e0) .nil)))))) .nil
def thd (l:By):Prop:=l=thL\/l=tdL
theorem rowA_sub {h:Nat->By} {t:Nat->By} {n p:Nat}:SubL p (rowA h t n) (rowA h t n):=.cons (nlS_sub rfl) (.cons (nlS_sub rfl) (.cons (nlS_sub rfl) (.cons (nlS_sub rfl) (.cons (SubA.fmw fun k _=>cellA_sub) .nil))))
theorem rowA_subA {h:Nat->By} {t:Nat->By} {n p:Nat}:SubL p [.agg (rowA h t n)] [.agg (rowA h t n)]:=.cons (SubA.agg rowA_sub) .nil
theorem qT_first {H:AHeap} {h:Nat->By} {t:Nat->By} {σ:Sg} {b bt:Nat} {x:ABlk} {p1 p2:AVal} (s0:look σ 0=some (.id 0)) (s1:look σ 1=some (.id b)) (s2:look σ 2=some (.id b))
 (h0:H.get 0=some (nodeQ np p1 p2 np np 3 s_tr ns)) (hb:H.get b=some x)
 (ht:nilB (t 0)=false->H.get bt=some (nodeB (.ptr b 0) np np np np 1 (.str (t 0)))/\look σ 3=some (.id bt)/\bt∈fzs σ):MPok H ns (qT h t 1) σ:=by
 refine⟨fun w0 F0 w ι v hi hd=>⟨den_ns hd,?_⟩⟩
 obtain⟨R,o0,hR,_⟩:=hi.blk _ _ h0
 obtain⟨a,o,ha,ho,_⟩:=hi.blk _ _ hb
 refine⟨fun _=>a,R,by rw[comp_id s0];exact hR,by rw[comp_id s1];exact ha,by rw[comp_id s2];exact ha,fun g=>by omega,fun j hj=>by omega,fun hn=>?_⟩
 obtain⟨g1,g2,g3⟩:=ht hn
 obtain⟨c,o',hc,hco,hbd,_⟩:=hi.blk _ _ g1
 exact⟨c,by rw[comp_id g2];exact hc,nodeM_of (q:=ns) hbd (comp_fz g3 hc hco) (fun v=>den_ptr ha) (fun v=>den_np) (fun v=>den_np) (fun v=>den_np) (fun v=>den_np) (fun v=>den_str) (fun v=>den_ns)⟩
def lastB (h:Nat->By) (t:Nat->By) (k:Nat) (nxt:AVal):ABlk:=nodeQ (.ptr 0 0) (.ite (!nilB (t (k-1))) (.ptr 3 0) np) (.ite (!nilB (t (k-1))) (.ptr 3 0) np) (.ite (Nat.beq k 1) np (.ptr 4 0)) nxt 3 (.str (h (k-1))) (.mp (qT h t k))
theorem den_kid {ι:Inj} {v:Value} {l:By} {i:Nat} {c:Option Nat} (hc:nilB l=false->∃b,ι.f i=some b/\c=some b) (hn:nilB l=true->c=none) (h:Den ι (.ite (!nilB l) (.ptr i 0) np) v):v=ptrV c:=by
 cases h with
 |ite ht hf=>
  cases e:nilB l with
  |true=>rw[hn e];exact den_np (hf (by rw[e];rfl))
  |false=>
   obtain⟨b,hb,rfl⟩:=hc e
   exact den_ptr hb (ht (by rw[e];rfl))
theorem den_prev {ι:Inj} {v:Value} {A:Nat->Nat} {k:Nat} (hk:0<k) (h4:2<=k->ι.f 4=some (A (k-2))) (h:Den ι (.ite (Nat.beq k 1) np (.ptr 4 0)) v):v=ptrV (prevO A (k-1)):=by
 cases h with
 |ite ht hf=>
  by_cases e:k=1
  ·subst e;exact den_np (ht rfl)
  ·have:=den_ptr (h4 (by omega)) (hf (beqN_iff'.2 e))
   rw[this]
   obtain⟨k',rfl⟩:∃k',k=k'+2:=⟨k-2,by omega⟩
   rfl
theorem last_cell {w0 w:World} {F0:Fp} {ι:Inj} {H:AHeap} {σ:Sg} {h:Nat->By} {t:Nat->By} {k R:Nat} {nxt:AVal} {nx:Option Nat} {A:Nat->Nat} (hk:0<k) (hi:Inv w0 F0 ι H w) (h1:H.get 1=some (lastB h t k nxt)) (f1:1∈fzs σ)
 (e0:ι.f 0=some R) (e1:ι.f 1=some (A (k-1))) (h4:2<=k->ι.f 4=some (A (k-2))) (h3:nilB (t (k-1))=false->∃b,ι.f 3=some b/\nodeM ι.m b (some (A (k-1))) none none none none 1 (t (k-1)))
 (hx:∀v,Den ι nxt v->v=ptrV nx):cellM (h (k-1)) (t (k-1)) R (prevO A (k-1)) nx (A (k-1)) (comp w ι σ).m:=by
 obtain⟨a,o,ha,ho,hbd,_⟩:=hi.blk _ _ h1
 rw[e1] at ha;cases ha
 have key:∀b,(nilB (t (k-1))=false->ι.f 3=some b)->nodeM (comp w ι σ).m (A (k-1)) (some R) (cond (nilB (t (k-1))) none (some b)) (cond (nilB (t (k-1))) none (some b)) (prevO A (k-1)) nx 3 (h (k-1)):=fun b hb=>
  nodeM_of hbd (comp_fz f1 e1 ho) (fun v=>den_ptr e0) (fun v=>den_kid (fun e=>⟨b,hb e,by rw[e];rfl⟩) (fun e=>by rw[e];rfl)) (fun v=>den_kid (fun e=>⟨b,hb e,by rw[e];rfl⟩) (fun e=>by rw[e];rfl)) (fun v=>den_prev hk h4) hx (fun v=>den_str) (fun v hv=>by
   cases hv with
   |mp hq=>exact hq.1)
 cases e:nilB (t (k-1)) with
 |true=>exact⟨0,key 0 (fun h=>by rw[e] at h;cases h),fun h=>by rw[e] at h;cases h⟩
 |false=>
  obtain⟨b,hb,hn⟩:=h3 e
  exact⟨b,key b (fun _=>hb),fun _=>hn.mono fun r o=>comp_m hi⟩
theorem qT_step {H:AHeap} {h:Nat->By} {t:Nat->By} {k:Nat} (hk:0<k) {σ:Sg} {b bt:Nat} {x:ABlk} (s0:look σ 0=some (.id 0)) (s1:look σ 1=some (.id b)) (s2:look σ 2=some (.id 2)) (s4:look σ 4=some (.id 1)) (f1:1∈fzs σ)
 (h1:H.get 1=some (lastB h t k (.ptr b 0))) (hb:H.get b=some x)
 (ht:nilB (t k)=false->H.get bt=some (nodeB (.ptr b 0) np np np np 1 (.str (t k)))/\look σ 3=some (.id bt)/\bt∈fzs σ):MPok H ns (qT h t (k+1)) σ:=by
 refine⟨fun w0 F0 w ι v hi hd=>⟨den_ns hd,?_⟩⟩
 obtain⟨r1,o1,hr1,ho1,hbd1,_⟩:=hi.blk _ _ h1
 obtain⟨v',_,A,R,e0,e1,e2,e4,hc,h3⟩:=nodeQ_mp hbd1
 obtain⟨a,o,ha,ho,_⟩:=hi.blk _ _ hb
 have lc:=last_cell (nx:=some a) hk hi h1 f1 e0 e1 e4 h3 (fun v=>den_ptr ha)
 let A':Nat->Nat:=fun j=>if j=k then a else A j
 have ak:A' k=a:=by simp[A']
 have aj:∀j,j<k->A' j=A j:=fun j hj=>by simp[A',Nat.ne_of_lt hj]
 have ap:∀j,j<k->prevO A' j=prevO A j:=fun j hj=>by
  cases j with
  |zero=>rfl
  |succ j=>simp only[prevO];rw[aj j (by omega)]
 refine⟨A',R,by rw[comp_id s0];exact e0,?_,?_,fun g=>?_,fun j hj=>?_,fun hn=>?_⟩
 ·rw[comp_id s1,Nat.add_sub_cancel,ak];exact ha
 ·rw[comp_id s2,aj 0 hk];exact e2
 ·rw[comp_id s4,show k+1-2=k-1 by omega,aj (k-1) (by omega)];exact e1
 ·rw[aj j (by omega),ap j (by omega)]
  by_cases e:j+1<k
  ·rw[aj (j+1) e];exact(hc j e).mono fun r o=>comp_m hi
  ·have:j=k-1:=by omega
   subst this
   rw[show k-1+1=k by omega,ak]
   exact lc
 ·rw[Nat.add_sub_cancel] at hn⊢
  obtain⟨g1,g2,g3⟩:=ht hn
  obtain⟨c,o',hc',hco,hbd,_⟩:=hi.blk _ _ g1
  rw[ak]
  exact⟨c,by rw[comp_id g2];exact hc',nodeM_of (q:=ns) hbd (comp_fz g3 hc' hco) (fun v=>den_ptr ha) (fun v=>den_np) (fun v=>den_np) (fun v=>den_np) (fun v=>den_np) (fun v=>den_str) (fun v=>den_ns)⟩
theorem qR_exit {H:AHeap} {h:Nat->By} {t:Nat->By} {n:Nat} (hn:0<n) {σ:Sg} (s0:look σ 0=some (.id 0)) (s1:look σ 1=some (.id 1)) (s2:look σ 2=some (.id 2)) (f1:1∈fzs σ)
 (h1:H.get 1=some (lastB h t n np)):MPok H ns (qR h t n) σ:=by
 refine⟨fun w0 F0 w ι v hi hd=>⟨den_ns hd,?_⟩⟩
 obtain⟨r1,o1,hr1,ho1,hbd1,_⟩:=hi.blk _ _ h1
 obtain⟨v',_,A,R,e0,e1,e2,e4,hc,h3⟩:=nodeQ_mp hbd1
 have lc:=last_cell (nx:=none) hn hi h1 f1 e0 e1 e4 h3 (fun v=>den_np)
 refine⟨A,R,by rw[comp_id s0];exact e0,by rw[comp_id s1];exact e1,by rw[comp_id s2];exact e2,fun j hj=>?_⟩
 unfold nextO
 by_cases e:j+1<n
 ·rw[blt_iff.2 e];exact(hc j e).mono fun r o=>comp_m hi
 ·have:j=n-1:=by omega
  subst this
  rw[blt_iff'.2 (by omega)]
  exact lc
theorem qR_same {H:AHeap} {h:Nat->By} {t:Nat->By} {n:Nat} {σ:Sg} (s0:look σ 0=some (.id 0)) (s1:look σ 1=some (.id 1)) (s2:look σ 2=some (.id 2)):MPok H (.mp (qR h t n)) (qR h t n) σ:=by
 refine⟨fun w0 F0 w ι v hi hd=>?_⟩
 cases hd with
 |mp hq=>
 obtain⟨hv,A,R,e0,e1,e2,hc⟩:=hq
 exact⟨hv,A,R,by rw[comp_id s0];exact e0,by rw[comp_id s1];exact e1,by rw[comp_id s2];exact e2,fun j hj=>(hc j hj).mono fun r o=>comp_m hi⟩
def trL:By:=[116,114]
def rowM (h:Nat->By) (t:Nat->By) (n R:Nat) (prv nxt:Option Nat) (a:Nat) (m:Nat->Option Obj):Prop:=
 ∃B:Nat->Nat,nodeM m a (some R) (some (B 0)) (some (B (n-1))) prv nxt 3 trL/\∀j,j<n->cellM (h j) (t j) a (prevO B j) (nextO B n j) (B j) m
theorem rowM.mono {m m':Nat->Option Obj} {h:Nat->By} {t:Nat->By} {n R a:Nat} {p x:Option Nat} (hm:∀r o,m r=some o->m' r=some o) (hr:rowM h t n R p x a m):rowM h t n R p x a m':=by
 obtain⟨B,h1,h2⟩:=hr
 exact⟨B,h1.mono hm,fun j hj=>(h2 j hj).mono hm⟩
def Q.qUp (h:Nat->Nat->By) (t:Nat->Nat->By) (C:Nat->Nat) (k:Nat) (ι:Inj) (v:Value):Prop:=v=.slice none 0 0/\∃(A B:Nat->Nat) (R:Nat),ι.f 0=some R/\ι.f 1=some (A (k-1))/\ι.f 2=some (A 0)/\(2<=k->ι.f 4=some (A (k-2)))/\ι.f 5=some (B 0)/\ι.f 6=some (B (C (k-1)-1))/\
 (∀i,i+1<k->rowM (h i) (t i) (C i) R (prevO A i) (some (A (i+1))) (A i) ι.m)/\∀j,j<C (k-1)->cellM (h (k-1) j) (t (k-1) j) (A (k-1)) (prevO B j) (nextO B (C (k-1)) j) (B j) ι.m
theorem qU_mono (h:Nat->Nat->By) (t:Nat->Nat->By) (C:Nat->Nat) (k:Nat):∀ι ι' v,ι.le ι'->qUp h t C k ι v->qUp h t C k ι' v:=fun ι ι' v hl ⟨hv,A,B,R,h0,h1,h2,h4,h5,h6,hr,hc⟩=>⟨hv,A,B,R,hl.f _ _ h0,hl.f _ _ h1,hl.f _ _ h2,fun g=>hl.f _ _ (h4 g),hl.f _ _ h5,hl.f _ _ h6,fun i hi=>(hr i hi).mono hl.m,fun j hj=>(hc j hj).mono hl.m⟩
theorem qU_one (h:Nat->Nat->By) (t:Nat->Nat->By) (C:Nat->Nat) (k:Nat):∀ι v,qUp h t C k ι v->v.oneCell'=true:=fun ι v ⟨hv,_⟩=>by rw[hv];rfl
def qU (h:Nat->Nat->By) (t:Nat->Nat->By) (C:Nat->Nat) (k:Nat):MP:=⟨qUp h t C k,qU_mono h t C k,qU_one h t C k,[0,1]⟩
def Q.qVp (h:Nat->Nat->By) (t:Nat->Nat->By) (C:Nat->Nat) (n b l f:Nat) (ι:Inj) (v:Value):Prop:=v=.slice none 0 0/\∃(A:Nat->Nat) (R:Nat),ι.f b=some R/\ι.f l=some (A (n-1))/\ι.f f=some (A 0)/\∀i,i<n->rowM (h i) (t i) (C i) R (prevO A i) (nextO A n i) (A i) ι.m
theorem qV_mono (h:Nat->Nat->By) (t:Nat->Nat->By) (C:Nat->Nat) (n b l f:Nat):∀ι ι' v,ι.le ι'->qVp h t C n b l f ι v->qVp h t C n b l f ι' v:=fun ι ι' v hl ⟨hv,A,R,h0,h1,h2,hc⟩=>⟨hv,A,R,hl.f _ _ h0,hl.f _ _ h1,hl.f _ _ h2,fun j hj=>(hc j hj).mono hl.m⟩
theorem qV_one (h:Nat->Nat->By) (t:Nat->Nat->By) (C:Nat->Nat) (n b l f:Nat):∀ι v,qVp h t C n b l f ι v->v.oneCell'=true:=fun ι v ⟨hv,_⟩=>by rw[hv];rfl
def qV (h:Nat->Nat->By) (t:Nat->Nat->By) (C:Nat->Nat) (n b l f:Nat) (ks:List Nat):MP:=⟨qVp h t C n b l f,qV_mono h t C n b l f,qV_one h t C n b l f,ks⟩
theorem qV_same {H:AHeap} {h:Nat->Nat->By} {t:Nat->Nat->By} {C:Nat->Nat} {n b l f:Nat} {ks:List Nat} {σ:Sg} (s0:look σ b=some (.id b)) (s1:look σ l=some (.id l)) (s2:look σ f=some (.id f)):MPok H (.mp (qV h t C n b l f ks)) (qV h t C n b l f ks) σ:=by
 refine⟨fun w0 F0 w ι v hi hd=>?_⟩
 cases hd with
 |mp hq=>
 obtain⟨hv,A,R,e0,e1,e2,hc⟩:=hq
 exact⟨hv,A,R,by rw[comp_id s0];exact e0,by rw[comp_id s1];exact e1,by rw[comp_id s2];exact e2,fun j hj=>(hc j hj).mono fun r o=>comp_m hi⟩
theorem rowM_congr {h h':Nat->By} {t:Nat->By} {n R a:Nat} {p x:Option Nat} {m:Nat->Option Obj} (hh:∀j,j<n->h j=h' j) (hr:rowM h t n R p x a m):rowM h' t n R p x a m:=by
 obtain⟨B,h1,h2⟩:=hr
 exact⟨B,h1,fun j hj=>by rw[←hh j hj];exact h2 j hj⟩
theorem qV_rh {H:AHeap} {h h':Nat->Nat->By} {t:Nat->Nat->By} {C:Nat->Nat} {n b l f b' l' f':Nat} {ks ks':List Nat} {ρ:Nat->Nat} {σ:Sg} (hh:∀i,i<n->∀j,j<C i->h i j=h' i j) (s0:look σ b'=some (.id (ρ b))) (s1:look σ l'=some (.id (ρ l))) (s2:look σ f'=some (.id (ρ f))):MPok H (.mp ((qV h t C n b l f ks).ren ρ)) (qV h' t C n b' l' f' ks') σ:=by
 refine⟨fun w0 F0 w ι v hi hd=>?_⟩
 cases hd with
 |mp hq=>
 obtain⟨hv,A,R,e0,e1,e2,hc⟩:=hq
 exact⟨hv,A,R,by rw[comp_id s0];exact e0,by rw[comp_id s1];exact e1,by rw[comp_id s2];exact e2,fun j hj=>((hc j hj).mono fun r o=>comp_m hi) |> rowM_congr (hh j hj)⟩
theorem qV_re {H:AHeap} {h:Nat->Nat->By} {t:Nat->Nat->By} {C:Nat->Nat} {n b l f b' l' f':Nat} {ks ks':List Nat} {ρ:Nat->Nat} {σ:Sg} (s0:look σ b'=some (.id (ρ b))) (s1:look σ l'=some (.id (ρ l))) (s2:look σ f'=some (.id (ρ f))):MPok H (.mp ((qV h t C n b l f ks).ren ρ)) (qV h t C n b' l' f' ks') σ:=by
 refine⟨fun w0 F0 w ι v hi hd=>?_⟩
 cases hd with
 |mp hq=>
 obtain⟨hv,A,R,e0,e1,e2,hc⟩:=hq
 exact⟨hv,A,R,by rw[comp_id s0];exact e0,by rw[comp_id s1];exact e1,by rw[comp_id s2];exact e2,fun j hj=>(hc j hj).mono fun r o=>comp_m hi⟩
theorem qU_first {H:AHeap} {h:Nat->Nat->By} {t:Nat->Nat->By} {C:Nat->Nat} {σ:Sg} {b bf bl:Nat} {p1 p2 d:AVal} {ρ:Nat->Nat} (s0:look σ 0=some (.id 0)) (s1:look σ 1=some (.id b)) (s2:look σ 2=some (.id b)) (s5:look σ 5=some (.id bf)) (s6:look σ 6=some (.id bl))
 (h0:H.get 0=some (nodeQ np p1 p2 np np 3 d ns)) (r0:ρ 0=b) (r1:ρ 1=bl) (r2:ρ 2=bf):MPok H (.mp ((qR (h 0) (t 0) (C 0)).ren ρ)) (qU h t C 1) σ:=by
 refine⟨fun w0 F0 w ι v hi hd=>?_⟩
 obtain⟨R,o0,hR,_⟩:=hi.blk _ _ h0
 cases hd with
 |mp hq=>
 obtain⟨hv,B,a,e0,e1,e2,hc⟩:=hq
 refine⟨hv,fun _=>a,B,R,by rw[comp_id s0];exact hR,by rw[comp_id s1,←r0];exact e0,by rw[comp_id s2,←r0];exact e0,fun g=>by omega,by rw[comp_id s5,←r2];exact e2,by rw[comp_id s6,←r1];exact e1,fun i hi'=>by omega,fun j hj=>(hc j hj).mono fun r o=>comp_m hi⟩
def lastR (h:Nat->Nat->By) (t:Nat->Nat->By) (C:Nat->Nat) (k:Nat) (nxt:AVal):ABlk:=nodeQ (.ptr 0 0) (.ptr 5 0) (.ptr 6 0) (.ite (Nat.beq k 1) np (.ptr 4 0)) nxt 3 s_tr (.mp (qU h t C k))
theorem last_row {w0 w:World} {F0:Fp} {ι:Inj} {H:AHeap} {σ:Sg} {h:Nat->Nat->By} {t:Nat->Nat->By} {C:Nat->Nat} {k R:Nat} {nxt:AVal} {nx:Option Nat} {A B:Nat->Nat} (hk:0<k) (hi:Inv w0 F0 ι H w) (h1:H.get 1=some (lastR h t C k nxt)) (f1:1∈fzs σ)
 (e0:ι.f 0=some R) (e1:ι.f 1=some (A (k-1))) (h4:2<=k->ι.f 4=some (A (k-2))) (h5:ι.f 5=some (B 0)) (h6:ι.f 6=some (B (C (k-1)-1)))
 (hc:∀j,j<C (k-1)->cellM (h (k-1) j) (t (k-1) j) (A (k-1)) (prevO B j) (nextO B (C (k-1)) j) (B j) ι.m)
 (hx:∀v,Den ι nxt v->v=ptrV nx):rowM (h (k-1)) (t (k-1)) (C (k-1)) R (prevO A (k-1)) nx (A (k-1)) (comp w ι σ).m:=by
 obtain⟨a,o,ha,ho,hbd,_⟩:=hi.blk _ _ h1
 rw[e1] at ha;cases ha
 exact⟨B,nodeM_of hbd (comp_fz f1 e1 ho) (fun v=>den_ptr e0) (fun v=>den_ptr h5) (fun v=>den_ptr h6) (fun v=>den_prev hk h4) hx (fun v=>den_str) (fun v hv=>by
  cases hv with
  |mp hq=>exact hq.1),fun j hj=>(hc j hj).mono fun r o=>comp_m hi⟩
theorem qU_step {H:AHeap} {h:Nat->Nat->By} {t:Nat->Nat->By} {C:Nat->Nat} {k:Nat} (hk:0<k) {σ:Sg} {b bf bl:Nat} {ρ:Nat->Nat} (s0:look σ 0=some (.id 0)) (s1:look σ 1=some (.id b)) (s2:look σ 2=some (.id 2)) (s4:look σ 4=some (.id 1)) (s5:look σ 5=some (.id bf)) (s6:look σ 6=some (.id bl)) (f1:1∈fzs σ)
 (h1:H.get 1=some (lastR h t C k (.ptr b 0))) (r0:ρ 0=b) (r1:ρ 1=bl) (r2:ρ 2=bf):MPok H (.mp ((qR (h k) (t k) (C k)).ren ρ)) (qU h t C (k+1)) σ:=by
 refine⟨fun w0 F0 w ι v hi hd=>?_⟩
 obtain⟨r1',o1,hr1,ho1,hbd1,_⟩:=hi.blk _ _ h1
 obtain⟨v',_,A,B,R,e0,e1,e2,e4,e5,e6,hr,hc⟩:=nodeQ_mp hbd1
 cases hd with
 |mp hq=>
 obtain⟨hv,B',a,g0,g1,g2,gc⟩:=hq
 have g0:ι.f b=some a:=by rw[←r0];exact g0
 have lc:=last_row (nx:=some a) hk hi h1 f1 e0 e1 e4 e5 e6 hc (fun v=>den_ptr g0)
 let A':Nat->Nat:=fun j=>if j=k then a else A j
 have ak:A' k=a:=by simp[A']
 have aj:∀j,j<k->A' j=A j:=fun j hj=>by simp[A',Nat.ne_of_lt hj]
 have ap:∀j,j<k->prevO A' j=prevO A j:=fun j hj=>by
  cases j with
  |zero=>rfl
  |succ j=>simp only[prevO];rw[aj j (by omega)]
 refine⟨hv,A',B',R,by rw[comp_id s0];exact e0,?_,?_,fun g=>?_,?_,?_,fun j hj=>?_,fun j hj=>?_⟩
 ·rw[comp_id s1,Nat.add_sub_cancel,ak];exact g0
 ·rw[comp_id s2,aj 0 hk];exact e2
 ·rw[comp_id s4,show k+1-2=k-1 by omega,aj (k-1) (by omega)];exact e1
 ·rw[comp_id s5,←r2];exact g2
 ·rw[comp_id s6,Nat.add_sub_cancel,←r1];exact g1
 ·rw[aj j (by omega),ap j (by omega)]
  by_cases e:j+1<k
  ·rw[aj (j+1) e];exact(hr j e).mono fun r o=>comp_m hi
  ·have:j=k-1:=by omega
   subst this
   rw[show k-1+1=k by omega,ak]
   exact lc
 ·rw[Nat.add_sub_cancel] at hj⊢
  rw[ak]
  exact(gc j hj).mono fun r o=>comp_m hi
theorem qV_exit {H:AHeap} {h:Nat->Nat->By} {t:Nat->Nat->By} {C:Nat->Nat} {n:Nat} (hn:0<n) {σ:Sg} (s0:look σ 0=some (.id 0)) (s1:look σ 1=some (.id 1)) (s2:look σ 2=some (.id 2)) (f1:1∈fzs σ)
 (h1:H.get 1=some (lastR h t C n np)):MPok H ns (qV h t C n 0 1 2 [0]) σ:=by
 refine⟨fun w0 F0 w ι v hi hd=>⟨den_ns hd,?_⟩⟩
 obtain⟨r1,o1,hr1,ho1,hbd1,_⟩:=hi.blk _ _ h1
 obtain⟨v',_,A,B,R,e0,e1,e2,e4,e5,e6,hr,hc⟩:=nodeQ_mp hbd1
 have lc:=last_row (nx:=none) hn hi h1 f1 e0 e1 e4 e5 e6 hc (fun v=>den_np)
 refine⟨A,R,by rw[comp_id s0];exact e0,by rw[comp_id s1];exact e1,by rw[comp_id s2];exact e2,fun j hj=>?_⟩
 unfold nextO
 by_cases e:j+1<n
 ·rw[blt_iff.2 e];exact(hr j e).mono fun r o=>comp_m hi
 ·have:j=n-1:=by omega
  subst this
  rw[blt_iff'.2 (by omega)]
  exact lc
def bodyA (h:Nat->Nat->By) (t:Nat->Nat->By) (C:Nat->Nat) (n:Nat):List AVal:=elA s_tbody (.fmw (fun i=>rowA (h i) (t i) (C i)) 5 n)
def decR:List AVal->(Nat->By)×(Nat->By)×Nat
 |[_,_,_,_,.fmw f _ n]=>(fun j=>(decC (f j)).1,fun j=>(decC (f j)).2,n)
 |_=>(fun _=>[],fun _=>[],0)
def MBT:Type:=(Nat->Nat->By)×(Nat->Nat->By)×(Nat->Nat)×Nat
def decB:List AVal->(Nat->Nat->By)×(Nat->Nat->By)×(Nat->Nat)×Nat
 |[_,_,_,_,.fmw f _ n]=>(fun i=>(decR (f i)).1,fun i=>(decR (f i)).2.1,fun i=>(decR (f i)).2.2,n)
 |_=>(fun _ _=>[],fun _ _=>[],fun _=>0,0)
def decT:List AVal->(Nat->Nat->By)×(Nat->Nat->By)×(Nat->Nat)×Nat
 |[_,_,_,_,.fmw f _ _]=>decB (f 0)
 |_=>(fun _ _=>[],fun _ _=>[],fun _=>0,0)
def decD:List AVal->(Nat->Nat->By)×(Nat->Nat->By)×(Nat->Nat)×Nat
 |[_,_,_,_,.fmw f _ _]=>decT (f 0)
 |_=>(fun _ _=>[],fun _ _=>[],fun _=>0,0)
end Tk
end
namespace Tk
open Go Go.Sx Go.Proofs
open Q
variable [Syms]
structure RowX where
 t:Nat->By
 h:Nat->Bool
 a:Nat->By
 c:Nat->Int
 r:Nat->Int
 n:Nat
def cellX (x:RowX) (j:Nat):List AVal:=[.str (x.t j),.lit (.bool (x.h j)),.str (x.a j),.lit (.int .i64 (x.c j)),.lit (.int .i64 (x.r j))]
def strO:AVal->By
 | .str l=>l
 |_=>[]
def boolO:AVal->Bool
 | .lit (.bool b)=>b
 |_=>false
def intO:AVal->Int
 | .lit (.int _ n)=>n
 |_=>0
def nthO (l:List AVal) (i:Nat):AVal:=l.getD i .top
def decX (g:Nat->List AVal) (n:Nat):RowX:=⟨fun j=>strO (nthO (g j) 0),fun j=>boolO (nthO (g j) 1),fun j=>strO (nthO (g j) 2),fun j=>intO (nthO (g j) 3),fun j=>intO (nthO (g j) 4),n⟩
def rowX (T:TD) (i:Nat):RowX:=⟨T.tx i,T.hh i,T.al i,T.cc i,T.rr i,T.C i⟩
def rowsA (T:TD):AVal:=.fam (fun i=>.fmw (cellX (rowX T i)) 5 (T.C i)) T.R
theorem cellX_sub {x:RowX} {j p:Nat}:SubL p (cellX x j) (cellX x j):=nlL_sub rfl
def zzM:Nat:=2147483647
def Q.fitX (x:RowX) (k:Nat):Prop:=∀j,j<k->(x.t j).length<=zzM
def Q.fitK (T:TD) (k:Nat):Prop:=∀i,i<k->fitX (rowX T i) (T.C i)
def Q.fitT (T:TD):Prop:=T.R<=zzM/\fitK T T.R
def Q.wdsK (l:By) (k:Nat):Prop:=∀i,i<k->wordB (l.getD i 0)=true\/(l.getD i 0=32/\0<i/\i+1<l.length/\l.getD (i-1) 0≠32)
def Q.ntJ (T:TD) (i k:Nat):Prop:=∀j,j<k->Words (T.tx i j)/\T.cc i j<=1/\T.rr i j<=1/\T.hh i j=(Nat.beq i 0&&T.hh i 0)/\T.al i j=[]
def Q.ntI (T:TD) (k:Nat):Prop:=∀i,i<k->0<T.C i/\T.C i<=12/\ntJ T i (T.C i)
def Q.ntT (T:TD):Prop:=0<T.R/\T.R<=13/\ntI T T.R
theorem fitX_0 {x:RowX}:fitX x 0:=fun j hj=>by omega
theorem fitX_s {x:RowX} {k:Nat} (h:fitX x k) (hk:(x.t k).length<=zzM):fitX x (k+1):=fun j hj=>by
 by_cases e:j=k
 ·subst e;exact hk
 ·exact h j (by omega)
theorem fitK_0 {T:TD}:fitK T 0:=fun j hj=>by omega
theorem fitK_s {T:TD} {k:Nat} (h:fitK T k) (hk:fitX (rowX T k) (T.C k)):fitK T (k+1):=fun j hj=>by
 by_cases e:j=k
 ·subst e;exact hk
 ·exact h j (by omega)
theorem wdsK_0 {l:By}:wdsK l 0:=fun j hj=>by omega
theorem wdsK_s {l:By} {k:Nat} (h:wdsK l k) (hk:wordB (l.getD k 0)=true\/(l.getD k 0=32/\0<k/\k+1<l.length/\l.getD (k-1) 0≠32)):wdsK l (k+1):=fun j hj=>by
 by_cases e:j=k
 ·subst e;exact hk
 ·exact h j (by omega)
theorem wdsK_end {l:By} {k:Nat} (h:wdsK l k) (hk:l.length<=k):Words l:=fun i hi=>h i (by omega)
theorem wdsK_w {l:By} {k:Nat} (h:wdsK l k) (h1:(97<=(l.getD k 0).toNat/\(l.getD k 0).toNat<=122)\/(65<=(l.getD k 0).toNat/\(l.getD k 0).toNat<=90)\/(48<=(l.getD k 0).toNat/\(l.getD k 0).toNat<=57)):wdsK l (k+1):=by
 refine wdsK_s h (.inl ?_)
 simp only[wordB,Bool.or_eq_true,Bool.and_eq_true]
 rcases h1 with h1|h1|h1
 ·exact .inl ⟨Nat.ble_eq_true_of_le h1.1,Nat.ble_eq_true_of_le h1.2⟩
 ·exact .inr (.inl ⟨Nat.ble_eq_true_of_le h1.1,Nat.ble_eq_true_of_le h1.2⟩)
 ·exact .inr (.inr ⟨Nat.ble_eq_true_of_le h1.1,Nat.ble_eq_true_of_le h1.2⟩)
theorem wdsK_b {l:By} {k:Nat} (h:wdsK l k) (h1:(l.getD k 0).toNat=32) (h2:0<k) (h3:k+1<l.length) (h4:(l.getD (k-1) 0).toNat≠32):wdsK l (k+1):=
 wdsK_s h (.inr ⟨UInt8.toNat_inj.1 h1,h2,h3,fun e=>h4 (by rw[e];rfl)⟩)
theorem ntJ_0 {T:TD} {i:Nat}:ntJ T i 0:=fun j hj=>by omega
theorem ntJ_s {T:TD} {i k:Nat} (h:ntJ T i k) (hk:Words (T.tx i k)/\T.cc i k<=1/\T.rr i k<=1/\T.hh i k=(Nat.beq i 0&&T.hh i 0)/\T.al i k=[]):ntJ T i (k+1):=fun j hj=>by
 by_cases e:j=k
 ·subst e;exact hk
 ·exact h j (by omega)
theorem ntI_0 {T:TD}:ntI T 0:=fun j hj=>by omega
theorem ntI_s {T:TD} {k:Nat} (h:ntI T k) (h0:0<T.C k) (h1:T.C k<=12) (hk:ntJ T k (T.C k)):ntI T (k+1):=fun j hj=>by
 by_cases e:j=k
 ·subst e;exact⟨h0,h1,hk⟩
 ·exact h j (by omega)
def tablA (h:Nat->Nat->By) (t:Nat->Nat->By) (C:Nat->Nat) (n:Nat):List AVal:=elA s_table (.fmw (fun _=>bodyA h t C n) 5 1)
def docA (h:Nat->Nat->By) (t:Nat->Nat->By) (C:Nat->Nat) (n:Nat):List AVal:=[.lit (.int .i64 (3:Nat)),.str [],.str [],ns,.fmw (fun _=>tablA h t C n) 5 1]
def hT (T:TD) (i j:Nat):By:=cond (T.hh i j) thL tdL
theorem hT_thd {T:TD} {i j:Nat}:thd (hT T i j):=by unfold hT;cases T.hh i j;exact .inr rfl;exact .inl rfl
def optA (T:TD) (s:Bool):List AVal:=[.lit (.int .i64 T.oP),.lit (.bool T.oK),.lit (.bool T.oM),.lit (.bool T.promote),.lit (.bool s),.lit (.bool T.pres)]
def Q.padF (p:Int):By:=cond (decide (p>0)) (cond (p==2) padM (cond (p==3) padN padA)) padA
def Q.keepF (b:Bool):By:=cond b [112,114,101,115,101,114,118,101] []
def Q.spanF (b:Bool):By:=cond b [109,105,114,114,111,114] []
theorem bodyA_sub {h:Nat->Nat->By} {t:Nat->Nat->By} {C:Nat->Nat} {n p:Nat}:SubL p (bodyA h t C n) (bodyA h t C n):=.cons (nlS_sub rfl) (.cons (nlS_sub rfl) (.cons (nlS_sub rfl) (.cons (nlS_sub rfl) (.cons (SubA.fmw fun k _=>rowA_sub) .nil))))
theorem bodyA_subA {h:Nat->Nat->By} {t:Nat->Nat->By} {C:Nat->Nat} {n p:Nat}:SubL p [.agg (bodyA h t C n)] [.agg (bodyA h t C n)]:=.cons (SubA.agg bodyA_sub) .nil
theorem tablA_sub {h:Nat->Nat->By} {t:Nat->Nat->By} {C:Nat->Nat} {n p:Nat}:SubL p (tablA h t C n) (tablA h t C n):=.cons (nlS_sub rfl) (.cons (nlS_sub rfl) (.cons (nlS_sub rfl) (.cons (nlS_sub rfl) (.cons (SubA.fmw fun k _=>bodyA_sub) .nil))))
theorem tablA_subA {h:Nat->Nat->By} {t:Nat->Nat->By} {C:Nat->Nat} {n p:Nat}:SubL p [.agg (tablA h t C n)] [.agg (tablA h t C n)]:=.cons (SubA.agg tablA_sub) .nil
theorem docA_sub {h:Nat->Nat->By} {t:Nat->Nat->By} {C:Nat->Nat} {n p:Nat}:SubL p (docA h t C n) (docA h t C n):=.cons (nlS_sub rfl) (.cons (nlS_sub rfl) (.cons (nlS_sub rfl) (.cons (nlS_sub rfl) (.cons (SubA.fmw fun k _=>tablA_sub) .nil))))
theorem docA_subA {h:Nat->Nat->By} {t:Nat->Nat->By} {C:Nat->Nat} {n p:Nat}:SubL p [.agg (docA h t C n)] [.agg (docA h t C n)]:=.cons (SubA.agg docA_sub) .nil
theorem eqL_nil {l:By} (h:(!eqL l [])=false):l=[]:=by
 rw[eqL_eq] at h
 simpa using h
theorem ntT_dom {T:TD} (h:ntT T):(0<T.R/\T.R<=1000)/\∀i,i<T.R->(0<T.C i/\T.C i<=1000)/\∀j,j<T.C i->thd (hT T i j):=
 ⟨⟨h.1,by have:=h.2.1;omega⟩,fun i hi=>⟨⟨(h.2.2 i hi).1,by have:=(h.2.2 i hi).2.1;omega⟩,fun j _=>hT_thd⟩⟩
theorem ntT_hd {T:TD} (h:ntT T) (hd:T.hd=T.hh 0 0):∀i,i<T.R->∀j,j<T.C i->hT T i j=cond (Nat.beq i 0&&T.hd) thL tdL:=fun i hi j hj=>by
 have e:=((h.2.2 i hi).2.2 j hj).2.2.2.1
 unfold hT
 rw[e]
 cases i with
 |zero=>rw[hd]
 |succ i=>rfl
end Tk
