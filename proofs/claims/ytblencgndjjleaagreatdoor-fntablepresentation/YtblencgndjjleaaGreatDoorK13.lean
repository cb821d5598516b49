/- Lemmas of this claim; the last text says what is proved. -/
import Derived.Test.YtblencgndjjleaaGreatDoorK12
set_option linter.all false
section
open Go Go.Sx Go.Proofs
namespace Tk
open Q
variable [Syms]
def Q.noSt:SId->Option ABlk:=fun _=>none
def elA(name kids:AVal):List AVal:=[.lit (.int .i64 (0:Nat)),name,.str [],ns,kids]
def txA(t:By):List AVal:=[.lit (.int .i64 (1:Nat)),.str [],.str t,ns,ns]
def Q.kidN(t:By):Nat:=cond (b_X t) 0 1
def b_T(h t:By):List AVal:=elA (.str h) (.fmw (fun _=>txA t) 5 (kidN t))
def a_V:List AVal->By
 |[_,_,.str t,_,_]=>t
 |_=>[]
end Tk
namespace Tk
open Q
variable [Syms]
def c_f(o:Option Nat):Value:=.pointer (o.map fun b=>⟨b,0,none⟩)
def nodeW(m:Nat->Option Obj)(a:Nat)(par fst lst prv nxt:Option Nat)(ty:Nat)(data:By)(q:Value):Prop:=
 ∃rest:List Value,m a=some (.cells ([c_f par,c_f fst,c_f lst,c_f prv,c_f nxt,.int .u32 (ty:Nat),.int .u32 (0:Nat),.string ⟨data.toArray⟩,.string ⟨([]:By).toArray⟩,q]++rest).toArray 173 (0,0))
def nodeM(m:Nat->Option Obj)(a:Nat)(par fst lst prv nxt:Option Nat)(ty:Nat)(data:By):Prop:=nodeW m a par fst lst prv nxt ty data (.slice none 0 0)
def thL:By:=[116,104]
def tdL:By:=[116,100]
def cellM(h t:By)(R:Nat)(prv nxt:Option Nat)(a:Nat)(m:Nat->Option Obj):Prop:=
 ∃b,nodeM m a (some R) (cond (b_X t) none (some b)) (cond (b_X t) none (some b)) prv nxt 3 h/\(b_X t=false->nodeM m b (some a) none none none none 1 t)
def b_B(A:Nat->Nat):Nat->Option Nat
 |0=>none
 |j+1=>some (A j)
def d_C(A:Nat->Nat)(n j:Nat):Option Nat:=cond (Nat.blt (j+1) n) (some (A (j+1))) none
theorem nodeW.mono{m m':Nat->Option Obj}{a:Nat}{p1 p2 p3 p4 p5:Option Nat}{ty:Nat}{d:By}{q:Value}(hm:∀r o,m r=some o->m' r=some o)(h:nodeW m a p1 p2 p3 p4 p5 ty d q):nodeW m' a p1 p2 p3 p4 p5 ty d q:=by
 obtain⟨rest,h⟩:=h
 exact⟨rest,hm _ _ h⟩
theorem nodeM.mono{m m':Nat->Option Obj}{a:Nat}{p1 p2 p3 p4 p5:Option Nat}{ty:Nat}{d:By}(hm:∀r o,m r=some o->m' r=some o)(h:nodeM m a p1 p2 p3 p4 p5 ty d):nodeM m' a p1 p2 p3 p4 p5 ty d:=by
 obtain⟨rest,h⟩:=h
 exact⟨rest,hm _ _ h⟩
theorem cellM.mono{m m':Nat->Option Obj}{h t:By}{R a:Nat}{p n:Option Nat}(hm:∀r o,m r=some o->m' r=some o)(hc:cellM h t R p n a m):cellM h t R p n a m':=by
 obtain⟨b,h1,h2⟩:=hc
 exact⟨b,h1.mono hm,fun g=>(h2 g).mono hm⟩
def Q.qTp(h:Nat->By)(t:Nat->By)(k:Nat)(ι:Inj)(v:Value):Prop:=v=.slice none 0 0/\∃(A:Nat->Nat) (R:Nat),ι.f 0=some R/\ι.f 1=some (A (k-1))/\ι.f 2=some (A 0)/\(2<=k->ι.f 4=some (A (k-2)))/\(∀j,j+1<k->cellM (h j) (t j) R (b_B A j) (some (A (j+1))) (A j) ι.m)/\(b_X (t (k-1))=false->∃b,ι.f 3=some b/\nodeM ι.m b (some (A (k-1))) none none none none 1 (t (k-1)))
theorem r_0(h:Nat->By)(t:Nat->By)(k:Nat):∀ι ι' v,ι.le ι'->qTp h t k ι v->qTp h t k ι' v:=fun ι ι' v hl ⟨hv,A,R,h0,h1,h2,h4,hc,h3⟩=>⟨hv,A,R,hl.f _ _ h0,hl.f _ _ h1,hl.f _ _ h2,fun g=>hl.f _ _ (h4 g),fun j hj=>(hc j hj).mono hl.m,fun g=>by
 obtain⟨b,hb,hn⟩:=h3 g
 exact⟨b,hl.f _ _ hb,hn.mono hl.m⟩⟩
theorem t_2(h:Nat->By)(t:Nat->By)(k:Nat):∀ι v,qTp h t k ι v->v.oneCell'=true:=fun ι v ⟨hv,_⟩=>by rw[hv];rfl
def qT(h:Nat->By)(t:Nat->By)(k:Nat):MP:=⟨qTp h t k,r_0 h t k,t_2 h t k,[0,1]⟩
def Q.qRp(h:Nat->By)(t:Nat->By)(n:Nat)(ι:Inj)(v:Value):Prop:=v=.slice none 0 0/\∃(A:Nat->Nat) (R:Nat),ι.f 0=some R/\ι.f 1=some (A (n-1))/\ι.f 2=some (A 0)/\∀j,j<n->cellM (h j) (t j) R (b_B A j) (d_C A n j) (A j) ι.m
theorem r_2(h:Nat->By)(t:Nat->By)(n:Nat):∀ι ι' v,ι.le ι'->qRp h t n ι v->qRp h t n ι' v:=fun ι ι' v hl ⟨hv,A,R,h0,h1,h2,hc⟩=>⟨hv,A,R,hl.f _ _ h0,hl.f _ _ h1,hl.f _ _ h2,fun j hj=>(hc j hj).mono hl.m⟩
theorem t_3(h:Nat->By)(t:Nat->By)(n:Nat):∀ι v,qRp h t n ι v->v.oneCell'=true:=fun ι v ⟨hv,_⟩=>by rw[hv];rfl
def qR(h:Nat->By)(t:Nat->By)(n:Nat):MP:=⟨qRp h t n,r_2 h t n,t_3 h t n,[0]⟩
def rowA(h:Nat->By)(t:Nat->By)(n:Nat):List AVal:=elA i_9 (.fmw (fun j=>b_T (h j) (t j)) 5 n)
def t_s:List AVal->By×By
 |[_,.str h,_,_,.fmw g _ _]=>(h,a_V (g 0))
 |_=>([],[])
theorem a_8{ι:Inj}{v:Value}(h:Den ι np v):v=c_f none:=by cases h;rfl
theorem d_U{ι:Inj}{v:Value}(h:Den ι ns v):v=.slice none 0 0:=by cases h;rfl
theorem a_P{ι:Inj}{v:Value}{i b:Nat}(hb:ι.f i=some b)(h:Den ι (.ptr i 0) v):v=c_f (some b):=by
 cases h with
 |ptr hr=>rw[hb] at hr;cases hr;rfl
theorem b_Z{ι:Inj}{v:Value}{l:By}(h:Den ι (.str l) v):v=.string ⟨l.toArray⟩:=by cases h;rfl
theorem p_i{ι:Inj}{m:Nat->Option Obj}{a:Nat}{o:Obj}{par fst lst prv nxt d q:AVal}{ty:Nat}{p1 p2 p3 p4 p5:Option Nat}{dd:By}
 (hb:BDen ι (b_w par fst lst prv nxt ty d q) o) (hm:m a=some o)
 (h1:∀v,Den ι par v->v=c_f p1) (h2:∀v,Den ι fst v->v=c_f p2) (h3:∀v,Den ι lst v->v=c_f p3) (h4:∀v,Den ι prv v->v=c_f p4) (h5:∀v,Den ι nxt v->v=c_f p5)
 (hd:∀v,Den ι d v->v=.string ⟨dd.toArray⟩) {qv:Value} (hq:∀v,Den ι q v->v=qv):nodeW m a p1 p2 p3 p4 p5 ty dd qv:=by
 obtain⟨vs,rest,rfl,hv,_⟩:=hb
 cases hv with
 |cons a1 hv=>
 cases hv with
 |cons a2 hv=>
 cases hv with
 |cons a3 hv=>
 cases hv with
 |cons a4 hv=>
 cases hv with
 |cons a5 hv=>
 cases hv with
 |cons a6 hv=>
 cases hv with
 |cons a7 hv=>
 cases hv with
 |cons a8 hv=>
 cases hv with
 |cons a9 hv=>
 cases hv with
 |cons a10 hv=>
 cases hv
 have e1:=h1 _ a1
 have e2:=h2 _ a2
 have e3:=h3 _ a3
 have e4:=h4 _ a4
 have e5:=h5 _ a5
 have e8:=hd _ a8
 have e9:=b_Z a9
 have e10:=hq _ a10
 cases a6;cases a7
 subst e1;subst e2;subst e3;subst e4;subst e5;subst e8;subst e9;subst e10
 exact⟨rest,hm⟩
theorem b_6{ι:Inj}{m:Nat->Option Obj}{a:Nat}{o:Obj}{par fst lst prv nxt d q:AVal}{ty:Nat}{p1 p2 p3 p4 p5:Option Nat}{dd:By}
 (hb:BDen ι (b_w par fst lst prv nxt ty d q) o) (hm:m a=some o)
 (h1:∀v,Den ι par v->v=c_f p1) (h2:∀v,Den ι fst v->v=c_f p2) (h3:∀v,Den ι lst v->v=c_f p3) (h4:∀v,Den ι prv v->v=c_f p4) (h5:∀v,Den ι nxt v->v=c_f p5)
 (hd:∀v,Den ι d v->v=.string ⟨dd.toArray⟩) (hq:∀v,Den ι q v->v=.slice none 0 0):nodeM m a p1 p2 p3 p4 p5 ty dd:=p_i hb hm h1 h2 h3 h4 h5 hd hq
theorem d_j{ι:Inj}{o:Obj}{par fst lst prv nxt d:AVal}{q:MP}{ty:Nat}(hb:BDen ι (b_w par fst lst prv nxt ty d (.mp q)) o):∃v,q.p ι v:=by
 obtain⟨vs,rest,rfl,hv,_⟩:=hb
 obtain⟨y,_,hy⟩:=hv.get 9 rfl
 cases hy with
 |mp h=>exact⟨y,h⟩
theorem q_b{l:By}(h:b_X l=true):l=[]:=by cases l with
 |nil=>rfl
 |cons a b=>cases h
theorem a_2{h t:By}{p:Nat}:SubL p (b_T h t) (b_T h t):=.cons (a_g rfl) (.cons (a_g rfl) (.cons (a_g rfl) (.cons (a_g rfl) (.cons (SubA.fmw fun k _=>a_r rfl) .nil))))
theorem t_4{t:By}(h:b_X t=false):kidN t=1:=by unfold kidN;rw[h];rfl
theorem t_5{t:By}(h:b_X t=true):kidN t=0:=by unfold kidN;rw[h];rfl
theorem m_C{h t:By}(hn:b_X t=false):SubL 0 [.agg (b_T h t)] [.agg (elA (.str h) (.fmw (fun _=>txA t) 5 1))]:=.cons (SubA.agg (.cons (a_g rfl) (.cons (a_g rfl) (.cons (a_g rfl) (.cons (a_g rfl) (.cons (by rw[t_4 hn];exact SubA.fmw fun k _=>a_r rfl) .nil)))))) .nil
theorem m_D{h t:By}(hn:b_X t=true):SubL 0 [.agg (b_T h t)] [.agg (elA (.str h) .e0)]:=.cons (SubA.agg (.cons (a_g rfl) (.cons (a_g rfl) (.cons (a_g rfl) (.cons (a_g rfl) (.cons (by
 rw[t_5 hn]
 intro ι ι' v _ hd
 cases hd<;>exact .e0) .nil)))))) .nil
def thd(l:By):Prop:=l=thL\/l=tdL
theorem b_k{h:Nat->By}{t:Nat->By}{n p:Nat}:SubL p (rowA h t n) (rowA h t n):=.cons (a_g rfl) (.cons (a_g rfl) (.cons (a_g rfl) (.cons (a_g rfl) (.cons (SubA.fmw fun k _=>a_2) .nil))))
theorem i_s{h:Nat->By}{t:Nat->By}{n p:Nat}:SubL p [.agg (rowA h t n)] [.agg (rowA h t n)]:=.cons (SubA.agg b_k) .nil
theorem j_Q{H:AHeap}{h:Nat->By}{t:Nat->By}{σ:Sg}{b bt:Nat}{x:ABlk}{p1 p2:AVal}(s0:a_5 σ 0=some (.id 0))(s1:a_5 σ 1=some (.id b))(s2:a_5 σ 2=some (.id b))
 (h0:H.get 0=some (b_w np p1 p2 np np 3 i_9 ns)) (hb:H.get b=some x)
 (ht:b_X (t 0)=false->H.get bt=some (c_d (.ptr b 0) np np np np 1 (.str (t 0)))/\a_5 σ 3=some (.id bt)/\bt∈fzs σ):MPok H ns (qT h t 1) σ:=by
 refine⟨fun w0 F0 w ι v hi hd=>⟨d_U hd,?_⟩⟩
 obtain⟨R,o0,hR,_⟩:=hi.blk _ _ h0
 obtain⟨a,o,ha,ho,_⟩:=hi.blk _ _ hb
 refine⟨fun _=>a,R,by rw[a_w s0];exact hR,by rw[a_w s1];exact ha,by rw[a_w s2];exact ha,fun g=>ac,fun j hj=>ac,fun hn=>?_⟩
 obtain⟨g1,g2,g3⟩:=ht hn
 obtain⟨c,o',hc,hco,hbd,_⟩:=hi.blk _ _ g1
 exact⟨c,by rw[a_w g2];exact hc,b_6 (q:=ns) hbd (b_f g3 hc hco) (fun v=>a_P ha) (fun v=>a_8) (fun v=>a_8) (fun v=>a_8) (fun v=>a_8) (fun v=>b_Z) (fun v=>d_U)⟩
def r_3(h:Nat->By)(t:Nat->By)(k:Nat)(nxt:AVal):ABlk:=b_w (.ptr 0 0) (.ite (!b_X (t (k-1))) (.ptr 3 0) np) (.ite (!b_X (t (k-1))) (.ptr 3 0) np) (.ite (Nat.beq k 1) np (.ptr 4 0)) nxt 3 (.str (h (k-1))) (.mp (qT h t k))
theorem m_E{ι:Inj}{v:Value}{l:By}{i:Nat}{c:Option Nat}(hc:b_X l=false->∃b,ι.f i=some b/\c=some b)(hn:b_X l=true->c=none)(h:Den ι (.ite (!b_X l) (.ptr i 0) np) v):v=c_f c:=by
 cases h with
 |ite ht hf=>
  cases e:b_X l with
  |true=>rw[hn e];exact a_8 (hf bu)
  |false=>
   obtain⟨b,hb,rfl⟩:=hc e
   exact a_P hb (ht bu)
theorem j_R{ι:Inj}{v:Value}{A:Nat->Nat}{k:Nat}(hk:0<k)(h4:2<=k->ι.f 4=some (A (k-2)))(h:Den ι (.ite (Nat.beq k 1) np (.ptr 4 0)) v):v=c_f (b_B A (k-1)):=by
 cases h with
 |ite ht hf=>
  by_cases e:k=1
  ·subst e;exact a_8 (ht rfl)
  ·have:=a_P (h4 ac) (hf (a_X.2 e))
   rw[this]
   obtain⟨k',rfl⟩:∃k',k=k'+2:=⟨k-2,ac⟩
   rfl
theorem i_t{w0 w:World}{F0:Fp}{ι:Inj}{H:AHeap}{σ:Sg}{h:Nat->By}{t:Nat->By}{k R:Nat}{nxt:AVal}{nx:Option Nat}{A:Nat->Nat}(hk:0<k)(hi:Inv w0 F0 ι H w)(h1:H.get 1=some (r_3 h t k nxt))(f1:1∈fzs σ)
 (e0:ι.f 0=some R) (e1:ι.f 1=some (A (k-1))) (h4:2<=k->ι.f 4=some (A (k-2))) (h3:b_X (t (k-1))=false->∃b,ι.f 3=some b/\nodeM ι.m b (some (A (k-1))) none none none none 1 (t (k-1)))
 (hx:∀v,Den ι nxt v->v=c_f nx):cellM (h (k-1)) (t (k-1)) R (b_B A (k-1)) nx (A (k-1)) (b_r w ι σ).m:=by
 obtain⟨a,o,ha,ho,hbd,_⟩:=hi.blk _ _ h1
 rw[e1] at ha;cases ha
 have key:∀b,(b_X (t (k-1))=false->ι.f 3=some b)->nodeM (b_r w ι σ).m (A (k-1)) (some R) (cond (b_X (t (k-1))) none (some b)) (cond (b_X (t (k-1))) none (some b)) (b_B A (k-1)) nx 3 (h (k-1)):=fun b hb=>
  b_6 hbd (b_f f1 e1 ho) (fun v=>a_P e0) (fun v=>m_E (fun e=>⟨b,hb e,bu⟩) (fun e=>bu)) (fun v=>m_E (fun e=>⟨b,hb e,bu⟩) (fun e=>bu)) (fun v=>j_R hk h4) hx (fun v=>b_Z) (fun v hv=>by
   cases hv with
   |mp hq=>exact hq.1)
 cases e:b_X (t (k-1)) with
 |true=>exact⟨0,key 0 (fun h=>by rw[e] at h;cases h),fun h=>by rw[e] at h;cases h⟩
 |false=>
  obtain⟨b,hb,hn⟩:=h3 e
  exact⟨b,key b (fun _=>hb),fun _=>hn.mono fun r o=>a_6 hi⟩
theorem m_F{H:AHeap}{h:Nat->By}{t:Nat->By}{k:Nat}(hk:0<k){σ:Sg}{b bt:Nat}{x:ABlk}(s0:a_5 σ 0=some (.id 0))(s1:a_5 σ 1=some (.id b))(s2:a_5 σ 2=some (.id 2))(s4:a_5 σ 4=some (.id 1))(f1:1∈fzs σ)
 (h1:H.get 1=some (r_3 h t k (.ptr b 0))) (hb:H.get b=some x)
 (ht:b_X (t k)=false->H.get bt=some (c_d (.ptr b 0) np np np np 1 (.str (t k)))/\a_5 σ 3=some (.id bt)/\bt∈fzs σ):MPok H ns (qT h t (k+1)) σ:=by
 refine⟨fun w0 F0 w ι v hi hd=>⟨d_U hd,?_⟩⟩
 obtain⟨r1,o1,hr1,ho1,hbd1,_⟩:=hi.blk _ _ h1
 obtain⟨v',_,A,R,e0,e1,e2,e4,hc,h3⟩:=d_j hbd1
 obtain⟨a,o,ha,ho,_⟩:=hi.blk _ _ hb
 have lc:=i_t (nx:=some a) hk hi h1 f1 e0 e1 e4 h3 (fun v=>a_P ha)
 let A':Nat->Nat:=fun j=>if j=k then a else A j
 have ak:A' k=a:=by simp[A']
 have aj:∀j,j<k->A' j=A j:=fun j hj=>by simp[A',Nat.ne_of_lt hj]
 have ap:∀j,j<k->b_B A' j=b_B A j:=fun j hj=>by
  cases j with
  |zero=>rfl
  |succ j=>simp only[b_B];rw[aj j ac]
 refine⟨A',R,aN,?_,?_,fun g=>?_,fun j hj=>?_,fun hn=>?_⟩
 ·rw[a_w s1,Nat.add_sub_cancel,ak];exact ha
 ·rw[a_w s2,aj 0 hk];exact e2
 ·rw[a_w s4,show k+1-2=k-1 by omega,aj (k-1) ac];exact e1
 ·rw[aj j ac,ap j ac]
  by_cases e:j+1<k
  ·rw[aj (j+1) e];exact(hc j e).mono fun r o=>a_6 hi
  ·have:j=k-1:=ac
   subst this
   rw[show k-1+1=k by omega,ak]
   exact lc
 ·rw[Nat.add_sub_cancel] at hn⊢
  obtain⟨g1,g2,g3⟩:=ht hn
  obtain⟨c,o',hc',hco,hbd,_⟩:=hi.blk _ _ g1
  rw[ak]
  exact⟨c,by rw[a_w g2];exact hc',b_6 (q:=ns) hbd (b_f g3 hc' hco) (fun v=>a_P ha) (fun v=>a_8) (fun v=>a_8) (fun v=>a_8) (fun v=>a_8) (fun v=>b_Z) (fun v=>d_U)⟩
theorem r_4{H:AHeap}{h:Nat->By}{t:Nat->By}{n:Nat}(hn:0<n){σ:Sg}(s0:a_5 σ 0=some (.id 0))(s1:a_5 σ 1=some (.id 1))(s2:a_5 σ 2=some (.id 2))(f1:1∈fzs σ)
 (h1:H.get 1=some (r_3 h t n np)):MPok H ns (qR h t n) σ:=by
 refine⟨fun w0 F0 w ι v hi hd=>⟨d_U hd,?_⟩⟩
 obtain⟨r1,o1,hr1,ho1,hbd1,_⟩:=hi.blk _ _ h1
 obtain⟨v',_,A,R,e0,e1,e2,e4,hc,h3⟩:=d_j hbd1
 have lc:=i_t (nx:=none) hn hi h1 f1 e0 e1 e4 h3 (fun v=>a_8)
 refine⟨A,R,aN,bd,bg,fun j hj=>?_⟩
 unfold d_C
 by_cases e:j+1<n
 ·rw[a_z.2 e];exact(hc j e).mono fun r o=>a_6 hi
 ·have:j=n-1:=ac
  subst this
  rw[a_C.2 ac]
  exact lc
theorem r_5{H:AHeap}{h:Nat->By}{t:Nat->By}{n:Nat}{σ:Sg}(s0:a_5 σ 0=some (.id 0))(s1:a_5 σ 1=some (.id 1))(s2:a_5 σ 2=some (.id 2)):MPok H (.mp (qR h t n)) (qR h t n) σ:=by
 refine⟨fun w0 F0 w ι v hi hd=>?_⟩
 cases hd with
 |mp hq=>
 obtain⟨hv,A,R,e0,e1,e2,hc⟩:=hq
 exact⟨hv,A,R,aN,bd,bg,fun j hj=>(hc j hj).mono fun r o=>a_6 hi⟩
def trL:By:=[116,114]
def rowM(h:Nat->By)(t:Nat->By)(n R:Nat)(prv nxt:Option Nat)(a:Nat)(m:Nat->Option Obj):Prop:=
 ∃B:Nat->Nat,nodeM m a (some R) (some (B 0)) (some (B (n-1))) prv nxt 3 trL/\∀j,j<n->cellM (h j) (t j) a (b_B B j) (d_C B n j) (B j) m
theorem rowM.mono{m m':Nat->Option Obj}{h:Nat->By}{t:Nat->By}{n R a:Nat}{p x:Option Nat}(hm:∀r o,m r=some o->m' r=some o)(hr:rowM h t n R p x a m):rowM h t n R p x a m':=by
 obtain⟨B,h1,h2⟩:=hr
 exact⟨B,h1.mono hm,fun j hj=>(h2 j hj).mono hm⟩
def Q.qUp(h:Nat->Nat->By)(t:Nat->Nat->By)(C:Nat->Nat)(k:Nat)(ι:Inj)(v:Value):Prop:=v=.slice none 0 0/\∃(A B:Nat->Nat) (R:Nat),ι.f 0=some R/\ι.f 1=some (A (k-1))/\ι.f 2=some (A 0)/\(2<=k->ι.f 4=some (A (k-2)))/\ι.f 5=some (B 0)/\ι.f 6=some (B (C (k-1)-1))/\
 (∀i,i+1<k->rowM (h i) (t i) (C i) R (b_B A i) (some (A (i+1))) (A i) ι.m)/\∀j,j<C (k-1)->cellM (h (k-1) j) (t (k-1) j) (A (k-1)) (b_B B j) (d_C B (C (k-1)) j) (B j) ι.m
theorem r_6(h:Nat->Nat->By)(t:Nat->Nat->By)(C:Nat->Nat)(k:Nat):∀ι ι' v,ι.le ι'->qUp h t C k ι v->qUp h t C k ι' v:=fun ι ι' v hl ⟨hv,A,B,R,h0,h1,h2,h4,h5,h6,hr,hc⟩=>⟨hv,A,B,R,hl.f _ _ h0,hl.f _ _ h1,hl.f _ _ h2,fun g=>hl.f _ _ (h4 g),hl.f _ _ h5,hl.f _ _ h6,fun i hi=>(hr i hi).mono hl.m,fun j hj=>(hc j hj).mono hl.m⟩
theorem t_6(h:Nat->Nat->By)(t:Nat->Nat->By)(C:Nat->Nat)(k:Nat):∀ι v,qUp h t C k ι v->v.oneCell'=true:=fun ι v ⟨hv,_⟩=>by rw[hv];rfl
def qU(h:Nat->Nat->By)(t:Nat->Nat->By)(C:Nat->Nat)(k:Nat):MP:=⟨qUp h t C k,r_6 h t C k,t_6 h t C k,[0,1]⟩
def Q.qVp(h:Nat->Nat->By)(t:Nat->Nat->By)(C:Nat->Nat)(n b l f:Nat)(ι:Inj)(v:Value):Prop:=v=.slice none 0 0/\∃(A:Nat->Nat) (R:Nat),ι.f b=some R/\ι.f l=some (A (n-1))/\ι.f f=some (A 0)/\∀i,i<n->rowM (h i) (t i) (C i) R (b_B A i) (d_C A n i) (A i) ι.m
theorem r_7(h:Nat->Nat->By)(t:Nat->Nat->By)(C:Nat->Nat)(n b l f:Nat):∀ι ι' v,ι.le ι'->qVp h t C n b l f ι v->qVp h t C n b l f ι' v:=fun ι ι' v hl ⟨hv,A,R,h0,h1,h2,hc⟩=>⟨hv,A,R,hl.f _ _ h0,hl.f _ _ h1,hl.f _ _ h2,fun j hj=>(hc j hj).mono hl.m⟩
theorem t_7(h:Nat->Nat->By)(t:Nat->Nat->By)(C:Nat->Nat)(n b l f:Nat):∀ι v,qVp h t C n b l f ι v->v.oneCell'=true:=fun ι v ⟨hv,_⟩=>by rw[hv];rfl
def qV(h:Nat->Nat->By)(t:Nat->Nat->By)(C:Nat->Nat)(n b l f:Nat)(ks:List Nat):MP:=⟨qVp h t C n b l f,r_7 h t C n b l f,t_7 h t C n b l f,ks⟩
theorem r_8{H:AHeap}{h:Nat->Nat->By}{t:Nat->Nat->By}{C:Nat->Nat}{n b l f:Nat}{ks:List Nat}{σ:Sg}(s0:a_5 σ b=some (.id b))(s1:a_5 σ l=some (.id l))(s2:a_5 σ f=some (.id f)):MPok H (.mp (qV h t C n b l f ks)) (qV h t C n b l f ks) σ:=by
 refine⟨fun w0 F0 w ι v hi hd=>?_⟩
 cases hd with
 |mp hq=>
 obtain⟨hv,A,R,e0,e1,e2,hc⟩:=hq
 exact⟨hv,A,R,aN,bd,bg,fun j hj=>(hc j hj).mono fun r o=>a_6 hi⟩
theorem k_D{h h':Nat->By}{t:Nat->By}{n R a:Nat}{p x:Option Nat}{m:Nat->Option Obj}(hh:∀j,j<n->h j=h' j)(hr:rowM h t n R p x a m):rowM h' t n R p x a m:=by
 obtain⟨B,h1,h2⟩:=hr
 exact⟨B,h1,fun j hj=>by rw[←hh j hj];exact h2 j hj⟩
theorem p_j{H:AHeap}{h:Nat->Nat->By}{t:Nat->Nat->By}{C:Nat->Nat}{n b l f b' l' f':Nat}{ks ks':List Nat}{ρ:Nat->Nat}{σ:Sg}(s0:a_5 σ b'=some (.id (ρ b)))(s1:a_5 σ l'=some (.id (ρ l)))(s2:a_5 σ f'=some (.id (ρ f))):MPok H (.mp ((qV h t C n b l f ks).ren ρ)) (qV h t C n b' l' f' ks') σ:=by
 refine⟨fun w0 F0 w ι v hi hd=>?_⟩
 cases hd with
 |mp hq=>
 obtain⟨hv,A,R,e0,e1,e2,hc⟩:=hq
 exact⟨hv,A,R,aN,bd,bg,fun j hj=>(hc j hj).mono fun r o=>a_6 hi⟩
theorem p_k{H:AHeap}{h:Nat->Nat->By}{t:Nat->Nat->By}{C:Nat->Nat}{σ:Sg}{b bf bl:Nat}{p1 p2 d:AVal}{ρ:Nat->Nat}(s0:a_5 σ 0=some (.id 0))(s1:a_5 σ 1=some (.id b))(s2:a_5 σ 2=some (.id b))(s5:a_5 σ 5=some (.id bf))(s6:a_5 σ 6=some (.id bl))
 (h0:H.get 0=some (b_w np p1 p2 np np 3 d ns)) (r0:ρ 0=b) (r1:ρ 1=bl) (r2:ρ 2=bf):MPok H (.mp ((qR (h 0) (t 0) (C 0)).ren ρ)) (qU h t C 1) σ:=by
 refine⟨fun w0 F0 w ι v hi hd=>?_⟩
 obtain⟨R,o0,hR,_⟩:=hi.blk _ _ h0
 cases hd with
 |mp hq=>
 obtain⟨hv,B,a,e0,e1,e2,hc⟩:=hq
 refine⟨hv,fun _=>a,B,R,by rw[a_w s0];exact hR,by rw[a_w s1,←r0];exact e0,by rw[a_w s2,←r0];exact e0,fun g=>ac,by rw[a_w s5,←r2];exact e2,by rw[a_w s6,←r1];exact e1,fun i hi'=>ac,fun j hj=>(hc j hj).mono fun r o=>a_6 hi⟩
def r_9(h:Nat->Nat->By)(t:Nat->Nat->By)(C:Nat->Nat)(k:Nat)(nxt:AVal):ABlk:=b_w (.ptr 0 0) (.ptr 5 0) (.ptr 6 0) (.ite (Nat.beq k 1) np (.ptr 4 0)) nxt 3 i_9 (.mp (qU h t C k))
theorem j_S{w0 w:World}{F0:Fp}{ι:Inj}{H:AHeap}{σ:Sg}{h:Nat->Nat->By}{t:Nat->Nat->By}{C:Nat->Nat}{k R:Nat}{nxt:AVal}{nx:Option Nat}{A B:Nat->Nat}(hk:0<k)(hi:Inv w0 F0 ι H w)(h1:H.get 1=some (r_9 h t C k nxt))(f1:1∈fzs σ)
 (e0:ι.f 0=some R) (e1:ι.f 1=some (A (k-1))) (h4:2<=k->ι.f 4=some (A (k-2))) (h5:ι.f 5=some (B 0)) (h6:ι.f 6=some (B (C (k-1)-1)))
 (hc:∀j,j<C (k-1)->cellM (h (k-1) j) (t (k-1) j) (A (k-1)) (b_B B j) (d_C B (C (k-1)) j) (B j) ι.m)
 (hx:∀v,Den ι nxt v->v=c_f nx):rowM (h (k-1)) (t (k-1)) (C (k-1)) R (b_B A (k-1)) nx (A (k-1)) (b_r w ι σ).m:=by
 obtain⟨a,o,ha,ho,hbd,_⟩:=hi.blk _ _ h1
 rw[e1] at ha;cases ha
 exact⟨B,b_6 hbd (b_f f1 e1 ho) (fun v=>a_P e0) (fun v=>a_P h5) (fun v=>a_P h6) (fun v=>j_R hk h4) hx (fun v=>b_Z) (fun v hv=>by
  cases hv with
  |mp hq=>exact hq.1),fun j hj=>(hc j hj).mono fun r o=>a_6 hi⟩
theorem s_a{H:AHeap}{h:Nat->Nat->By}{t:Nat->Nat->By}{C:Nat->Nat}{k:Nat}(hk:0<k){σ:Sg}{b bf bl:Nat}{ρ:Nat->Nat}(s0:a_5 σ 0=some (.id 0))(s1:a_5 σ 1=some (.id b))(s2:a_5 σ 2=some (.id 2))(s4:a_5 σ 4=some (.id 1))(s5:a_5 σ 5=some (.id bf))(s6:a_5 σ 6=some (.id bl))(f1:1∈fzs σ)
 (h1:H.get 1=some (r_9 h t C k (.ptr b 0))) (r0:ρ 0=b) (r1:ρ 1=bl) (r2:ρ 2=bf):MPok H (.mp ((qR (h k) (t k) (C k)).ren ρ)) (qU h t C (k+1)) σ:=by
 refine⟨fun w0 F0 w ι v hi hd=>?_⟩
 obtain⟨r1',o1,hr1,ho1,hbd1,_⟩:=hi.blk _ _ h1
 obtain⟨v',_,A,B,R,e0,e1,e2,e4,e5,e6,hr,hc⟩:=d_j hbd1
 cases hd with
 |mp hq=>
 obtain⟨hv,B',a,g0,g1,g2,gc⟩:=hq
 have g0:ι.f b=some a:=by rw[←r0];exact g0
 have lc:=j_S (nx:=some a) hk hi h1 f1 e0 e1 e4 e5 e6 hc (fun v=>a_P g0)
 let A':Nat->Nat:=fun j=>if j=k then a else A j
 have ak:A' k=a:=by simp[A']
 have aj:∀j,j<k->A' j=A j:=fun j hj=>by simp[A',Nat.ne_of_lt hj]
 have ap:∀j,j<k->b_B A' j=b_B A j:=fun j hj=>by
  cases j with
  |zero=>rfl
  |succ j=>simp only[b_B];rw[aj j ac]
 refine⟨hv,A',B',R,aN,?_,?_,fun g=>?_,?_,?_,fun j hj=>?_,fun j hj=>?_⟩
 ·rw[a_w s1,Nat.add_sub_cancel,ak];exact g0
 ·rw[a_w s2,aj 0 hk];exact e2
 ·rw[a_w s4,show k+1-2=k-1 by omega,aj (k-1) ac];exact e1
 ·rw[a_w s5,←r2];exact g2
 ·rw[a_w s6,Nat.add_sub_cancel,←r1];exact g1
 ·rw[aj j ac,ap j ac]
  by_cases e:j+1<k
  ·rw[aj (j+1) e];exact(hr j e).mono fun r o=>a_6 hi
  ·have:j=k-1:=ac
   subst this
   rw[show k-1+1=k by omega,ak]
   exact lc
 ·rw[Nat.add_sub_cancel] at hj⊢
  rw[ak]
  exact(gc j hj).mono fun r o=>a_6 hi
theorem s_b{H:AHeap}{h:Nat->Nat->By}{t:Nat->Nat->By}{C:Nat->Nat}{n:Nat}(hn:0<n){σ:Sg}(s0:a_5 σ 0=some (.id 0))(s1:a_5 σ 1=some (.id 1))(s2:a_5 σ 2=some (.id 2))(f1:1∈fzs σ)
 (h1:H.get 1=some (r_9 h t C n np)):MPok H ns (qV h t C n 0 1 2 [0]) σ:=by
 refine⟨fun w0 F0 w ι v hi hd=>⟨d_U hd,?_⟩⟩
 obtain⟨r1,o1,hr1,ho1,hbd1,_⟩:=hi.blk _ _ h1
 obtain⟨v',_,A,B,R,e0,e1,e2,e4,e5,e6,hr,hc⟩:=d_j hbd1
 have lc:=j_S (nx:=none) hn hi h1 f1 e0 e1 e4 e5 e6 hc (fun v=>a_8)
 refine⟨A,R,aN,bd,bg,fun j hj=>?_⟩
 unfold d_C
 by_cases e:j+1<n
 ·rw[a_z.2 e];exact(hr j e).mono fun r o=>a_6 hi
 ·have:j=n-1:=ac
  subst this
  rw[a_C.2 ac]
  exact lc
def i_u(h:Nat->Nat->By)(t:Nat->Nat->By)(C:Nat->Nat)(n:Nat):List AVal:=elA b_A (.fmw (fun i=>rowA (h i) (t i) (C i)) 5 n)
def t_t:List AVal->(Nat->By)×(Nat->By)×Nat
 |[_,_,_,_,.fmw f _ n]=>(fun j=>(t_s (f j)).1,fun j=>(t_s (f j)).2,n)
 |_=>(fun _=>[],fun _=>[],0)
def G_0:List AVal->(Nat->Nat->By)×(Nat->Nat->By)×(Nat->Nat)×Nat
 |[_,_,_,_,.fmw f _ n]=>(fun i=>(t_t (f i)).1,fun i=>(t_t (f i)).2.1,fun i=>(t_t (f i)).2.2,n)
 |_=>(fun _ _=>[],fun _ _=>[],fun _=>0,0)
def y_f:List AVal->(Nat->Nat->By)×(Nat->Nat->By)×(Nat->Nat)×Nat
 |[_,_,_,_,.fmw f _ _]=>G_0 (f 0)
 |_=>(fun _ _=>[],fun _ _=>[],fun _=>0,0)
def G_I:List AVal->(Nat->Nat->By)×(Nat->Nat->By)×(Nat->Nat)×Nat
 |[_,_,_,_,.fmw f _ _]=>y_f (f 0)
 |_=>(fun _ _=>[],fun _ _=>[],fun _=>0,0)
end Tk
end
namespace Tk
open Go Go.Sx Go.Proofs
open Q
variable [Syms]
def Q.spB(c:UInt8):Bool:= !(Nat.beq (Syms.gf 2 c.toNat).toNat 0)
def Q.trim(l:By):By:=((l.dropWhile spB).reverse.dropWhile spB).reverse
theorem b_U{p:UInt8->Bool}:∀{l:By} {a:Nat} (h:∀k,k<a->p (l.getD k 0)=true) (ha:a<l.length) (hn:p (l.getD a 0)=false),l.dropWhile p=l.drop a
 |[],a,_,ha,_=>by simp at ha
 |c::l,0,_,_,hn=>by
  have hn:p c=false:=bR
  simp[List.dropWhile_cons,hn]
 |c::l,a+1,h,ha,hn=>by
  have h0:p c=true:=by simpa using h 0 ac
  rw[List.dropWhile_cons,if_pos h0,List.drop_succ_cons]
  exact b_U (fun k hk=>by simpa using h (k+1) ac) (by simpa using ha) bR
theorem d_V{p:UInt8->Bool}:∀{l:By} (h:∀k,k<l.length->p (l.getD k 0)=true),l.dropWhile p=[]
 |[],_=>rfl
 |c::l,h=>by
  have h0:p c=true:=by simpa using h 0 an
  rw[List.dropWhile_cons,if_pos h0]
  exact d_V (fun k hk=>by simpa using h (k+1) bz)
theorem p_l{l:By}(h:∀k,k<l.length->spB (l.getD k 0)=true):trim l=[]:=by
 unfold trim;rw[d_V h];rfl
theorem p_m{l:By}{k:Nat}(h:k<l.length):l.reverse.getD k 0=l.getD (l.length-1-k) 0:=by
 rw[List.getD_eq_getElem?_getD,List.getD_eq_getElem?_getD,List.getElem?_reverse h]
theorem s_c{l:By}{a b:Nat}(h:∀k,k<a->spB (l.getD k 0)=true)(hn:spB (l.getD a 0)=false)(hb:b<=l.length)(hab:a<b)(h2:∀k,b<=k->k<l.length->spB (l.getD k 0)=true)(hn2:spB (l.getD (b-1) 0)=false):trim l=(l.drop a).take (b-a):=by
 unfold trim
 rw[b_U h ac hn]
 have hlen:(l.drop a).reverse.length=l.length-a:=an
 have hg:∀k,k<l.length-a->(l.drop a).reverse.getD k 0=l.getD (l.length-1-k) 0:=fun k hk=>by
  rw[p_m bz,List.length_drop,List.getD_eq_getElem?_getD,List.getElem?_drop,List.getD_eq_getElem?_getD]
  congr 2;omega
 have e0:l.length-1-(l.length-b)=b-1:=ac
 rw[b_U (a:=l.length-b) (fun k hk=>by rw[hg k ac];exact h2 _ ac ac) ac (by rw[hg _ ac,e0];exact hn2)]
 rw[List.drop_reverse,List.reverse_reverse,List.length_drop]
 congr 1;omega
def Q.rpL(l old new:By):Nat->Nat->By->By
 |0,_,out=>out
 |n+1,i,out=>cond (Nat.blt i l.length) (cond (Nat.ble (i+old.length) l.length&&eqL ((l.take (i+old.length)).drop i) old) (rpL l old new n (i+old.length) (out++new)) (rpL l old new n (i+1) (out++[l.getD i 0]))) out
def Q.rpF(l old new:By):By:=rpL l old new l.length 0 []
theorem s_d{l old new:By}{n i:Nat}{out:By}(h:l.length<=i):rpL l old new n i out=out:=by
 cases n with
 |zero=>rfl
 |succ n=>simp only[rpL,a_C.2 h,cond_false]
theorem j_T{l old new:By}{n i:Nat}{out:By}(h:i<l.length)(hn:l.length<=i+n):∃m,n=m+1/\rpL l old new n i out=cond (Nat.ble (i+old.length) l.length&&eqL ((l.take (i+old.length)).drop i) old) (rpL l old new m (i+old.length) (out++new)) (rpL l old new m (i+1) (out++[l.getD i 0])):=by
 cases n with
 |zero=>omega
 |succ n=>exact⟨n,rfl,by simp only[rpL,a_z.2 h,cond_true]⟩
def Q.rpI(l old new:By)(i:Nat)(out:By):Prop:=i<=l.length/\out.length<=i/\∃n,l.length<=i+n/\rpL l old new n i out=rpF l old new
theorem y_g{l old new:By}:rpI l old new 0 []:=⟨Nat.zero_le _,Nat.le_refl _,l.length,ac,rfl⟩
theorem m_G{l old new:By}{i:Nat}{out:By}(h:rpI l old new i out)(hi:l.length<=i):out=rpF l old new:=by
 obtain⟨_,_,n,_,e⟩:=h
 rw[s_d hi] at e;exact e
theorem t_8{l old new:By}{i:Nat}{out:By}(h:rpI l old new i out)(hi:i+old.length<=l.length)(ho:0<old.length)(hno:new.length<=old.length)(he:eqL ((l.take (i+old.length)).drop i) old=true):rpI l old new (i+old.length) (out++new):=by
 obtain⟨h1,h2,n,hn,e⟩:=h
 obtain⟨m,rfl,e2⟩:=j_T (old:=old) (new:=new) (out:=out) (show i<l.length by omega) hn
 rw[e2,a_m.2 hi,he,Bool.and_self,cond_true] at e
 exact⟨hi,af,m,ac,e⟩
theorem p_n{l old new:By}{i:Nat}{out:By}(h:rpI l old new i out)(hi:i<l.length)(he:i+old.length<=l.length->eqL ((l.take (i+old.length)).drop i) old=false):rpI l old new (i+1) (out++[l.getD i 0]):=by
 obtain⟨h1,h2,n,hn,e⟩:=h
 obtain⟨m,rfl,e2⟩:=j_T (old:=old) (new:=new) (out:=out) hi hn
 have hc:(Nat.ble (i+old.length) l.length&&eqL ((l.take (i+old.length)).drop i) old)=false:=by
  by_cases h:i+old.length<=l.length
  ·rw[he h,Bool.and_false]
  ·rw[a_e.2 ac,Bool.false_and]
 rw[e2,hc,cond_false] at e
 exact⟨ac,af,m,ac,e⟩
theorem LoopD.bodyHj{P:Program}{D:LoopD}{ft:FuncId->Option Func}{T:Tabs}{LT:D.J->List (List Nat×d_l)}{root:Code}(p:List Nat)(hft:o_5 P ft)(htab:TabOk P T)(hLT:∀j,D.side j->LTok D.p P root (LT j))(n:Nat)
 (h:∀j,D.side j->Ho (exW P ft T (LT j) n root p (sub root p) (D.fr j) (D.hp j) (D.K j))):D.Body P (sub root p):=fun j hj=>f_h hft htab (hLT j hj) n (h j hj).out rfl
theorem s_e{c:UInt8}:spB c=true↔(Syms.gf 2 c.toNat).toNat≠0:=by
 unfold spB;cases h:Nat.beq (Syms.gf 2 c.toNat).toNat 0
 ·simpa using fun e=>by rw[e] at h;cases h
 ·simpa using Nat.eq_of_beq_eq_true h
theorem s_f{c:UInt8}:spB c=false↔(Syms.gf 2 c.toNat).toNat=0:=by
 rw[←Bool.not_eq_true,s_e];simp
def Q.trK(l:By)(i:Nat):Prop:=i<=l.length/\∀k,k<i->spB (l.getD k 0)=true
def Q.trJ(m:By)(k:Nat):Prop:=k<=m.length/\(∀i,k<=i->i<m.length->spB (m.getD i 0)=true)/\0<m.length/\spB (m.getD 0 0)=false
theorem y_h{l:By}:trK l 0:=⟨Nat.zero_le _,fun k h=>absurd h ac⟩
theorem y_i{l:By}{i:Nat}(h:trK l i)(hi:i<l.length)(hs:spB (l.getD i 0)=true):trK l (i+1):=⟨ac,fun k hk=>by
 by_cases e:k=i
 ·rw[e];exact hs
 ·exact h.2 k ac⟩
theorem s_g{l:By}{i:Nat}(h:trK l i)(hi:l.length<=i):trim l=[]:=p_l fun k hk=>h.2 k ac
theorem s_h{m:By}{k:Nat}(h:trJ m k):0<k:=by
 cases k with
 |zero=>have:=h.2.1 0 ac h.2.2.1;rw[h.2.2.2] at this;cases this
 |succ k=>omega
theorem y_j{m:By}{k:Nat}(h:trJ m (k+1))(hs:spB (m.getD k 0)=true):trJ m k:=⟨by have:=h.1;omega,fun i h1 h2=>by
 by_cases e:i=k
 ·rw[e];exact hs
 ·exact h.2.1 i ac h2,h.2.2⟩
theorem s_i{m:By}{k:Nat}(h:trJ m (k+1))(hs:spB (m.getD k 0)=false):m.take (k+1)=trim m:=by
 rw[s_c (a:=0) (b:=k+1) (fun k hk=>absurd hk ac) h.2.2.2 h.1 ac h.2.1 (by simpa using hs)];simp
theorem c_H{l:By}{i k:Nat}:(l.drop i).getD k 0=l.getD (i+k) 0:=by
 rw[List.getD_eq_getElem?_getD,List.getElem?_drop,List.getD_eq_getElem?_getD]
theorem y_k{l:By}{i:Nat}(h:trK l i)(hi:i<l.length)(hs:spB (l.getD i 0)=false):trJ (l.drop i) (l.drop i).length:=⟨Nat.le_refl _,fun k h1 h2=>absurd h2 ac,af,by rw[c_H];simpa using hs⟩
theorem y_l{l:By}{i:Nat}(h:trK l i)(hi:i<l.length)(hs:spB (l.getD i 0)=false):trim (l.drop i)=trim l:=by
 unfold trim
 rw[b_U h.2 hi hs]
 have:(l.drop i).dropWhile spB=l.drop i:=by
  have:=b_U (p:=spB) (l:=l.drop i) (a:=0) (fun k hk=>absurd hk ac) af (by rw[c_H];simpa using hs)
  simpa using this
 rw[this]
theorem b_a:∀{l:By} {k:Nat} (_:k<l.length),l.getD k 0∈l
 |[],k,h=>bm
 |c::l,0,_=>an
 |c::l,k+1,h=>by
  have:=b_a (l:=l) (k:=k) bT
  simpa using Or.inr this
theorem h_i{l:By}{i n:Nat}(h:l.length<=n):(l.drop i).length<=n:=aY
theorem b_F{n m:Nat}:((n:Int)==(m:Int))=true↔n=m:=by simp[Int.ofNat_inj]
theorem b_P{n m:Nat}:((n:Int)==(m:Int))=false↔n≠m:=by rw[←Bool.not_eq_true,b_F]
theorem x_v{n m:Nat}:((n:Int)!=(m:Int))=true↔n≠m:=by simp[Int.ofNat_inj]
theorem y_m{n m:Nat}:((n:Int)!=(m:Int))=false↔n=m:=by rw[←Bool.not_eq_true,x_v];simp
theorem h_j:∀{l:By} {i:Nat} (_:i<l.length),l.take i++[l.getD i 0]=l.take (i+1)
 |[],i,h=>bm
 |c::l,0,_=>an
 |c::l,i+1,h=>by
  have:=h_j (l:=l) (i:=i) bT
  rw[List.take_succ_cons,List.take_succ_cons,List.cons_append,List.getD_cons_succ,this]
theorem t_9{k:Int}(h0:0<=k)(h:k<2147483648):IntKind.wrap IntKind.i32 k=k:=by
 have h2:(2:Int) ^ 32=4294967296:=ar
 have h3:(2:Int) ^ (32-1)=2147483648:=ar
 simp only[IntKind.wrap,IntKind.bits,IntKind.signed,h2,h3,Bool.true_and,decide_eq_true_eq]
 have e:k % 4294967296=k:=ac
 rw[e];split<;>omega
def Q.wc(c:UInt8):Prop:=c.toNat=32\/(48<=c.toNat/\c.toNat<=57)\/(65<=c.toNat/\c.toNat<=90)\/(97<=c.toNat/\c.toNat<=122)
def Q.WT(l:By):Prop:=∀b∈l,wc b
theorem j_U:∀{l:By} {b:UInt8} (_:b∈l),∃k,k<l.length/\l.getD k 0=b
 |c::l,b,h=>by
  rcases List.mem_cons.1 h with rfl|h
  ·exact⟨0,an,an⟩
  ·obtain⟨k,h1,h2⟩:=j_U h
   exact⟨k+1,by simpa using h1,by simpa using h2⟩
theorem d_W{l:By}(h:Words l):WT l:=fun b hb=>by
 obtain⟨k,hk,rfl⟩:=j_U hb
 have:=h.at hk
 unfold wc;omega
def y_n(D:LoopD)(m:Nat)(fr:Fr)(H:AHeap):List LoopD->Prop
 |[]=>False
 |E::r=>(∃j',E.side j'/\E.μ j'<m/\m_o D.p fr H D.fn ⟨E.n,D.ros,D.st⟩ (E.s j') (E.b j') (E.d j'))\/y_n D m fr H r
theorem m_H{D:LoopD}{m:Nat}{fr:Fr}{H:AHeap}:∀{l:List LoopD},y_n D m fr H l->∃(i:Fin l.length) (j:(l.get i).J),(l.get i).side j/\(l.get i).μ j<m/\m_o D.p fr H D.fn ⟨(l.get i).n,D.ros,D.st⟩ ((l.get i).s j) ((l.get i).b j) ((l.get i).d j)
 |E::r,h=>by
  rcases h with⟨j,h⟩|h
  ·exact⟨⟨0,an⟩,j,h⟩
  ·obtain⟨⟨i,hi⟩,j,h⟩:=m_H h
   exact⟨⟨i+1,by simpa using hi⟩,j,h⟩
def _root_.Go.Sx.LoopD.Kn(D:LoopD)(Es:List LoopD)(m:Nat):AExit->Fr->AHeap->Prop:=fun e fr H=>match e with
 | .normal=>y_n D m fr H Es
 |e=>D.outs e fr H D.ways
def _root_.Go.Sx.LoopD.Bodyn(D:LoopD)(Es:List LoopD)(P:Program)(x:Code):Prop:=∀E∈Es,∀j,E.side j->WPw D.p P x (D.fr2 E j) (D.hp2 E j) (D.Kn Es (E.μ j))
theorem _root_.Go.Sx.LoopD.okn{D:LoopD}{Es:List LoopD}{P:Program}{x:Code}(h:D.Bodyn (D::Es) P x){j:D.J}{fr:Fr}{H:AHeap}{K:AExit->Fr->AHeap->Prop}(hk:D.at j fr H K):WPw D.p P (.loop x) fr H K:=by
 obtain⟨h1,h2,h3⟩:=hk
 refine WPw.ent (c_u h2) ?_
 have key:=r_R (P:=P) (pn:=D.p) (J:=(i:Fin (D::Es).length)×((D::Es).get i).J) (fun j=>((D::Es).get j.1).side j.2) (fun j=>((D::Es).get j.1).μ j.2) (fun j=>D.fr2 ((D::Es).get j.1) j.2) (fun j=>D.hp2 ((D::Es).get j.1) j.2) (x:=x) (K:=fun e fr H=>D.outs e fr H D.ways) (fun j hj=>by
  have:=h _ (List.get_mem (D::Es) j.1) j.2 hj
  refine this.mono fun e fr H hK=>?_
  cases e with
  |normal=>
   obtain⟨i,j',a,b,c⟩:=m_H hK
   exact⟨⟨i,j'⟩,a,b,c_u c⟩
  |exit i=>exact hK
  |ret=>exact hK) ⟨⟨0,an⟩,j⟩ h1
 refine key.post fun e fr H hK=>?_
 obtain⟨W,hm,he,x,hx,hent⟩:=LoopD.outs_ok hK
 subst he
 exact⟨_,_,c_u hent,e_Q h3 W hm x hx⟩
theorem b_G{P:Program}{D E:LoopD}{Es:List LoopD}{ft:FuncId->Option Func}{T:Tabs}{LT:List (List Nat×d_l)}{root:Code}(p:List Nat)(hft:o_5 P ft)(htab:TabOk P T)(hLT:LTok D.p P root LT)(n:Nat)
 (h:∀j,E.side j->Ho (exW P ft T LT n root p (sub root p) (D.fr2 E j) (D.hp2 E j) (D.Kn Es (E.μ j)))):∀j,E.side j->WPw D.p P (sub root p) (D.fr2 E j) (D.hp2 E j) (D.Kn Es (E.μ j)):=
 fun j hj=>f_h hft htab hLT n (h j hj).out rfl
def Q.tcI(l:By)(i k:Nat)(s r:By):Prop:=i<=l.length/\k<=i/\r.length+s.length<=i/\(l.take i).foldl step (0,[],[])=(k,s,r)
def Q.tcF(l:By):By:=tcn l
theorem y_o{l:By}:tcI l 0 0 [] []:=⟨Nat.zero_le _,Nat.le_refl _,Nat.le_refl _,an⟩
theorem u_a{l:By}{i k:Nat}{s r:By}(h:tcI l i k s r)(hi:i<l.length)(hc:(l.getD i 0).toNat=10):(k+1<=2->tcI l (i+1) (k+1) [] (r++s++[10]))/\(2<k+1->tcI l (i+1) (k+1) [] r):=by
 have e:l.getD i 0=10:=UInt8.toNat_inj.1 (by rw[hc];rfl)
 obtain⟨h1,h2,h3,h4⟩:=h
 have e2:(l.take (i+1)).foldl step (0,[],[])=step (k,s,r) 10:=bL
 refine⟨fun g=>⟨hi,ac,af,?_⟩,fun g=>⟨hi,ac,af,?_⟩⟩
 ·rw[e2];simp only[step,if_true,if_pos g]
 ·rw[e2];simp only[step,if_true,if_neg (show ¬k+1<=2 by omega)]
theorem u_b{l:By}{i k:Nat}{s r:By}(h:tcI l i k s r)(hi:i<l.length)(hc:(l.getD i 0).toNat=32):tcI l (i+1) k (s++[32]) r:=by
 have e:l.getD i 0=32:=UInt8.toNat_inj.1 (by rw[hc];rfl)
 obtain⟨h1,h2,h3,h4⟩:=h
 have e2:(l.take (i+1)).foldl step (0,[],[])=step (k,s,r) 32:=bL
 refine⟨hi,ac,af,?_⟩
 rw[e2];rfl
theorem u_c{l:By}{i k:Nat}{s r:By}(h:tcI l i k s r)(hi:i<l.length)(hc:(l.getD i 0).toNat≠10)(hd:(l.getD i 0).toNat≠32):tcI l (i+1) 0 [] (r++s++[l.getD i 0]):=by
 have e:¬l.getD i 0=10:=fun e=>hc bu
 have e':¬l.getD i 0=32:=fun e=>hd bu
 obtain⟨h1,h2,h3,h4⟩:=h
 have e2:(l.take (i+1)).foldl step (0,[],[])=step (k,s,r) (l.getD i 0):=by rw[←h_j hi,List.foldl_append,h4];rfl
 refine⟨hi,ac,af,?_⟩
 rw[e2];simp only[step,if_neg e,if_neg e']
theorem m_I{l:By}{i k:Nat}{s r:By}(h:tcI l i k s r)(hi:l.length<=i):r++s=tcF l:=by
 obtain⟨h1,h2,h3,h4⟩:=h
 unfold tcF tcn
 rw[←List.take_of_length_le hi,h4]
theorem m_J{l:By}:h_7 l=true↔l=[]:=by cases l<;>simp[h_7]
theorem m_K{l:By}:h_7 l=false↔l≠[]:=by cases l<;>simp[h_7]
theorem i_v{l:By}{i:Nat}(h:i<l.length):(l.take (i+1)).drop i=[l.getD i 0]:=by
 have e:i=(l.take i).length:=aB
 rw[←h_j h,List.drop_append_of_le_length ac]
 rw[List.drop_of_length_le ac,List.nil_append]
def Q.ct(T:TD)(i j:Nat):By:=trim (T.tx i j)
theorem e_R{l:By}{b:UInt8}(h:b∈trim l):b∈l:=by
 unfold trim at h
 rw[List.mem_reverse] at h
 have h1:=(List.dropWhile_suffix _).subset h
 rw[List.mem_reverse] at h1
 exact(List.dropWhile_suffix _).subset h1
theorem e_S{l:By}:(trim l).length<=l.length:=by
 unfold trim
 rw[List.length_reverse]
 have h1:=(List.dropWhile_suffix spB (l:=(l.dropWhile spB).reverse)).length_le
 rw[List.length_reverse] at h1
 exact Nat.le_trans h1 (List.dropWhile_suffix spB).length_le
theorem m_L:trim []=[]:=rfl
theorem q_c{l new r:By}(h:∀b∈l,b.toNat≠7):∀(n i:Nat),i<=l.length->l.length<=i+n->rpL l (7::r) new n i (l.take i)=l
 |0,i,h1,h2=>by rw[rpL,List.take_of_length_le ac]
 |n+1,i,h1,h2=>by
  by_cases g:i<l.length
  ·have hc:(Nat.ble (i+(7::r).length) l.length&&eqL ((l.take (i+(7::r).length)).drop i) (7::r))=false:=by
    rw[Bool.and_eq_false_iff]
    by_cases g2:i+(7::r).length<=l.length
    ·right
     rw[d_s,Bool.eq_false_iff]
     intro e
     have e:=eq_of_beq e
     have e3:l.getD i 0=7:=by
      have:=congrArg (fun x=>x.getD 0 (0:UInt8)) e
      simp only[List.getD_cons_zero,c_H,Nat.add_zero] at this
      rw[←this,List.getD_eq_getElem?_getD,List.getD_eq_getElem?_getD,List.getElem?_take_of_lt an]
     exact h _ (b_a g) (by rw[e3];rfl)
    ·left;exact a_e.2 ac
   rw[rpL,a_z.2 g,cond_true,hc,cond_false,h_j g]
   exact q_c h n (i+1) g ac
  ·rw[rpL,a_C.2 ac,cond_false,List.take_of_length_le ac]
theorem q_d{l new r:By}(h:∀b∈l,b.toNat≠7):rpF l (7::r) new=l:=by
 have:=q_c (new:=new) (r:=r) h l.length 0 (Nat.zero_le _) ac
 rwa [List.take_zero] at this
end Tk

