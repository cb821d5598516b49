/- Lemmas of this claim; the last text says what is proved. -/
import Derived.Test.YtjkgmpkgfhhaiaaGreatK19
import Derived.Test.YtjkgmpkgfhhaiaaGreatK23
import Derived.Test.YtjkgmpkgfhhaiaaGreatK47
set_option linter.all false
namespace Tk
open Go Go.Sx Go.Proofs
open Q
variable [Syms]
def rowL (n:Nat) (g:Nat->By):Row:=(List.range n).map g
theorem rowL_len {n:Nat} {g:Nat->By}:(rowL n g).length=n:=by simp[rowL]
theorem rowL_get {n c:Nat} {g:Nat->By} (h:c<n):(rowL n g).getD c []=g c:=by simp[rowL,List.getD_eq_getElem?_getD,h]
theorem rowL_s {n:Nat} {g:Nat->By}:rowL (n+1) g=rowL n g++[g n]:=by simp[rowL,List.range_succ]
theorem rowL_congr {n:Nat} {g g':Nat->By} (h:∀k,k<n->g k=g' k):rowL n g=rowL n g':=by
 unfold rowL;exact List.map_congr_left fun k hk=>h k (List.mem_range.1 hk)
theorem rowE_isE {g:Nat->By}:∀n,rowE g n=isE (rowL n g)
 |0=>rfl
 |n+1=>by
  rw[rowE,rowE_isE n,rowL_s]
  unfold isE
  rw[List.all_append]
  congr 1
  cases g n<;>rfl
theorem mapR_congr {α:Type} {n:Nat} {f g:Nat->α} (h:∀k,k<n->f k=g k):(List.range n).map f=(List.range n).map g:=List.map_congr_left fun k hk=>h k (List.mem_range.1 hk)
theorem mapR_get {α:Type} {n q:Nat} {f:Nat->α} {d:α} (h:q<n):((List.range n).map f).getD q d=f q:=by simp[List.getD_eq_getElem?_getD,h]
theorem rowT_congr {p:By} {W:Nat->Nat} {g g':Nat->By}:∀{n:Nat},(∀k,k<n->g k=g' k)->rowT p W g n=rowT p W g' n
 |0,_=>rfl
 |n+1,h=>by rw[rowT,rowT,rowT_congr fun k hk=>h k (by omega),h n (by omega)]
theorem bdyT_congr {p:By} {W:Nat->Nat} {w:Nat} {f f':Nat->Nat->By}:∀{n:Nat},(∀q,q<n+1->∀c,c<w->f q c=f' q c)->bdyT p W w f n=bdyT p W w f' n
 |0,_=>rfl
 |n+1,h=>by rw[bdyT,bdyT,bdyT_congr fun q hq=>h q (by omega),rowT_congr (h (n+1) (by omega))]
theorem tabT_congr {p:By} {W:Nat->Nat} {w m:Nat} {f f':Nat->Nat->By} (hm:0<m) (h:∀q,q<m->∀c,c<w->f q c=f' q c):tabT p W w f m=tabT p W w f' m:=by
 unfold tabT
 rw[rowT_congr (h 0 hm),bdyT_congr fun q hq=>h q (by omega)]
theorem cntC_congr {g g':Nat->By}:∀(r k:Nat) (W:List Nat),(∀c,c<k+r->g c=g' c)->cntC g r k W=cntC g' r k W
 |0,_,_,_=>rfl
 |r+1,k,W,h=>by rw[cntC,cntC,h k (by omega),cntC_congr r (k+1) _ fun c hc=>h c (by omega)]
theorem cntR_congr {rn rn':Nat->Nat} {rc rc':Nat->Nat->By}:∀(r q:Nat) (W:List Nat),(∀p,p<q+r->rn p=rn' p/\∀c,c<rn p->rc p c=rc' p c)->cntR rn rc r q W=cntR rn' rc' r q W
 |0,_,_,_=>rfl
 |r+1,q,W,h=>by
  have h1:=h q (by omega)
  rw[cntR,cntR,cntC_congr (rn q) 0 W (fun c hc=>h1.2 c (by omega)),h1.1,cntR_congr r (q+1) _ fun p hp=>h p (by omega)]
theorem cnt_congr {rn rn':Nat->Nat} {rc rc':Nat->Nat->By} {m:Nat} (h:∀p,p<m->rn p=rn' p/\∀c,c<rn p->rc p c=rc' p c):cnt rn rc m=cnt rn' rc' m:=cntR_congr m 0 [] fun p hp=>h p (by omega)
def lnL (rs:List Row) (q:Nat):Nat:=(rs.getD q []).length
def ceL (rs:List Row) (q c:Nat):By:=(rs.getD q []).getD c []
def tabL (p:By) (rs:List Row):By:=tabT p (wd (cnt (lnL rs) (ceL rs) rs.length)) (cnt (lnL rs) (ceL rs) rs.length).length (fc (lnL rs) (ceL rs)) rs.length
def finL (T:TD):List Row:=(List.range (finR T).2.2.1).map fun q=>rowL ((finR T).1 q) ((finR T).2.1 q)
theorem tabF_L {T:TD} (h:1<=(finR T).2.2.1):tabF T=tabL T.pad (finL T):=by
 have hl:(finL T).length=(finR T).2.2.1:=by simp[finL]
 have hn:∀q,q<(finR T).2.2.1->(finR T).1 q=lnL (finL T) q/\∀c,c<(finR T).1 q->(finR T).2.1 q c=ceL (finL T) q c:=fun q hq=>by
  have e:(finL T).getD q []=rowL ((finR T).1 q) ((finR T).2.1 q):=mapR_get hq
  refine⟨?_,fun c hc=>?_⟩
  ·unfold lnL;rw[e,rowL_len]
  ·unfold ceL;rw[e,rowL_get hc]
 unfold tabF tabL
 rw[hl,←cnt_congr hn]
 refine tabT_congr h fun q hq c _=>?_
 obtain⟨h1,h2⟩:=hn q hq
 unfold fc
 rw[←h1]
 by_cases g:c<(finR T).1 q
 ·rw[blt_iff.2 g,cond_true,cond_true,h2 c g]
 ·rw[blt_iff'.2 (by omega)];rfl
def rowQ (T:TD) (q:Nat):Row:=rowL (rn T q) (rc T q)
def ctL (T:TD):List Row:=(List.range T.R).map fun i=>rowL (T.C i) (ct T i)
def L0 (T:TD):List Row:=(List.range (nR T)).map (rowQ T)
theorem L0_eq {T:TD} (hR:0<T.R):L0 T=if T.hd then ctL T else[]::ctL T:=by
 unfold L0 nR hN
 cases hh:T.hd with
 |true=>
  rw[cond_true,show T.R-1+1=T.R by omega,if_pos rfl]
  exact mapR_congr fun k hk=>by unfold rowQ rn rc;rw[hh];rfl
 |false=>
  rw[cond_false,Nat.sub_zero,if_neg (by simp),List.range_succ_eq_map,List.map_cons,List.map_map]
  congr 1
  ·unfold rowQ rn;rw[hh];rfl
  ·exact mapR_congr fun k hk=>by
    show rowL (rn T (k+1)) (rc T (k+1))=_
    unfold rn rc;rw[hh];rfl
theorem kR_eq {T:TD}:kR T=0::((List.range (T.R-hN T)).map Nat.succ).filter fun q=> !eR (rn T) (rc T) q:=by
 unfold kR kp nR
 rw[List.range_succ_eq_map,List.filter_cons]
 simp only[Nat.beq_refl,Bool.true_or,if_true]
 congr 1
 refine List.filter_congr fun q hq=>?_
 obtain⟨k,_,rfl⟩:=List.mem_map.1 hq
 rw[beqN_iff'.2 (by omega)];rfl
theorem eR_isE {T:TD} (q:Nat):eR (rn T) (rc T) q=isE (rowQ T q):=rowE_isE _
def kL (T:TD):List Row:=(kR T).map (rowQ T)
theorem kL_eq {T:TD}:∃h t,L0 T=h::t/\kL T=h::(t.filter fun r=> !isE r)/\allE (rn T) (rc T) (nR T)=((t.filter fun r=> !isE r).isEmpty&&isE h):=by
 refine⟨rowQ T 0,(List.range (T.R-hN T)).map fun q=>rowQ T (q+1),?_,?_,?_⟩
 ·unfold L0 nR
  rw[List.range_succ_eq_map,List.map_cons,List.map_map];rfl
 ·unfold kL
  rw[kR_eq,List.map_cons,List.filter_map,List.filter_map,List.map_map]
  congr 1
  simp only[Function.comp_def,eR_isE]
 ·unfold allE
  rw[show kp (eR (rn T) (rc T)) (nR T)=kR T from rfl,kR_eq]
  have e0:at0 (0::((List.range (T.R-hN T)).map Nat.succ).filter fun q=> !eR (rn T) (rc T) q) 0=0:=rfl
  rw[e0,eR_isE,List.length_cons]
  congr 1
  have e1:(((List.range (T.R-hN T)).map fun q=>rowQ T (q+1)).filter fun r=> !isE r).length=(((List.range (T.R-hN T)).map Nat.succ).filter fun q=> !eR (rn T) (rc T) q).length:=by
   rw[List.filter_map,List.filter_map,List.length_map,List.length_map]
   simp only[Function.comp_def,eR_isE]
  cases hx:(((List.range (T.R-hN T)).map fun q=>rowQ T (q+1)).filter fun r=> !isE r) with
  |nil=>rw[hx] at e1;rw[←e1];rfl
  |cons a b=>rw[hx] at e1;rw[←e1];rfl
theorem rm_eq {T:TD}:rmEmpty (L0 T)=cond (allE (rn T) (rc T) (nR T)) [] (kL T):=by
 obtain⟨h,t,e1,e2,e3⟩:=kL_eq (T:=T)
 rw[e1,e2,e3]
 simp only[rmEmpty]
 cases (t.filter fun r=> !isE r).isEmpty&&isE h<;>rfl
theorem finL_eq {T:TD}:finL T=if T.promote then rmFirst (kL T) else kL T:=by
 have hk:∀b,(List.range ((kR T).length-b)).map (fun q=>rowQ T (at0 (kR T) (q+b)))=(kL T).drop b:=fun b=>by
  unfold kL
  apply List.ext_getElem
  ·simp
  ·intro i h1 h2
   simp at h1
   simp[at0,List.getD_eq_getElem?_getD,show b+i<(kR T).length by omega,Nat.add_comm i b]
 have hb:b1 (fun q=>rn T (at0 (kR T) q)) (fun q=>rc T (at0 (kR T) q))=cond (isE (rowQ T 0)) 1 0:=by
  unfold b1
  rw[show eR (fun q=>rn T (at0 (kR T) q)) (fun q=>rc T (at0 (kR T) q)) 0=eR (rn T) (rc T) (at0 (kR T) 0) from rfl,kR_eq,show at0 (0::((List.range (T.R-hN T)).map Nat.succ).filter fun q=> !eR (rn T) (rc T) q) 0=0 from rfl,eR_isE]
 have hf:finL T=(kL T).drop (cond T.promote (cond (isE (rowQ T 0)) 1 0) 0):=by
  rw[←hk,←hb];rfl
 rw[hf]
 cases T.promote with
 |false=>rfl
 |true=>
  have:kL T=rowQ T 0::(((List.range (T.R-hN T)).map Nat.succ).filter fun q=> !eR (rn T) (rc T) q).map (rowQ T):=by unfold kL;rw[kR_eq,List.map_cons]
  rw[this]
  simp only[rmFirst,cond_true,if_true]
  cases isE (rowQ T 0)<;>rfl
structure Ins (T T':TD) (a:Nat):Prop where
 R:T'.R=T.R+1
 hd:T'.hd=T.hd
 pr:T'.promote=T.promote
 pd:T'.pad=T.pad
 a0:0<a
 a1:a<=T.R
 c1:∀i,i<a->T'.C i=T.C i
 c2:∀i,a<=i->i<T.R->T'.C (i+1)=T.C i
 t1:∀i,i<a->T'.tx i=T.tx i
 t2:∀i,a<=i->i<T.R->T'.tx (i+1)=T.tx i
 t0:∀j,T'.tx a j=[]
theorem mapR_ins {α:Type} {R a:Nat} {f g:Nat->α} (ha:a<=R) (h1:∀i,i<a->g i=f i) (h2:∀i,a<=i->i<R->g (i+1)=f i):(List.range (R+1)).map g=insRow ((List.range R).map f) a (g a):=by
 apply List.ext_getElem
 ·simp[insRow];omega
 ·intro i hi1 hi2
  simp only[List.length_map,List.length_range] at hi1
  simp only[List.getElem_map,List.getElem_range,insRow]
  rcases Nat.lt_trichotomy i a with h|h|h
  ·rw[List.getElem_append_left (by simp;omega)]
   simp[h1 i h]
  ·subst h
   rw[List.getElem_append_right (by simp;omega)]
   simp[Nat.min_eq_left ha]
  ·rw[List.getElem_append_right (by simp;omega)]
   obtain⟨k,rfl⟩:∃k,i=k+1:=⟨i-1,by omega⟩
   have e:k+1-min a R=(k-a)+1:=by omega
   simp only[List.length_take,List.length_map,List.length_range,e,List.getElem_cons_succ,List.getElem_drop,List.getElem_map,List.getElem_range]
   rw[h2 k (by omega) (by omega)]
   congr 1;omega
theorem Ins.ct {T T':TD} {a:Nat} (h:Ins T T' a):ctL T'=insRow (ctL T) a (rowL (T'.C a) (ct T' a)):=by
 unfold ctL
 rw[h.R]
 refine mapR_ins h.a1 (fun i hi=>?_) (fun i h1 h2=>?_)
 ·rw[h.c1 i hi];unfold Q.ct;rw[h.t1 i hi]
 ·rw[h.c2 i h1 h2];unfold Q.ct;rw[h.t2 i h1 h2]
theorem isE_rep {n:Nat} {g:Nat->By} (h:∀k,g k=[]):isE (rowL n g)=true:=by
 rw[←rowE_isE]
 induction n with
 |zero=>rfl
 |succ n ih=>rw[rowE,ih,h n];rfl
def rowsB (T:TD):List Row:=(List.range T.R).map fun i=>rowL (T.C i) (T.tx i)
theorem Ins.rows {T T':TD} {a:Nat} (h:Ins T T' a):rowsB T'=insRow (rowsB T) a (rowL (T'.C a) (T'.tx a)):=by
 unfold rowsB
 rw[h.R]
 refine mapR_ins h.a1 (fun i hi=>?_) (fun i h1 h2=>?_)
 ·rw[h.c1 i hi,h.t1 i hi]
 ·rw[h.c2 i h1 h2,h.t2 i h1 h2]
theorem catT_L {T:TD} {i:Nat}:∀k,catT T i k=(rowL k (T.tx i)).flatten
 |0=>rfl
 |k+1=>by rw[catT,catT_L k,rowL_s];simp
theorem rowsF_L {T:TD}:∀k,rowsF T k=fbRows ((List.range k).map fun i=>rowL (T.C i) (T.tx i))
 |0=>rfl
 |k+1=>by
  rw[rowsF,rowsF_L k,List.range_succ]
  unfold fbRows rowF
  rw[catT_L,List.map_append,List.flatMap_append]
  simp[nn]
theorem fbF_L {T:TD}:fbF T=fb (rowsB T):=by
 unfold fbF fb rowsB
 rw[rowsF_L];rfl
theorem dropW_nil {p:UInt8->Bool}:∀{l:By},l.dropWhile p=[]->∀b∈l,p b=true
 |[],_,b,hb=>by cases hb
 |a::l,h,b,hb=>by
  rw[List.dropWhile_cons] at h
  by_cases g:p a=true
  ·rw[if_pos g] at h
   rcases List.mem_cons.1 hb with rfl|hb
   ·exact g
   ·exact dropW_nil h b hb
  ·rw[if_neg g] at h;cases h
theorem dropW_all {p:UInt8->Bool}:∀{l:By},(∀b∈l,p b=true)->l.dropWhile p=[]
 |[],_=>rfl
 |a::l,h=>by rw[List.dropWhile_cons,if_pos (h a (by simp)),dropW_all fun b hb=>h b (by simp[hb])]
theorem trim_sp {l:By} (h:trim l=[]):∀b∈l,spB b=true:=by
 unfold trim at h
 have h:=List.reverse_eq_nil_iff.1 h
 have h1:=dropW_nil h
 by_cases g:l.dropWhile spB=[]
 ·exact dropW_nil g
 ·exfalso
  have hl:∃c r,l.dropWhile spB=c::r:=by
   cases hd:l.dropWhile spB with
   |nil=>exact absurd hd g
   |cons c r=>exact⟨c,r,rfl⟩
  obtain⟨c,r,hc⟩:=hl
  have h2:spB c=true:=h1 c (by rw[hc];simp)
  have h3:(l.dropWhile spB).head?=some c:=by rw[hc];rfl
  have:=List.head?_dropWhile_not spB l
  rw[h3] at this
  simp[h2] at this
theorem trim_all {l:By} (h:∀b∈l,spB b=true):trim l=[]:=by
 unfold trim
 rw[dropW_all h];rfl
theorem trim_id {l:By} (h:spB 10=false):trim (10::(l++[10]))=10::(l++[10]):=by
 have e:(10::(l++[10]):By).reverse=10::(l.reverse++[10]):=by simp
 unfold trim
 rw[List.dropWhile_cons,if_neg (by rw[h];simp),e,List.dropWhile_cons,if_neg (by rw[h];simp)]
 simp
theorem flatMap_sp {rows:List Row} (h10:spB 10=true) (h:∀r∈rows,∀x∈r,∀b∈x,spB b=true):∀b∈fb rows,spB b=true:=by
 have hn:∀b∈nn,spB b=true:=fun b hb=>by
  simp only[nn,List.mem_cons,List.not_mem_nil,or_false,or_self] at hb
  rw[hb];exact h10
 intro b hb
 unfold fb fbRows at hb
 simp only[List.mem_append,List.mem_flatMap,List.mem_flatten] at hb
 rcases hb with(hb|⟨r,hr,(hb|⟨x,hx,hb⟩)|hb⟩)|hb
 ·exact hn b hb
 ·exact hn b hb
 ·exact h r hr x hx b hb
 ·exact hn b hb
 ·exact hn b hb
theorem fb_cons {rows:List Row}:∃l,fb rows=10::(l++[10]):=⟨[10]++fbRows rows++[10],by simp[fb,nn]⟩
theorem allE_sp {T:TD} (hR:0<T.R) (h:allE (rn T) (rc T) (nR T)=true):∀r∈rowsB T,∀x∈r,∀b∈x,spB b=true:=by
 obtain⟨h0,t,e1,_,e3⟩:=kL_eq (T:=T)
 rw[h,eq_comm,Bool.and_eq_true] at e3
 have hall:∀r∈L0 T,isE r=true:=fun r hr=>by
  rw[e1] at hr
  rcases List.mem_cons.1 hr with rfl|hr
  ·exact e3.2
  ·have hf:(t.filter fun r=> !isE r)=[]:=by simpa using e3.1
   have:=List.filter_eq_nil_iff.1 hf r hr
   simpa using this
 have hct:∀r∈ctL T,isE r=true:=fun r hr=>hall r (by
  rw[L0_eq hR]
  split
  ·exact hr
  ·exact List.mem_cons_of_mem _ hr)
 intro r hr x hx b hb
 obtain⟨i,hi,rfl⟩:=List.mem_map.1 hr
 obtain⟨c,hc,rfl⟩:=List.mem_map.1 hx
 have h1:=hct (rowL (T.C i) (ct T i)) (List.mem_map.2 ⟨i,hi,rfl⟩)
 have h2:=List.all_eq_true.1 h1 (ct T i c) (List.mem_map.2 ⟨c,hc,rfl⟩)
 exact trim_sp (by simpa[Q.ct] using h2) b hb
theorem doc_ins {T T':TD} {a:Nat} (h:Ins T T' a) (hR:0<T.R):tcF (trim (docF T'))=tcF (trim (docF T)):=by
 have hE:isE (rowL (T'.C a) (ct T' a))=true:=isE_rep fun k=>by unfold Q.ct;rw[h.t0];rfl
 have hE2:isE (rowL (T'.C a) (T'.tx a))=true:=isE_rep h.t0
 have hl:(ctL T).length=T.R:=by simp[ctL]
 have key:∀pr,finalRows T.hd pr (ctL T')=finalRows T.hd pr (ctL T):=fun pr=>by
  rw[h.ct];exact finalRows_ins _ _ hE h.a0 (by rw[hl];exact h.a1)
 have hrm:rmEmpty (L0 T')=rmEmpty (L0 T):=by
  have:=key false
  unfold finalRows at this
  simp only[Bool.false_eq_true,if_false] at this
  rw[L0_eq (by have:=h.R;omega),L0_eq hR,h.hd]
  exact this
 have hk:∀T:TD,kL T≠[]:=fun T=>by
  obtain⟨a,b,_,e,_⟩:=kL_eq (T:=T)
  rw[e];simp
 rw[rm_eq,rm_eq] at hrm
 unfold docF
 cases hA:allE (rn T) (rc T) (nR T) with
 |true=>
  rw[hA,cond_true] at hrm
  cases hA':allE (rn T') (rc T') (nR T') with
  |false=>rw[hA',cond_false] at hrm;exact absurd hrm (hk T')
  |true=>
   rw[cond_true,cond_true,fbF_L,fbF_L]
   cases h10:spB 10 with
   |true=>
    rw[trim_all (flatMap_sp h10 (allE_sp (by have:=h.R;omega) hA')),trim_all (flatMap_sp h10 (allE_sp hR hA))]
   |false=>
    obtain⟨l,e⟩:=fb_cons (rows:=rowsB T)
    obtain⟨l',e'⟩:=fb_cons (rows:=rowsB T')
    have e2:trim (fb (rowsB T))=fb (rowsB T):=by rw[e];exact trim_id h10
    have e2':trim (fb (rowsB T'))=fb (rowsB T'):=by rw[e'];exact trim_id h10
    rw[e2,e2',h.rows]
    exact fb_ins hE2 h.a0 (by simp[rowsB];exact h.a1)
 |false=>
  rw[hA,cond_false] at hrm
  cases hA':allE (rn T') (rc T') (nR T') with
  |true=>rw[hA',cond_true] at hrm;exact absurd hrm.symm (hk T)
  |false=>
   rw[hA',cond_false] at hrm
   rw[cond_false,cond_false,tabF_L (finR_pos hA'),tabF_L (finR_pos hA),finL_eq,finL_eq,hrm,h.pr,h.pd]
theorem post_ins {T T':TD} {a:Nat} (h:Ins T T' a) (hR:0<T.R):post (docF T')=post (docF T):=by
 unfold post;rw[doc_ins h hR]
end Tk
namespace Tk
open Go Go.Sx Go.Proofs
open Q
variable [Syms]
structure Base (U:TD):Prop where
 r:0<U.R
 r2:U.R<=13
 c:∀i,i<U.R->0<U.C i
 c2:∀i,U.C i<=12
 w:∀i j,Words (U.tx i j)
 l:∀i j,(U.tx i j).length<=2147483647
 g:∀c,c<256->Syms.gn 0 c=true
theorem words_nil:Words []:=fun i hi=>by simp at hi
theorem base_of {T:TD} (hs:srcT T) (hf:fitT T) (hn:ntT T):Base T:=by
 obtain⟨s1,s2,s3⟩:=hs
 have key:∀i j,(i<T.R/\j<T.C i)\/T.tx i j=[]:=fun i j=>by
  by_cases h:i<T.R/\j<T.C i
  ·exact .inl h
  ·exact .inr (s2 i j (by omega))
 refine⟨hn.1,hn.2.1,fun i hi=>(hn.2.2 i hi).1,fun i=>?_,fun i j=>?_,fun i j=>?_,s3⟩
 ·by_cases h:i<T.R
  ·exact(hn.2.2 i h).2.1
  ·rw[s1 i (by omega)];omega
 ·rcases key i j with h|h
  ·exact((hn.2.2 i h.1).2.2 j h.2).1
  ·rw[h];exact words_nil
 ·rcases key i j with h|h
  ·exact hf.2 i h.1 j h.2
  ·rw[h];simp
theorem cellsL_len {T:TD} {i:Nat}:∀j,(cellsL T i j).length<=2*j
 |0=>by simp[cellsL]
 |j+1=>by
  have h:=cellsL_len (T:=T) (i:=i) j
  simp only[cellsL,List.length_append,List.length_cons]
  cases T.hasT i j<;>simp<;>omega
theorem rowsL_len {T:TD} (hc:∀i,T.C i<=12):∀i,(rowsL T i).length<=3+25*i
 |0=>by simp[rowsL]
 |i+1=>by
  have h:=rowsL_len hc i
  have h2:=cellsL_len (T:=T) (i:=i) (T.C i)
  have h3:=hc i
  simp only[rowsL,List.length_append,List.length_cons];omega
theorem pad_ok (p:Int):padF p=padA\/padF p=padM\/padF p=padN:=by
 unfold padF
 cases decide (p>0)<;>cases (p==2)<;>cases (p==3)<;>simp
theorem vT_ok {U:TD} (h:Base U):(vT U).Ok where
 r:=h.r
 c:=h.c
 n:=by
  have:=rowsL_len (T:=vT U) h.c2 (vT U).R
  have h2:(vT U).R<=13:=h.r2
  unfold nN ixR;omega
 w:=h.w
 l:=h.l
 r2:=h.r2
 c2:=h.c2
 g:=h.g
 pd:=pad_ok _
variable {T:TD} {A m:Nat}
theorem ins_lt {i:Nat} (h:i<A):(insT T A m).C i=T.C i/\(insT T A m).tx i=T.tx i/\rowX (insT T A m) i=rowX T i:=by
 have e:Nat.blt i A=true:=blt_iff.2 h
 have e1:(insT T A m).C i=T.C i:=by simp only[insT,e,cond_true]
 have e2:(insT T A m).tx i=T.tx i:=by simp only[insT,e,cond_true]
 refine⟨e1,e2,?_⟩
 unfold rowX
 rw[e1,e2]
 simp only[insT,e,cond_true]
theorem ins_eq:(insT T A m).C A=m/\(insT T A m).tx A=(fun _=>[])/\rowX (insT T A m) A=⟨fun _=>[],fun _=>false,fun _=>[],fun _=>0,fun _=>0,m⟩:=by
 have e:Nat.blt A A=false:=blt_iff'.2 (Nat.le_refl _)
 have e':Nat.beq A A=true:=Nat.beq_refl A
 have e1:(insT T A m).C A=m:=by simp only[insT,e,e',cond_true,cond_false]
 have e2:(insT T A m).tx A=fun _=>[]:=by simp only[insT,e,e',cond_true,cond_false]
 refine⟨e1,e2,?_⟩
 unfold rowX
 rw[e1,e2]
 simp only[insT,e,e',cond_true,cond_false]
theorem ins_gt {i:Nat} (h:A<i):(insT T A m).C i=T.C (i-1)/\(insT T A m).tx i=T.tx (i-1)/\rowX (insT T A m) i=rowX T (i-1):=by
 have e:Nat.blt i A=false:=blt_iff'.2 (by omega)
 have e':Nat.beq i A=false:=beqN_iff'.2 (by omega)
 have e1:(insT T A m).C i=T.C (i-1):=by simp only[insT,e,e',cond_false]
 have e2:(insT T A m).tx i=T.tx (i-1):=by simp only[insT,e,e',cond_false]
 refine⟨e1,e2,?_⟩
 unfold rowX
 rw[e1,e2]
 simp only[insT,e,e',cond_false]
theorem ins_base (h:Base T) (hr:T.R<=12) (h0:0<A) (h1:A<=T.R) (m0:0<m) (m1:m<=12):Base (insT T A m) where
 r:=Nat.succ_pos _
 r2:=by show T.R+1<=13;omega
 c:=fun i hi=>by
  have hi:i<T.R+1:=hi
  rcases Nat.lt_trichotomy i A with g|g|g
  ·rw[(ins_lt g).1];exact h.c i (by omega)
  ·subst g;rw[ins_eq.1];exact m0
  ·rw[(ins_gt g).1];exact h.c _ (by omega)
 c2:=fun i=>by
  rcases Nat.lt_trichotomy i A with g|g|g
  ·rw[(ins_lt g).1];exact h.c2 i
  ·subst g;rw[ins_eq.1];exact m1
  ·rw[(ins_gt g).1];exact h.c2 _
 w:=fun i j=>by
  rcases Nat.lt_trichotomy i A with g|g|g
  ·rw[(ins_lt g).2.1];exact h.w i j
  ·subst g;rw[ins_eq.2.1];exact words_nil
  ·rw[(ins_gt g).2.1];exact h.w _ j
 l:=fun i j=>by
  rcases Nat.lt_trichotomy i A with g|g|g
  ·rw[(ins_lt g).2.1];exact h.l i j
  ·subst g;rw[ins_eq.2.1];simp
  ·rw[(ins_gt g).2.1];exact h.l _ j
 g:=h.g
theorem hh_of {U:TD} {i j:Nat} {x:RowX} (e:rowX U i=x):U.hh i j=x.h j/\U.al i j=x.a j/\U.cc i j=x.c j/\U.rr i j=x.r j/\U.tx i j=x.t j:=by
 subst e;exact⟨rfl,rfl,rfl,rfl,rfl⟩
theorem ins_nt (h:ntT T) (hr:T.R<=12) (h0:0<A) (h1:A<=T.R) (m0:0<m) (m1:m<=12):ntT (insT T A m):=by
 refine⟨Nat.succ_pos _,by show T.R+1<=13;omega,fun i hi=>?_⟩
 have hi:i<T.R+1:=hi
 rcases Nat.lt_trichotomy i A with g|g|g
 ·obtain⟨e1,e2,e3⟩:=ins_lt (T:=T) (m:=m) g
  have hn:=h.2.2 i (by omega)
  refine⟨by rw[e1];exact hn.1,by rw[e1];exact hn.2.1,fun j hj=>?_⟩
  rw[e1] at hj
  obtain⟨k1,k2,k3,k4,k5⟩:=hh_of (j:=j) e3
  obtain⟨k6,_⟩:=hh_of (j:=0) e3
  rw[k1,k2,k3,k4,k5,k6]
  exact hn.2.2 j hj
 ·subst g
  obtain⟨e1,e2,e3⟩:=ins_eq (T:=T) (A:=i) (m:=m)
  refine⟨by rw[e1];exact m0,by rw[e1];exact m1,fun j hj=>?_⟩
  obtain⟨k1,k2,k3,k4,k5⟩:=hh_of (j:=j) e3
  rw[k1,k2,k3,k4,k5,beqN_iff'.2 (by omega)]
  exact⟨words_nil,by show(0:Int)<=1;decide,by show(0:Int)<=1;decide,rfl,rfl⟩
 ·obtain⟨e1,e2,e3⟩:=ins_gt (T:=T) (m:=m) g
  have hn:=h.2.2 (i-1) (by omega)
  refine⟨by rw[e1];exact hn.1,by rw[e1];exact hn.2.1,fun j hj=>?_⟩
  rw[e1] at hj
  obtain⟨k1,k2,k3,k4,k5⟩:=hh_of (j:=j) e3
  rw[k1,k2,k3,k4,k5]
  have:=hn.2.2 j hj
  refine⟨this.1,this.2.1,this.2.2.1,?_,this.2.2.2.2⟩
  rw[beqN_iff'.2 (show ¬i=0 by omega),Bool.false_and]
  have h4:=this.2.2.2.1
  rw[beqN_iff'.2 (show ¬i-1=0 by omega),Bool.false_and] at h4
  exact h4
theorem ins_Ins (h0:0<A) (h1:A<=T.R):Ins (vT T) (vT (insT T A m)) A where
 R:=rfl
 hd:=(hh_of (j:=0) (ins_lt (T:=T) (m:=m) h0).2.2).1
 pr:=rfl
 pd:=rfl
 a0:=h0
 a1:=h1
 c1:=fun i hi=>(ins_lt (T:=T) (m:=m) hi).1
 c2:=fun i hi _=>(ins_gt (T:=T) (m:=m) (A:=A) (by omega)).1
 t1:=fun i hi=>(ins_lt (T:=T) (m:=m) hi).2.1
 t2:=fun i hi _=>(ins_gt (T:=T) (m:=m) (A:=A) (by omega)).2.1
 t0:=fun j=>by show(insT T A m).tx A j=[];rw[(ins_eq (T:=T) (A:=A) (m:=m)).2.1]
theorem same_eq (h0:0<A) (h1:A<=T.R) (hR:0<T.R):eqL (post (docF (vT (insT T A m)))) (post (docF (vT T)))=true:=by
 rw[post_ins (ins_Ins h0 h1) hR,eqL_eq]
 exact beq_self_eq_true _
theorem nnF_of {n:Int} (h1:1<=n) (h2:n<=12) (hc:0<T.C 0) (hc2:T.C 0<=12):0<nnF T n/\nnF T n<=12/\(bif decide ((T.C 0:Int)<n) then(T.C 0:Int) else n)=(nnF T n:Int):=by
 unfold nnF
 by_cases g:(T.C 0:Int)<n
 ·rw[decide_eq_true g,cond_true]
  refine⟨?_,?_,?_⟩<;>simp<;>omega
 ·rw[decide_eq_false g,cond_false]
  refine⟨?_,?_,?_⟩<;>omega
theorem iteT {p:Nat} {c:Bool} {a b b':AVal} (hc:c=true) (h:SubA p a b'):SubA p (.ite c a b) b':=fun ι ι' v hle hd=>by
 cases hd with
 |ite h1 h2=>exact h ι ι' v hle (h1 hc)
theorem fmw_row {x y:RowX} {n n':Nat} (h:x=y) (hn:n=n'):SubA 0 (.fmw (cellX x) 5 n) (.fmw (cellX y) 5 n'):=by
 subst h;subst hn;exact SubA.fmw fun _ _=>nlL_sub rfl
end Tk
