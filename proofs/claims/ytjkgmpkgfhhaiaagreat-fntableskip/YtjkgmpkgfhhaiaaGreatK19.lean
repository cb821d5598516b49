/- Lemmas of this claim; the last text says what is proved. -/
import Derived.Test.YtjkgmpkgfhhaiaaGreatK18
set_option linter.all false
namespace Tk
open Go Go.Sx Go.Proofs
open Q
variable [Syms]
theorem cntC_le {g:Nat->By}:∀(r k:Nat) (W:List Nat),W.length<=(cntC g r k W).length/\(k<=W.length->k+r<=(cntC g r k W).length)
 |0,k,W=>⟨Nat.le_refl _,fun h=>h⟩
 |r+1,k,W=>by
  have h:=cntC_le (g:=g) r (k+1) (mcS W k (g k).length)
  have h1:W.length<=(mcS W k (g k).length).length:=by
   rw[mcS_len];unfold mcA;cases Nat.ble W.length k<;>simp
  refine⟨Nat.le_trans h1 h.1,fun hk=>?_⟩
  have h2:=h.2 (by rw[mcS_len];exact(mcA_len hk).1)
  show k+(r+1)<=(cntC g r (k+1) (mcS W k (g k).length)).length
  omega
theorem cntR_le {rn:Nat->Nat} {rc:Nat->Nat->By}:∀(r q:Nat) (W:List Nat),W.length<=(cntR rn rc r q W).length/\∀p,q<=p->p<q+r->rn p<=(cntR rn rc r q W).length
 |0,q,W=>⟨Nat.le_refl _,fun p h1 h2=>by omega⟩
 |r+1,q,W=>by
  have h:=cntR_le (rn:=rn) (rc:=rc) r (q+1) (cntC (rc q) (rn q) 0 W)
  have h1:=cntC_le (g:=rc q) (rn q) 0 W
  refine⟨Nat.le_trans h1.1 h.1,fun p h2 h3=>?_⟩
  by_cases e:p=q
  ·subst e
   have:=h1.2 (Nat.zero_le _)
   rw[Nat.zero_add] at this
   exact Nat.le_trans this h.1
  ·exact h.2 p (by omega) (by omega)
theorem cnt_ge {rn:Nat->Nat} {rc:Nat->Nat->By} {m q:Nat} (h:q<m):rn q<=(cnt rn rc m).length:=(cntR_le m 0 []).2 q (Nat.zero_le _) (by omega)
theorem cntR_len {rn:Nat->Nat} {rc:Nat->Nat->By} (hn:∀q,rn q<=12):∀(r q:Nat) (W:List Nat),W.length<=12->(cntR rn rc r q W).length<=12
 |0,_,_,h=>h
 |r+1,q,W,h=>cntR_len hn r (q+1) _ (cntC_len _ _ _ (Nat.zero_le _) h (by have:=hn q;omega))
theorem cnt_len {rn:Nat->Nat} {rc:Nat->Nat->By} {m:Nat} (hn:∀q,rn q<=12):(cnt rn rc m).length<=12:=cntR_len hn _ _ _ (by simp)
def Q.wdOk (n:Nat) (W:List Nat):Prop:=∀k,wd W k<=n
theorem mcS_ok {n:Nat} {W:List Nat} {k c:Nat} (h:wdOk n W) (hc:c<=n) (h1:1<=n) (hk:k<=W.length):wdOk n (mcS W k c):=by
 intro i
 have hA:∀i,wd (mcA W k) i<=n:=fun i=>by
  unfold mcA
  cases Nat.ble W.length k with
  |false=>exact h i
  |true=>
   rw[cond_true]
   by_cases g:i<W.length
   ·rw[wdA g];exact h i
   ·by_cases g2:i=W.length
    ·subst g2;rw[wdL];exact h1
    ·unfold wd;rw[List.getD_eq_getElem?_getD,List.getElem?_eq_none (by simp;omega)];exact Nat.zero_le _
 unfold mcS
 cases Nat.blt (wd (mcA W k) k) c with
 |false=>exact hA i
 |true=>
  rw[cond_true]
  by_cases g:i=k
  ·subst g;rw[wdS (mcA_len hk).1];exact hc
  ·rw[wdN g];exact hA i
theorem cntC_ok {n:Nat} {g:Nat->By} (hg:∀k,(g k).length<=n) (h1:1<=n):∀(r k:Nat) (W:List Nat),k<=W.length->wdOk n W->wdOk n (cntC g r k W)
 |0,_,_,_,h=>h
 |r+1,k,W,hk,h=>cntC_ok hg h1 r (k+1) _ (by rw[mcS_len];exact(mcA_len hk).1) (mcS_ok h (hg k) h1 hk)
theorem cntR_ok {n:Nat} {rn:Nat->Nat} {rc:Nat->Nat->By} (hg:∀q k,(rc q k).length<=n) (h1:1<=n):∀(r q:Nat) (W:List Nat),wdOk n W->wdOk n (cntR rn rc r q W)
 |0,_,_,h=>h
 |r+1,q,W,h=>cntR_ok hg h1 r (q+1) _ (cntC_ok (hg q) h1 _ _ _ (Nat.zero_le _) h)
theorem cnt_ok {n:Nat} {rn:Nat->Nat} {rc:Nat->Nat->By} {m:Nat} (hg:∀q k,(rc q k).length<=n) (h1:1<=n):wdOk n (cnt rn rc m):=cntR_ok hg h1 _ _ _ (fun k=>by simp[wd])
def Q.fc (rn:Nat->Nat) (rc:Nat->Nat->By) (q c:Nat):By:=cond (Nat.blt c (rn q)) (rc q c) []
def frowA (rn:Nat->Nat) (rc:Nat->Nat->By) (w q i:Nat):AVal:=.ite (Nat.blt i q) (.fam (fun c=>.by_ (fc rn rc i c)) w) (.famx (fun c=>.by_ (rc i c)) (rn i))
theorem SubA.ite2 {p:Nat} {c:Bool} {a b a' b':AVal} (h:c=true->SubA p a a') (h':c=false->SubA p b b'):SubA p (.ite c a b) (.ite c a' b'):=fun ι ι' v hle hd=>by
 cases hd with
 |ite h1 h2=>exact .ite (fun e=>h e ι ι' v hle (h1 e)) (fun e=>h' e ι ι' v hle (h2 e))
theorem SubA.toIte {p:Nat} {c:Bool} {a x y:AVal} (h:c=true->SubA p a x) (h':c=false->SubA p a y):SubA p a (.ite c x y):=fun ι ι' v hle hd=>.ite (fun e=>h e ι ι' v hle hd) (fun e=>h' e ι ι' v hle hd)
theorem SubA.famx_fam {p:Nat} {f f':Nat->AVal} {n:Nat} (h:∀k,k<n->SubA p (f k) (f' k)):SubA p (.famx f n) (.fam f' n):=fun ι ι' v hle hd=>by
 cases hd with
 |famx hd=>exact SubA.fam h ι ι' _ hle hd
variable {rn:Nat->Nat} {rc:Nat->Nat->By} {w m q:Nat}
theorem fc_in {c:Nat} (h:c<rn q):fc rn rc q c=rc q c:=by unfold fc;rw[blt_iff.2 h];rfl
theorem fc_out {c:Nat} (h:rn q<=c):fc rn rc q c=[]:=by unfold fc;rw[blt_iff'.2 (by omega)];rfl
theorem fc_len {c n:Nat} (h:(rc q c).length<=n):(fc rn rc q c).length<=n:=by unfold fc;cases Nat.blt c (rn q)<;>simp[h]
theorem fc_wt {c:Nat} (h:WT (rc q c)):WT (fc rn rc q c):=by
 unfold fc;cases Nat.blt c (rn q)
 ·exact fun b hb=>by cases hb
 ·exact h
theorem fcSub {p n:Nat}:∀k,k<n->SubA p (AVal.by_ (fc rn rc q k)) (AVal.by_ (fc rn rc q k)):=fun _ _=>byA
theorem fcSubX {p:Nat}:∀k,k<rn q->SubA p (AVal.by_ (rc q k)) (AVal.by_ (fc rn rc q k)):=fun k hk=>by rw[fc_in hk];exact byA
theorem frow_refl {us:List (Nat×AVal)}:SubF (frowA rn rc w q) (frowA rn rc w q) m us:=fun i _ _=>SubA.ite2 (fun _=>SubA.fam fcSub) (fun _=>SubA.famx fun _ _=>byA)
theorem frow_0:SubF (fun i=>AVal.famx (fun c=>.by_ (rc i c)) (rn i)) (frowA rn rc w 0) m []:=fun i _ _=>SubA.toIte (fun e=>absurd (blt_iff.1 e) (by omega)) (fun _=>SubA.famx fun _ _=>byA)
theorem frow_end:SubF (frowA rn rc w m) (fun i=>AVal.fam (fun c=>.by_ (fc rn rc i c)) w) m []:=fun i hi _=>iteA (blt_iff.2 hi) (SubA.fam fcSub)
theorem frow_s0 (h:rn q=w):SubF (frowA rn rc w q) (frowA rn rc w (q+1)) m []:=fun i hi _=>by
 refine SubA.toIte (fun e=>?_) (fun e=>?_)
 ·have e:=blt_iff.1 e
  by_cases g:i<q
  ·exact iteA (blt_iff.2 g) (SubA.fam fcSub)
  ·have:i=q:=by omega
   subst this
   refine iteB (blt_iff'.2 (Nat.le_refl _)) ?_
   rw[←h]
   exact SubA.famx_fam fcSubX
 ·have e:=blt_iff'.1 e
  exact iteB (blt_iff'.2 (by omega)) (SubA.famx fun _ _=>byA)
theorem frow_s {v:AVal}:SubF (frowA rn rc w q) (frowA rn rc w (q+1)) m [(q,v)]:=fun i hi hu=>by
 have hne:i≠q:=notIn_ne hu _ (List.mem_singleton.2 rfl)
 refine SubA.toIte (fun e=>?_) (fun e=>?_)
 ·have e:=blt_iff.1 e
  exact iteA (blt_iff.2 (by omega)) (SubA.fam fcSub)
 ·have e:=blt_iff'.1 e
  exact iteB (blt_iff'.2 (by omega)) (SubA.famx fun _ _=>byA)
def TD.wp (T:TD) (p:By):TD:={T with pad:=p}
def litN:AVal->Nat
 | .lit (.int _ (Int.ofNat n))=>n
 |_=>0
theorem litN_cast {k:IntKind} {n:Nat}:litN (.lit (.int k (n:Nat)))=n:=rfl
theorem byOf_by {l:By}:byOf (.by_ l)=l:=rfl
def Q.pd1 (p:By):By:=cond (eqL p padA||eqL p padM) [32] []
def Q.pdF (p:By) (n:Nat):By:=cond (eqL p padA) (List.replicate n 32) []
def Q.celT (p:By) (w:Nat) (g:By):By:=pd1 p++g++pdF p (w-g.length)++pd1 p++[124]
def Q.bar0 (k:Nat):By:=cond (Nat.beq k 0) [124] []
def Q.rowT (p:By) (W:Nat->Nat) (g:Nat->By):Nat->By
 |0=>[]
 |k+1=>rowT p W g k++(bar0 k++celT p (W k) (g k))
def Q.undT (p:By) (W:Nat->Nat):Nat->By
 |0=>[]
 |k+1=>undT p W k++(bar0 k++[45]++cond (eqL p padA) (List.replicate (W k) 45) [45]++[45,124])
def Q.bdyT (p:By) (W:Nat->Nat) (w:Nat) (f:Nat->Nat->By):Nat->By
 |0=>[]
 |k+1=>bdyT p W w f k++(rowT p W (f (k+1)) w++[10])
def Q.tabT (p:By) (W:Nat->Nat) (w:Nat) (f:Nat->Nat->By) (m:Nat):By:=[10,10]++rowT p W (f 0) w++[10]++undT p W w++[10]++bdyT p W w f (m-1)++[10,10]
theorem pd1_len {p:By}:(pd1 p).length<=1:=by unfold pd1;cases eqL p padA||eqL p padM<;>simp
theorem pdF_len {p:By} {n:Nat}:(pdF p n).length<=n:=by unfold pdF;cases eqL p padA<;>simp
theorem celT_len {p:By} {w:Nat} {g:By}:(celT p w g).length<=w+g.length+3:=by
 have h1:=pd1_len (p:=p)
 have h2:=pdF_len (p:=p) (n:=w-g.length)
 unfold celT;simp only[List.length_append,List.length_cons,List.length_nil];omega
theorem bar0_len {k:Nat}:(bar0 k).length<=1:=by unfold bar0;cases Nat.beq k 0<;>simp
def Q.fits (n:Nat) (l:By):Prop:=l.length+n<=bufMax
def maxC:Nat:=2147483647
theorem rowT_len {p:By} {W:Nat->Nat} {g:Nat->By} (hW:∀k,W k<=maxC) (hg:∀k,(g k).length<=maxC):∀k,(rowT p W g k).length<=k*4294967300
 |0=>by simp[rowT]
 |k+1=>by
  have h:=rowT_len (p:=p) hW hg k
  have h1:=celT_len (p:=p) (w:=W k) (g:=g k)
  have h2:=hW k
  have h3:=hg k
  have h4:=bar0_len (k:=k)
  simp only[maxC] at h2 h3
  rw[Nat.succ_mul]
  simp only[rowT,List.length_append];omega
theorem undT_len {p:By} {W:Nat->Nat} (hW:∀k,W k<=maxC):∀k,(undT p W k).length<=k*4294967300
 |0=>by simp[undT]
 |k+1=>by
  have h:=undT_len (p:=p) hW k
  have h2:=hW k
  have h4:=bar0_len (k:=k)
  simp only[maxC] at h2
  have h5:(cond (eqL p padA) (List.replicate (W k) (45:UInt8)) [45]).length<=W k+1:=by cases eqL p padA<;>simp
  rw[Nat.succ_mul]
  simp only[undT,List.length_append,List.length_cons,List.length_nil];omega
theorem bdyT_len {p:By} {W:Nat->Nat} {w:Nat} {f:Nat->Nat->By} (hW:∀k,W k<=maxC) (hg:∀q k,(f q k).length<=maxC) (hw:w<=12):∀k,(bdyT p W w f k).length<=k*51539607601
 |0=>by simp[bdyT]
 |k+1=>by
  have h:=bdyT_len (p:=p) hW hg hw k
  have h1:=rowT_len (p:=p) hW (hg (k+1)) w
  have h2:w*4294967300<=12*4294967300:=Nat.mul_le_mul_right _ hw
  rw[Nat.succ_mul]
  simp only[bdyT,List.length_append,List.length_cons,List.length_nil];omega
end Tk
namespace Tk
open Go Go.Sx Go.Proofs
open Q
variable [Syms]
def Q.catT (T:TD) (i:Nat):Nat->By
 |0=>[]
 |k+1=>catT T i k++T.tx i k
def Q.rowF (T:TD) (i:Nat):By:=[10,10]++catT T i (T.C i)++[10,10]
def Q.rowsF (T:TD):Nat->By
 |0=>[]
 |i+1=>rowsF T i++rowF T i
def Q.fbF (T:TD):By:=[10,10]++rowsF T T.R++[10,10]
def Q.tabF (T:TD):By:=tabT T.pad (wd (cnt (finR T).1 (finR T).2.1 (finR T).2.2.1)) (cnt (finR T).1 (finR T).2.1 (finR T).2.2.1).length (fc (finR T).1 (finR T).2.1) (finR T).2.2.1
def Q.docF (T:TD):By:=cond (allE (rn T) (rc T) (nR T)) (fbF T) (tabF T)
theorem catT_len {T:TD} (hT:T.Ok) (i:Nat):∀k,(catT T i k).length<=k*2147483647
 |0=>by simp[catT]
 |k+1=>by
  have h:=catT_len hT i k
  have h1:=hT.l i k
  rw[Nat.succ_mul];simp only[catT,List.length_append];omega
theorem rowF_len {T:TD} (hT:T.Ok) (i:Nat):(rowF T i).length<=25769803768:=by
 have h:=catT_len hT i (T.C i)
 have h1:T.C i*2147483647<=12*2147483647:=Nat.mul_le_mul_right _ (hT.c2 i)
 simp only[rowF,List.length_append,List.length_cons,List.length_nil];omega
theorem rowsF_len {T:TD} (hT:T.Ok):∀k,(rowsF T k).length<=k*25769803768
 |0=>by simp[rowsF]
 |k+1=>by
  have h:=rowsF_len hT k
  have h1:=rowF_len hT k
  rw[Nat.succ_mul];simp only[rowsF,List.length_append];omega
def Q.dch (c:UInt8):Prop:=c.toNat=10\/(32<=c.toNat/\c.toNat<128)
def Q.DT (l:By):Prop:=∀b∈l,dch b
theorem DT.nil:DT []:=fun b h=>by cases h
theorem DT.app {a b:By} (ha:DT a) (hb:DT b):DT (a++b):=fun c h=>by
 rcases List.mem_append.1 h with h|h
 ·exact ha c h
 ·exact hb c h
theorem DT.one {c:UInt8} (h:dch c):DT [c]:=fun b hb=>by rw[List.mem_singleton.1 hb];exact h
theorem DT.two {c d:UInt8} (h:dch c) (h':dch d):DT [c,d]:=DT.app (DT.one h) (DT.one h')
theorem DT.rep {c:UInt8} {n:Nat} (h:dch c):DT (List.replicate n c):=fun b hb=>by rw[(List.mem_replicate.1 hb).2];exact h
theorem DT.cond {c:Bool} {a b:By} (ha:DT a) (hb:DT b):DT (cond c a b):=by
 cases c
 ·exact hb
 ·exact ha
theorem DT.wt {l:By} (h:WT l):DT l:=fun b hb=>by have:=h b hb;unfold wc at this;unfold dch;omega
theorem d10:dch 10:=.inl rfl
theorem d32:dch 32:=.inr ⟨by decide,by decide⟩
theorem d45:dch 45:=.inr ⟨by decide,by decide⟩
theorem d124:dch 124:=.inr ⟨by decide,by decide⟩
theorem rowT_dt {p:By} {W:Nat->Nat} {g:Nat->By} (h:∀k,DT (g k)):∀k,DT (rowT p W g k)
 |0=>DT.nil
 |k+1=>DT.app (rowT_dt h k) (DT.app (DT.cond (DT.one d124) DT.nil) (DT.app (DT.app (DT.app (DT.app (DT.cond (DT.one d32) DT.nil) (h k)) (DT.cond (DT.rep d32) DT.nil)) (DT.cond (DT.one d32) DT.nil)) (DT.one d124)))
theorem undT_dt {p:By} {W:Nat->Nat}:∀k,DT (undT p W k)
 |0=>DT.nil
 |k+1=>DT.app (undT_dt k) (DT.app (DT.app (DT.app (DT.cond (DT.one d124) DT.nil) (DT.one d45)) (DT.cond (DT.rep d45) (DT.one d45))) (DT.two d45 d124))
theorem bdyT_dt {p:By} {W:Nat->Nat} {w:Nat} {f:Nat->Nat->By} (h:∀q k,DT (f q k)):∀k,DT (bdyT p W w f k)
 |0=>DT.nil
 |k+1=>DT.app (bdyT_dt h k) (DT.app (rowT_dt (h _) w) (DT.one d10))
theorem nn_dt:DT [10,10]:=DT.two d10 d10
theorem tabT_dt {p:By} {W:Nat->Nat} {w m:Nat} {f:Nat->Nat->By} (h:∀q k,DT (f q k)):DT (tabT p W w f m):=
 DT.app (DT.app (DT.app (DT.app (DT.app (DT.app nn_dt (rowT_dt (h 0) w)) (DT.one d10)) (undT_dt w)) (DT.one d10)) (bdyT_dt h _)) nn_dt
theorem catT_dt {T:TD} (hT:T.Ok) (i:Nat):∀k,DT (catT T i k)
 |0=>DT.nil
 |k+1=>DT.app (catT_dt hT i k) (DT.wt (wt_words (hT.w i k)))
theorem rowF_dt {T:TD} (hT:T.Ok) (i:Nat):DT (rowF T i):=DT.app (DT.app nn_dt (catT_dt hT i _)) nn_dt
theorem rowsF_dt {T:TD} (hT:T.Ok):∀k,DT (rowsF T k)
 |0=>DT.nil
 |k+1=>DT.app (rowsF_dt hT k) (rowF_dt hT k)
theorem docF_dt {T:TD} (hT:T.Ok):DT (docF T):=by
 unfold docF
 refine DT.cond (DT.app (DT.app nn_dt (rowsF_dt hT _)) nn_dt) (tabT_dt fun q k=>DT.wt (fc_wt ((finR_ok hT).1 q k).1))
theorem docF_len {T:TD} (hT:T.Ok):(docF T).length<=773094114020:=by
 unfold docF
 cases allE (rn T) (rc T) (nR T) with
 |true=>
  have cl:=rowsF_len hT T.R
  have cr:T.R*25769803768<=13*25769803768:=Nat.mul_le_mul_right _ hT.r2
  simp only[cond_true,fbF,List.length_append,List.length_cons,List.length_nil];omega
 |false=>
  have hr:=finR_ok hT
  have hW:∀k,wd (cnt (finR T).1 (finR T).2.1 (finR T).2.2.1) k<=maxC:=cnt_ok (fun q k=>(hr.1 q k).2) (by simp[maxC])
  have hw:=cnt_len (rc:=(finR T).2.1) (m:=(finR T).2.2.1) hr.2.1
  have hg:∀q k,(fc (finR T).1 (finR T).2.1 q k).length<=maxC:=fun q k=>fc_len (hr.1 q k).2
  have h1:=rowT_len (p:=T.pad) hW (hg 0) (cnt (finR T).1 (finR T).2.1 (finR T).2.2.1).length
  have h2:=undT_len (p:=T.pad) hW (cnt (finR T).1 (finR T).2.1 (finR T).2.2.1).length
  have h3:(cnt (finR T).1 (finR T).2.1 (finR T).2.2.1).length*4294967300<=12*4294967300:=Nat.mul_le_mul_right _ hw
  have h4:=bdyT_len (p:=T.pad) hW hg hw ((finR T).2.2.1-1)
  have h5:((finR T).2.2.1-1)*51539607601<=13*51539607601:=Nat.mul_le_mul_right _ (by have:=hr.2.2.1;omega)
  simp only[cond_false,tabF,tabT,List.length_append,List.length_cons,List.length_nil];omega
theorem trim_dt {l:By} (h:DT l):DT (trim l):=fun b hb=>h b (trim_mem hb)
theorem rpL_dt {l old new:By} (hl:DT l) (hn:DT new):∀(n i:Nat) (out:By),DT out->DT (rpL l old new n i out)
 |0,_,_,h=>h
 |n+1,i,out,h=>by
  simp only[rpL]
  by_cases g:i<l.length
  ·rw[blt_iff.2 g,cond_true]
   exact DT.cond (rpL_dt hl hn n _ _ (DT.app h hn)) (rpL_dt hl hn n _ _ (DT.app h (DT.one (hl _ (getD_mem g)))))
  ·rw[blt_iff'.2 (by omega),cond_false];exact h
theorem rpF_dt {l old new:By} (hl:DT l) (hn:DT new):DT (rpF l old new):=rpL_dt hl hn _ _ _ DT.nil
theorem rpL_len {l old new:By} (hn:new.length<=old.length):∀(n i:Nat) (out:By),(rpL l old new n i out).length<=out.length+(l.length-i)
 |0,_,_=>by simp[rpL]
 |n+1,i,out=>by
  simp only[rpL]
  by_cases g:i<l.length
  ·rw[blt_iff.2 g,cond_true]
   cases hc:(Nat.ble (i+old.length) l.length&&eqL ((l.take (i+old.length)).drop i) old) with
   |true=>
    have h1:=leB_iff.1 (Bool.and_eq_true _ _▸hc).1
    have:=rpL_len (l:=l) hn n (i+old.length) (out++new)
    rw[List.length_append] at this
    rw[cond_true];omega
   |false=>
    have:=rpL_len (l:=l) hn n (i+1) (out++[l.getD i 0])
    rw[List.length_append,List.length_singleton] at this
    rw[cond_false];omega
  ·rw[blt_iff'.2 (by omega),cond_false];omega
theorem rpF_len {l old new:By} (hn:new.length<=old.length):(rpF l old new).length<=l.length:=by
 have:=rpL_len (l:=l) hn l.length 0 []
 simpa[rpF] using this
theorem tcn_inv (P:UInt8->Prop) (h10:P 10) (h32:P 32):∀(l:By) (s:Nat×By×By),(∀b∈l,P b)->(∀b∈s.2.1,P b)->(∀b∈s.2.2,P b)->(∀b∈(l.foldl step s).2.1,P b)/\(∀b∈(l.foldl step s).2.2,P b)/\(l.foldl step s).2.1.length+(l.foldl step s).2.2.length<=s.2.1.length+s.2.2.length+l.length
 |[],s,_,h1,h2=>⟨h1,h2,by simp⟩
 |c::l,s,hl,h1,h2=>by
  rw[List.foldl_cons]
  have hc:P c:=hl c (by simp)
  have key:(∀b∈(step s c).2.1,P b)/\(∀b∈(step s c).2.2,P b)/\(step s c).2.1.length+(step s c).2.2.length<=s.2.1.length+s.2.2.length+1:=by
   unfold step
   have hmem:∀x:UInt8,P x->∀b∈s.2.2++s.2.1++[x],P b:=fun x hx b hb=>by
    simp only[List.mem_append,List.mem_singleton] at hb
    rcases hb with(hb|hb)|hb
    ·exact h2 b hb
    ·exact h1 b hb
    ·rw[hb];exact hx
   split
   ·refine⟨fun b hb=>(by cases hb),?_,?_⟩
    ·show ∀b∈(if s.1+1<=2 then s.2.2++s.2.1++[10] else s.2.2),P b
     split
     ·exact hmem 10 h10
     ·exact h2
    ·show([]:By).length+(if s.1+1<=2 then s.2.2++s.2.1++[10] else s.2.2).length<=_
     split
     ·simp;omega
     ·simp;omega
   ·split
    ·refine⟨fun b hb=>?_,h2,by simp;omega⟩
     simp only[List.mem_append,List.mem_singleton] at hb
     rcases hb with hb|hb
     ·exact h1 b hb
     ·rw[hb];exact h32
    ·exact⟨fun b hb=>(by cases hb),hmem c hc,by simp;omega⟩
  obtain⟨k1,k2,k3⟩:=key
  obtain⟨r1,r2,r3⟩:=tcn_inv P h10 h32 l (step s c) (fun b hb=>hl b (by simp[hb])) k1 k2
  exact⟨r1,r2,by simp only[List.length_cons];omega⟩
theorem tcF_dt {l:By} (h:DT l):DT (tcF l):=by
 obtain⟨h1,h2,_⟩:=tcn_inv dch d10 d32 l (0,[],[]) h (fun b hb=>by cases hb) (fun b hb=>by cases hb)
 exact DT.app h2 h1
theorem tcF_len {l:By}:(tcF l).length<=l.length:=by
 obtain⟨_,_,h⟩:=tcn_inv (fun _=>True) trivial trivial l (0,[],[]) (fun _ _=>trivial) (fun _ _=>trivial) (fun _ _=>trivial)
 show((l.foldl step (0,[],[])).2.2++(l.foldl step (0,[],[])).2.1).length<=_
 rw[List.length_append];simp at h;omega
theorem DT.b128 {l:By} (h:DT l):∀b∈l,b.toNat<128:=fun b hb=>by have:=h b hb;unfold dch at this;omega
theorem DT.n7 {l:By} (h:DT l):∀b∈l,b.toNat≠7:=fun b hb=>by have:=h b hb;unfold dch at this;omega
end Tk
