/- Lemmas of this claim; the last text says what is proved. -/
import Derived.Test.YtjkgmpkgfhhaiaaGreatK15
set_option linter.all false
set_option maxRecDepth 1000000
namespace Tk
open Go Go.Sx Go.Proofs
open Q
variable [Syms]
def Q.spB (c:UInt8):Bool:= !(Nat.beq (Syms.gf 0 c.toNat).toNat 0)
def Q.trim (l:By):By:=((l.dropWhile spB).reverse.dropWhile spB).reverse
theorem dropWhile_at {p:UInt8->Bool}:∀{l:By} {a:Nat} (h:∀k,k<a->p (l.getD k 0)=true) (ha:a<l.length) (hn:p (l.getD a 0)=false),l.dropWhile p=l.drop a
 |[],a,_,ha,_=>by simp at ha
 |c::l,0,_,_,hn=>by
  have hn:p c=false:=by simpa using hn
  simp[List.dropWhile_cons,hn]
 |c::l,a+1,h,ha,hn=>by
  have h0:p c=true:=by simpa using h 0 (by omega)
  rw[List.dropWhile_cons,if_pos h0,List.drop_succ_cons]
  exact dropWhile_at (fun k hk=>by simpa using h (k+1) (by omega)) (by simpa using ha) (by simpa using hn)
theorem dropWhile_all {p:UInt8->Bool}:∀{l:By} (h:∀k,k<l.length->p (l.getD k 0)=true),l.dropWhile p=[]
 |[],_=>rfl
 |c::l,h=>by
  have h0:p c=true:=by simpa using h 0 (by simp)
  rw[List.dropWhile_cons,if_pos h0]
  exact dropWhile_all (fun k hk=>by simpa using h (k+1) (by simpa using hk))
theorem trim_nil {l:By} (h:∀k,k<l.length->spB (l.getD k 0)=true):trim l=[]:=by
 unfold trim;rw[dropWhile_all h];rfl
theorem getD_rev {l:By} {k:Nat} (h:k<l.length):l.reverse.getD k 0=l.getD (l.length-1-k) 0:=by
 rw[List.getD_eq_getElem?_getD,List.getD_eq_getElem?_getD,List.getElem?_reverse h]
theorem trim_at {l:By} {a b:Nat} (h:∀k,k<a->spB (l.getD k 0)=true) (hn:spB (l.getD a 0)=false) (hb:b<=l.length) (hab:a<b) (h2:∀k,b<=k->k<l.length->spB (l.getD k 0)=true) (hn2:spB (l.getD (b-1) 0)=false):trim l=(l.drop a).take (b-a):=by
 unfold trim
 rw[dropWhile_at h (by omega) hn]
 have hlen:(l.drop a).reverse.length=l.length-a:=by simp
 have hg:∀k,k<l.length-a->(l.drop a).reverse.getD k 0=l.getD (l.length-1-k) 0:=fun k hk=>by
  rw[getD_rev (by simpa using hk),List.length_drop,List.getD_eq_getElem?_getD,List.getElem?_drop,List.getD_eq_getElem?_getD]
  congr 2;omega
 have e0:l.length-1-(l.length-b)=b-1:=by omega
 rw[dropWhile_at (a:=l.length-b) (fun k hk=>by rw[hg k (by omega)];exact h2 _ (by omega) (by omega)) (by omega) (by rw[hg _ (by omega),e0];exact hn2)]
 rw[List.drop_reverse,List.reverse_reverse,List.length_drop]
 congr 1;omega
def Q.rpL (l old new:By):Nat->Nat->By->By
 |0,_,out=>out
 |n+1,i,out=>cond (Nat.blt i l.length) (cond (Nat.ble (i+old.length) l.length&&eqL ((l.take (i+old.length)).drop i) old) (rpL l old new n (i+old.length) (out++new)) (rpL l old new n (i+1) (out++[l.getD i 0]))) out
def Q.rpF (l old new:By):By:=rpL l old new l.length 0 []
theorem rpL_end {l old new:By} {n i:Nat} {out:By} (h:l.length<=i):rpL l old new n i out=out:=by
 cases n with
 |zero=>rfl
 |succ n=>simp only[rpL,blt_iff'.2 h,cond_false]
theorem rpL_step {l old new:By} {n i:Nat} {out:By} (h:i<l.length) (hn:l.length<=i+n):∃m,n=m+1/\rpL l old new n i out=cond (Nat.ble (i+old.length) l.length&&eqL ((l.take (i+old.length)).drop i) old) (rpL l old new m (i+old.length) (out++new)) (rpL l old new m (i+1) (out++[l.getD i 0])):=by
 cases n with
 |zero=>omega
 |succ n=>exact⟨n,rfl,by simp only[rpL,blt_iff.2 h,cond_true]⟩
def Q.rpI (l old new:By) (i:Nat) (out:By):Prop:=i<=l.length/\out.length<=i/\∃n,l.length<=i+n/\rpL l old new n i out=rpF l old new
theorem rpI_0 {l old new:By}:rpI l old new 0 []:=⟨Nat.zero_le _,Nat.le_refl _,l.length,by omega,rfl⟩
theorem rpI_end {l old new:By} {i:Nat} {out:By} (h:rpI l old new i out) (hi:l.length<=i):out=rpF l old new:=by
 obtain⟨_,_,n,_,e⟩:=h
 rw[rpL_end hi] at e;exact e
theorem rpI_y {l old new:By} {i:Nat} {out:By} (h:rpI l old new i out) (hi:i+old.length<=l.length) (ho:0<old.length) (hno:new.length<=old.length) (he:eqL ((l.take (i+old.length)).drop i) old=true):rpI l old new (i+old.length) (out++new):=by
 obtain⟨h1,h2,n,hn,e⟩:=h
 obtain⟨m,rfl,e2⟩:=rpL_step (old:=old) (new:=new) (out:=out) (show i<l.length by omega) hn
 rw[e2,leB_iff.2 hi,he,Bool.and_self,cond_true] at e
 exact⟨hi,by simp;omega,m,by omega,e⟩
theorem rpI_n {l old new:By} {i:Nat} {out:By} (h:rpI l old new i out) (hi:i<l.length) (he:i+old.length<=l.length->eqL ((l.take (i+old.length)).drop i) old=false):rpI l old new (i+1) (out++[l.getD i 0]):=by
 obtain⟨h1,h2,n,hn,e⟩:=h
 obtain⟨m,rfl,e2⟩:=rpL_step (old:=old) (new:=new) (out:=out) hi hn
 have hc:(Nat.ble (i+old.length) l.length&&eqL ((l.take (i+old.length)).drop i) old)=false:=by
  by_cases h:i+old.length<=l.length
  ·rw[he h,Bool.and_false]
  ·rw[leB_iff'.2 (by omega),Bool.false_and]
 rw[e2,hc,cond_false] at e
 exact⟨by omega,by simp;omega,m,by omega,e⟩
theorem LoopD.bodyHj {P:Program} {D:LoopD} {ft:FuncId->Option Func} {T:Tabs} {LT:D.J->List (List Nat×LSpec)} {root:Code} (p:List Nat) (hft:FtOk P ft) (htab:TabOk P T) (hLT:∀j,D.side j->LTok D.p P root (LT j)) (n:Nat)
 (h:∀j,D.side j->Ho (exW P ft T (LT j) n root p (sub root p) (D.fr j) (D.hp j) (D.K j))):D.Body P (sub root p):=fun j hj=>exW_ok hft htab (hLT j hj) n (h j hj).out rfl
theorem spB_t {c:UInt8}:spB c=true↔(Syms.gf 0 c.toNat).toNat≠0:=by
 unfold spB;cases h:Nat.beq (Syms.gf 0 c.toNat).toNat 0
 ·simpa using fun e=>by rw[e] at h;cases h
 ·simpa using Nat.eq_of_beq_eq_true h
theorem spB_f {c:UInt8}:spB c=false↔(Syms.gf 0 c.toNat).toNat=0:=by
 rw[←Bool.not_eq_true,spB_t];simp
def Q.trK (l:By) (i:Nat):Prop:=i<=l.length/\∀k,k<i->spB (l.getD k 0)=true
def Q.trJ (m:By) (k:Nat):Prop:=k<=m.length/\(∀i,k<=i->i<m.length->spB (m.getD i 0)=true)/\0<m.length/\spB (m.getD 0 0)=false
theorem trK_0 {l:By}:trK l 0:=⟨Nat.zero_le _,fun k h=>absurd h (by omega)⟩
theorem trK_s {l:By} {i:Nat} (h:trK l i) (hi:i<l.length) (hs:spB (l.getD i 0)=true):trK l (i+1):=⟨by omega,fun k hk=>by
 by_cases e:k=i
 ·rw[e];exact hs
 ·exact h.2 k (by omega)⟩
theorem trK_end {l:By} {i:Nat} (h:trK l i) (hi:l.length<=i):trim l=[]:=trim_nil fun k hk=>h.2 k (by omega)
theorem trJ_pos {m:By} {k:Nat} (h:trJ m k):0<k:=by
 cases k with
 |zero=>have:=h.2.1 0 (by omega) h.2.2.1;rw[h.2.2.2] at this;cases this
 |succ k=>omega
theorem trJ_s {m:By} {k:Nat} (h:trJ m (k+1)) (hs:spB (m.getD k 0)=true):trJ m k:=⟨by have:=h.1;omega,fun i h1 h2=>by
 by_cases e:i=k
 ·rw[e];exact hs
 ·exact h.2.1 i (by omega) h2,h.2.2⟩
theorem trJ_end {m:By} {k:Nat} (h:trJ m (k+1)) (hs:spB (m.getD k 0)=false):m.take (k+1)=trim m:=by
 rw[trim_at (a:=0) (b:=k+1) (fun k hk=>absurd hk (by omega)) h.2.2.2 h.1 (by omega) h.2.1 (by simpa using hs)];simp
theorem getD_drop {l:By} {i k:Nat}:(l.drop i).getD k 0=l.getD (i+k) 0:=by
 rw[List.getD_eq_getElem?_getD,List.getElem?_drop,List.getD_eq_getElem?_getD]
theorem trK_J {l:By} {i:Nat} (h:trK l i) (hi:i<l.length) (hs:spB (l.getD i 0)=false):trJ (l.drop i) (l.drop i).length:=⟨Nat.le_refl _,fun k h1 h2=>absurd h2 (by omega),by simp;omega,by rw[getD_drop];simpa using hs⟩
theorem trK_t {l:By} {i:Nat} (h:trK l i) (hi:i<l.length) (hs:spB (l.getD i 0)=false):trim (l.drop i)=trim l:=by
 unfold trim
 rw[dropWhile_at h.2 hi hs]
 have:(l.drop i).dropWhile spB=l.drop i:=by
  have:=dropWhile_at (p:=spB) (l:=l.drop i) (a:=0) (fun k hk=>absurd hk (by omega)) (by simp;omega) (by rw[getD_drop];simpa using hs)
  simpa using this
 rw[this]
theorem getD_mem:∀{l:By} {k:Nat} (_:k<l.length),l.getD k 0∈l
 |[],k,h=>by simp at h
 |c::l,0,_=>by simp
 |c::l,k+1,h=>by
  have:=getD_mem (l:=l) (k:=k) (by simpa using h)
  simpa using Or.inr this
theorem lenDrop {l:By} {i n:Nat} (h:l.length<=n):(l.drop i).length<=n:=by rw[List.length_drop];omega
theorem intE {n m:Nat}:((n:Int)==(m:Int))=true↔n=m:=by simp[Int.ofNat_inj]
theorem intF {n m:Nat}:((n:Int)==(m:Int))=false↔n≠m:=by rw[←Bool.not_eq_true,intE]
theorem intN {n m:Nat}:((n:Int)!=(m:Int))=true↔n≠m:=by simp[Int.ofNat_inj]
theorem intM {n m:Nat}:((n:Int)!=(m:Int))=false↔n=m:=by rw[←Bool.not_eq_true,intN];simp
theorem takeS:∀{l:By} {i:Nat} (_:i<l.length),l.take i++[l.getD i 0]=l.take (i+1)
 |[],i,h=>by simp at h
 |c::l,0,_=>by simp
 |c::l,i+1,h=>by
  have:=takeS (l:=l) (i:=i) (by simpa using h)
  rw[List.take_succ_cons,List.take_succ_cons,List.cons_append,List.getD_cons_succ,this]
theorem wrap32 {k:Int} (h0:0<=k) (h:k<2147483648):IntKind.wrap IntKind.i32 k=k:=by
 have h2:(2:Int) ^ 32=4294967296:=by decide
 have h3:(2:Int) ^ (32-1)=2147483648:=by decide
 simp only[IntKind.wrap,IntKind.bits,IntKind.signed,h2,h3,Bool.true_and,decide_eq_true_eq]
 have e:k % 4294967296=k:=by omega
 rw[e];split<;>omega
def Q.wc (c:UInt8):Prop:=c.toNat=32\/(48<=c.toNat/\c.toNat<=57)\/(65<=c.toNat/\c.toNat<=90)\/(97<=c.toNat/\c.toNat<=122)
def Q.WT (l:By):Prop:=∀b∈l,wc b
theorem mem_getD:∀{l:By} {b:UInt8} (_:b∈l),∃k,k<l.length/\l.getD k 0=b
 |c::l,b,h=>by
  rcases List.mem_cons.1 h with rfl|h
  ·exact⟨0,by simp,by simp⟩
  ·obtain⟨k,h1,h2⟩:=mem_getD h
   exact⟨k+1,by simpa using h1,by simpa using h2⟩
theorem wt_words {l:By} (h:Words l):WT l:=fun b hb=>by
 obtain⟨k,hk,rfl⟩:=mem_getD hb
 have:=h.at hk
 unfold wc;omega
def nrmN (D:LoopD) (m:Nat) (fr:Fr) (H:AHeap):List LoopD->Prop
 |[]=>False
 |E::r=>(∃j',E.side j'/\E.μ j'<m/\entA D.p fr H D.fn ⟨E.n,D.ros,D.st⟩ (E.s j') (E.b j') (E.d j'))\/nrmN D m fr H r
theorem nrmN_ok {D:LoopD} {m:Nat} {fr:Fr} {H:AHeap}:∀{l:List LoopD},nrmN D m fr H l->∃(i:Fin l.length) (j:(l.get i).J),(l.get i).side j/\(l.get i).μ j<m/\entA D.p fr H D.fn ⟨(l.get i).n,D.ros,D.st⟩ ((l.get i).s j) ((l.get i).b j) ((l.get i).d j)
 |E::r,h=>by
  rcases h with⟨j,h⟩|h
  ·exact⟨⟨0,by simp⟩,j,h⟩
  ·obtain⟨⟨i,hi⟩,j,h⟩:=nrmN_ok h
   exact⟨⟨i+1,by simpa using hi⟩,j,h⟩
def _root_.Go.Sx.LoopD.Kn (D:LoopD) (Es:List LoopD) (m:Nat):AExit->Fr->AHeap->Prop:=fun e fr H=>match e with
 | .normal=>nrmN D m fr H Es
 |e=>D.outs e fr H D.ways
def _root_.Go.Sx.LoopD.Bodyn (D:LoopD) (Es:List LoopD) (P:Program) (x:Code):Prop:=∀E∈Es,∀j,E.side j->WPw D.p P x (D.fr2 E j) (D.hp2 E j) (D.Kn Es (E.μ j))
theorem _root_.Go.Sx.LoopD.okn {D:LoopD} {Es:List LoopD} {P:Program} {x:Code} (h:D.Bodyn (D::Es) P x) {j:D.J} {fr:Fr} {H:AHeap} {K:AExit->Fr->AHeap->Prop} (hk:D.at j fr H K):WPw D.p P (.loop x) fr H K:=by
 obtain⟨h1,h2,h3⟩:=hk
 refine WPw.ent (entA_ok h2) ?_
 have key:=loopW (P:=P) (pn:=D.p) (J:=(i:Fin (D::Es).length)×((D::Es).get i).J) (fun j=>((D::Es).get j.1).side j.2) (fun j=>((D::Es).get j.1).μ j.2) (fun j=>D.fr2 ((D::Es).get j.1) j.2) (fun j=>D.hp2 ((D::Es).get j.1) j.2) (x:=x) (K:=fun e fr H=>D.outs e fr H D.ways) (fun j hj=>by
  have:=h _ (List.get_mem (D::Es) j.1) j.2 hj
  refine this.mono fun e fr H hK=>?_
  cases e with
  |normal=>
   obtain⟨i,j',a,b,c⟩:=nrmN_ok hK
   exact⟨⟨i,j'⟩,a,b,entA_ok c⟩
  |exit i=>exact hK
  |ret=>exact hK) ⟨⟨0,by simp⟩,j⟩ h1
 refine key.post fun e fr H hK=>?_
 obtain⟨W,hm,he,x,hx,hent⟩:=LoopD.outs_ok hK
 subst he
 exact⟨_,_,entA_ok hent,allW_out h3 W hm x hx⟩
theorem bodynH {P:Program} {D E:LoopD} {Es:List LoopD} {ft:FuncId->Option Func} {T:Tabs} {LT:List (List Nat×LSpec)} {root:Code} (p:List Nat) (hft:FtOk P ft) (htab:TabOk P T) (hLT:LTok D.p P root LT) (n:Nat)
 (h:∀j,E.side j->Ho (exW P ft T LT n root p (sub root p) (D.fr2 E j) (D.hp2 E j) (D.Kn Es (E.μ j)))):∀j,E.side j->WPw D.p P (sub root p) (D.fr2 E j) (D.hp2 E j) (D.Kn Es (E.μ j)):=
 fun j hj=>exW_ok hft htab hLT n (h j hj).out rfl
def Q.tcI (l:By) (i k:Nat) (s r:By):Prop:=i<=l.length/\k<=i/\r.length+s.length<=i/\(l.take i).foldl step (0,[],[])=(k,s,r)
def Q.tcF (l:By):By:=tcn l
theorem tcI_0 {l:By}:tcI l 0 0 [] []:=⟨Nat.zero_le _,Nat.le_refl _,Nat.le_refl _,by simp⟩
theorem tcI_n {l:By} {i k:Nat} {s r:By} (h:tcI l i k s r) (hi:i<l.length) (hc:(l.getD i 0).toNat=10):(k+1<=2->tcI l (i+1) (k+1) [] (r++s++[10]))/\(2<k+1->tcI l (i+1) (k+1) [] r):=by
 have e:l.getD i 0=10:=UInt8.toNat_inj.1 (by rw[hc];rfl)
 obtain⟨h1,h2,h3,h4⟩:=h
 have e2:(l.take (i+1)).foldl step (0,[],[])=step (k,s,r) 10:=by rw[←takeS hi,List.foldl_append,h4,e];rfl
 refine⟨fun g=>⟨hi,by omega,by simp;omega,?_⟩,fun g=>⟨hi,by omega,by simp;omega,?_⟩⟩
 ·rw[e2];simp only[step,if_true,if_pos g]
 ·rw[e2];simp only[step,if_true,if_neg (show ¬k+1<=2 by omega)]
theorem tcI_b {l:By} {i k:Nat} {s r:By} (h:tcI l i k s r) (hi:i<l.length) (hc:(l.getD i 0).toNat=32):tcI l (i+1) k (s++[32]) r:=by
 have e:l.getD i 0=32:=UInt8.toNat_inj.1 (by rw[hc];rfl)
 obtain⟨h1,h2,h3,h4⟩:=h
 have e2:(l.take (i+1)).foldl step (0,[],[])=step (k,s,r) 32:=by rw[←takeS hi,List.foldl_append,h4,e];rfl
 refine⟨hi,by omega,by simp;omega,?_⟩
 rw[e2];rfl
theorem tcI_c {l:By} {i k:Nat} {s r:By} (h:tcI l i k s r) (hi:i<l.length) (hc:(l.getD i 0).toNat≠10) (hd:(l.getD i 0).toNat≠32):tcI l (i+1) 0 [] (r++s++[l.getD i 0]):=by
 have e:¬l.getD i 0=10:=fun e=>hc (by rw[e];rfl)
 have e':¬l.getD i 0=32:=fun e=>hd (by rw[e];rfl)
 obtain⟨h1,h2,h3,h4⟩:=h
 have e2:(l.take (i+1)).foldl step (0,[],[])=step (k,s,r) (l.getD i 0):=by rw[←takeS hi,List.foldl_append,h4];rfl
 refine⟨hi,by omega,by simp;omega,?_⟩
 rw[e2];simp only[step,if_neg e,if_neg e']
theorem tcI_end {l:By} {i k:Nat} {s r:By} (h:tcI l i k s r) (hi:l.length<=i):r++s=tcF l:=by
 obtain⟨h1,h2,h3,h4⟩:=h
 unfold tcF tcn
 rw[←List.take_of_length_le hi,h4]
theorem nilL_t {l:By}:nilL l=true↔l=[]:=by cases l<;>simp[nilL]
theorem nilL_f {l:By}:nilL l=false↔l≠[]:=by cases l<;>simp[nilL]
theorem dropTake1 {l:By} {i:Nat} (h:i<l.length):(l.take (i+1)).drop i=[l.getD i 0]:=by
 have e:i=(l.take i).length:=by rw[List.length_take];omega
 rw[←takeS h,List.drop_append_of_le_length (by omega)]
 rw[List.drop_of_length_le (by omega),List.nil_append]
def Q.ct (T:TD) (i j:Nat):By:=trim (T.tx i j)
theorem trim_mem {l:By} {b:UInt8} (h:b∈trim l):b∈l:=by
 unfold trim at h
 rw[List.mem_reverse] at h
 have h1:=(List.dropWhile_suffix _).subset h
 rw[List.mem_reverse] at h1
 exact(List.dropWhile_suffix _).subset h1
theorem trim_len {l:By}:(trim l).length<=l.length:=by
 unfold trim
 rw[List.length_reverse]
 have h1:=(List.dropWhile_suffix spB (l:=(l.dropWhile spB).reverse)).length_le
 rw[List.length_reverse] at h1
 exact Nat.le_trans h1 (List.dropWhile_suffix spB).length_le
theorem trim_e:trim []=[]:=rfl
theorem rpL_id {l new r:By} (h:∀b∈l,b.toNat≠7):∀(n i:Nat),i<=l.length->l.length<=i+n->rpL l (7::r) new n i (l.take i)=l
 |0,i,h1,h2=>by rw[rpL,List.take_of_length_le (by omega)]
 |n+1,i,h1,h2=>by
  by_cases g:i<l.length
  ·have hc:(Nat.ble (i+(7::r).length) l.length&&eqL ((l.take (i+(7::r).length)).drop i) (7::r))=false:=by
    rw[Bool.and_eq_false_iff]
    by_cases g2:i+(7::r).length<=l.length
    ·right
     rw[eqL_eq,Bool.eq_false_iff]
     intro e
     have e:=eq_of_beq e
     have e3:l.getD i 0=7:=by
      have:=congrArg (fun x=>x.getD 0 (0:UInt8)) e
      simp only[List.getD_cons_zero,getD_drop,Nat.add_zero] at this
      rw[←this,List.getD_eq_getElem?_getD,List.getD_eq_getElem?_getD,List.getElem?_take_of_lt (by simp)]
     exact h _ (getD_mem g) (by rw[e3];rfl)
    ·left;exact leB_iff'.2 (by omega)
   rw[rpL,blt_iff.2 g,cond_true,hc,cond_false,takeS g]
   exact rpL_id h n (i+1) g (by omega)
  ·rw[rpL,blt_iff'.2 (by omega),cond_false,List.take_of_length_le (by omega)]
theorem rpF_id {l new r:By} (h:∀b∈l,b.toNat≠7):rpF l (7::r) new=l:=by
 have:=rpL_id (new:=new) (r:=r) h l.length 0 (Nat.zero_le _) (by omega)
 rwa [List.take_zero] at this
def swF:Nat->Nat:=fun k=>86+k
theorem ext81:ExtOk Tryz.prog 81 valueOfE:=⟨⟨Tryz.f81,by kernel_rfl,by kernel_rfl,by kernel_rfl,by kernel_rfl,by kernel_rfl⟩⟩
theorem ext82:ExtOk Tryz.prog 82 swapperE:=⟨⟨Tryz.f82,by kernel_rfl,by kernel_rfl,by kernel_rfl,by kernel_rfl,by kernel_rfl⟩⟩
theorem ext83:ExtOk Tryz.prog 83 lenE:=⟨⟨Tryz.f83,by kernel_rfl,by kernel_rfl,by kernel_rfl,by kernel_rfl,by kernel_rfl⟩⟩
theorem ext95:ExtOk Tryz.prog 95 swapE:=⟨⟨Tryz.f95,by kernel_rfl,by kernel_rfl,by kernel_rfl,by kernel_rfl,by kernel_rfl⟩⟩
theorem swFOk:SwOk Tryz.prog swF:=by
 rintro k (rfl|rfl|rfl)<;>kernel_rfl
theorem s81:SpecOk Tryz.prog 81 (valueOfA Tryz.prog):=valueOf_ok ext81
theorem s82:SpecOk Tryz.prog 82 (swapperA Tryz.prog swF):=swapper_ok ext82 swFOk
theorem s83:SpecOk Tryz.prog 83 (lenVA Tryz.prog):=lenV_ok ext83
theorem s95:SpecOk Tryz.prog 95 (swapA Tryz.prog):=swap_ok ext95
def sortU:Tabs:=⟨fun f=>match f with
 |81=>some (valueOfA Tryz.prog)
 |82=>some (swapperA Tryz.prog swF)
 |83=>some (lenVA Tryz.prog)
 |95=>some (swapA Tryz.prog)
 |_=>none,fun _=>none⟩
theorem sortU_ok:TabOk Tryz.prog sortU:=by
 refine⟨fun f s h=>?_,fun f s h=>?_⟩
 ·unfold sortU at h
  dsimp only at h
  split at h
  ·have e:=Option.some.inj h;clear h;subst e;exact s81
  ·have e:=Option.some.inj h;clear h;subst e;exact s82
  ·have e:=Option.some.inj h;clear h;subst e;exact s83
  ·have e:=Option.some.inj h;clear h;subst e;exact s95
  ·exact absurd h (by simp)
 ·exact absurd h (by simp[sortU])
def bufC (p x q c:Nat) (l:By):List (Nat×ABlk):=[(p,.row [.slc q 0 l.length (.u c 0),.lit (.int .i64 0),.lit (.int .i8 0)] 141 (.n 3)),(x,ctxB),(q,.bytes l 5 (.u c 1))]
theorem byA {l:By} {p:Nat}:SubA p (.by_ l) (.by_ l):=nlS_sub rfl
def TD.SdT (T:TD) (j:SId×Bool):Prop:=j.2=false->j.1=tbd\/(∃i,i<T.R/\j.1=tr i)\/(∃i k,i<T.R/\k<T.C i/\j.1=Tk.td i k)\/(∃i k,i<T.R/\k<T.C i/\j.1=Tk.tx i k)
theorem nx_goT {T:TD} {a b:SId×Bool} {P:SId×Bool->Prop} (h:T.Nx a b) (hb:T.SdT b) (hP:P b):∃j':SId×Bool,T.SdT j'/\T.mu j'<T.mu a/\P j':=⟨b,hb,h.m,hP⟩
theorem TD.sdT0 {T:TD}:T.SdT (tbd,false):=fun _=>.inl rfl
theorem TD.sdTe {T:TD} {x:SId}:T.SdT (x,true):=fun h=>by cases h
theorem TD.sdTr {T:TD} {i:Nat} (h:i<T.R):T.SdT (tr i,false):=fun _=>.inr (.inl ⟨i,h,rfl⟩)
theorem TD.sdTd {T:TD} {i k:Nat} (h:i<T.R) (hk:k<T.C i):T.SdT (Tk.td i k,false):=fun _=>.inr (.inr (.inl ⟨i,k,h,hk,rfl⟩))
theorem TD.sdTx {T:TD} {i k:Nat} (h:i<T.R) (hk:k<T.C i):T.SdT (Tk.tx i k,false):=fun _=>.inr (.inr (.inr ⟨i,k,h,hk,rfl⟩))
def hN (T:TD):Nat:=cond T.hd 1 0
def Q.rn (T:TD) (q:Nat):Nat:=cond T.hd (T.C q) (match q with|0=>0|q+1=>T.C q)
def Q.rc (T:TD) (q c:Nat):By:=cond T.hd (ct T q c) (match q with|0=>[]|q+1=>ct T q c)
def byOf:AVal->By
 | .by_ l=>l
 |_=>[]
def Q.rowE (g:Nat->By):Nat->Bool
 |0=>true
 |n+1=>rowE g n&&nilL (g n)
def Q.rowI (g:Nat->By) (k:Nat):Prop:=rowE g k=true
theorem rowI_0 {g:Nat->By}:rowI g 0:=rfl
theorem rowI_s {g:Nat->By} {k:Nat} (h:rowI g k) (he:(g k).length=0):rowI g (k+1):=by
 unfold rowI at*
 rw[rowE,h,List.length_eq_zero_iff.1 he];rfl
theorem rowE_f {g:Nat->By} {k:Nat} (he:(g k).length≠0):∀{n:Nat},k<n->rowE g n=false
 |n+1,h=>by
  rw[rowE,Bool.and_eq_false_iff]
  by_cases e:k=n
  ·subst e;right;cases h2:g k with
   |nil=>rw[h2] at he;exact absurd rfl he
   |cons a b=>rfl
  ·left;exact rowE_f he (by omega)
def Q.rowsN (f:Nat->AVal) (q:Nat):Nat:=match f q with
 | .famx _ n=>n
 |_=>0
def Q.rowsC (f:Nat->AVal) (q c:Nat):By:=match f q with
 | .famx g _=>byOf (g c)
 |_=>[]
def Q.eR (rn:Nat->Nat) (rc:Nat->Nat->By) (q:Nat):Bool:=rowE (rc q) (rn q)
def Q.fN (e:Nat->Bool) (n:Nat):Nat->Nat
 |0=>n
 |k+1=>cond (Nat.blt 0 (n-(k+1))&&e (n-(k+1))) (n-(k+1)) (fN e n k)
def Q.fS (e:Nat->Bool) (n:Nat):Nat:=fN e n n
def Q.fI (e:Nat->Bool) (k:Nat):Prop:=∀q,1<=q->q<k->e q=false
theorem fN_at {e:Nat->Bool} {n:Nat}:∀(m:Nat),m<=n->fI e (n-m)->fN e n n=fN e n m:=by
 intro m hm hI
 obtain⟨d,hd⟩:∃d,n=m+d:=⟨n-m,by omega⟩
 have key:∀d,m+d<=n->fI e (n-m)->fN e n (m+d)=fN e n m:=by
  intro d
  induction d with
  |zero=>intro _ _;rfl
  |succ d ih=>
   intro h1 h2
   have:fN e n (m+d+1)=cond (Nat.blt 0 (n-(m+d+1))&&e (n-(m+d+1))) (n-(m+d+1)) (fN e n (m+d)):=rfl
   rw[show m+(d+1)=m+d+1 from rfl,this,ih (by omega) h2]
   have:(Nat.blt 0 (n-(m+d+1))&&e (n-(m+d+1)))=false:=by
    rw[Bool.and_eq_false_iff]
    by_cases g:0<n-(m+d+1)
    ·right;exact h2 _ g (by omega)
    ·left;exact blt_iff'.2 (by omega)
   rw[this];rfl
 have:=key d (by omega) hI
 rwa [←hd] at this
theorem fI_0 {e:Nat->Bool}:fI e 0:=fun q _ h=>by omega
theorem fI_1 {e:Nat->Bool}:fI e 1:=fun q h1 h=>by omega
theorem fI_s {e:Nat->Bool} {k:Nat} (h:fI e k) (he:e k=false):fI e (k+1):=fun q h1 h2=>by
 by_cases g:q=k
 ·rw[g];exact he
 ·exact h q h1 (by omega)
theorem fS_end {e:Nat->Bool} {n k:Nat} (h:fI e k) (hk:n<=k):fS e n=n:=by
 unfold fS;rw[fN_at 0 (by omega) (fun q h1 h2=>h q h1 (by omega))];rfl
theorem fS_at {e:Nat->Bool} {n k:Nat} (h:fI e k) (hk:k<n) (h1:1<=k) (he:e k=true):fS e n=k:=by
 unfold fS
 have hm:n-(n-k)=k:=by omega
 rw[fN_at (n-k) (by omega) (by rw[hm];exact h)]
 obtain⟨d,hd⟩:∃d,n-k=d+1:=⟨n-k-1,by omega⟩
 have hk2:n-(d+1)=k:=by omega
 rw[hd,fN,hk2,he,blt_iff.2 (by omega)];rfl
def Q.kp (e:Nat->Bool) (j:Nat):List Nat:=(List.range j).filter fun q=>Nat.beq q 0|| !e q
def Q.dI (e:Nat->Bool) (n i j:Nat) (M:List Nat):Prop:=M.length=n/\i<j/\j<=n/\M.take i=kp e j/\∀q,j<=q->q<n->M.getD q 0=q
def Q.at0 (M:List Nat) (q:Nat):Nat:=M.getD q 0
theorem kp_s {e:Nat->Bool} {j:Nat}:kp e (j+1)=kp e j++(if(Nat.beq j 0|| !e j)=true then[j] else[]):=by
 unfold kp;rw[List.range_succ,List.filter_append];simp only[List.filter_cons,List.filter_nil]
theorem kp_len {e:Nat->Bool}:∀{j:Nat},(kp e j).length<=j
 |0=>Nat.le_refl _
 |j+1=>by
  have:=kp_len (e:=e) (j:=j)
  rw[kp_s,List.length_append];split<;>simp<;>omega
theorem dI_y {e:Nat->Bool} {n i j:Nat} {M:List Nat} (h:dI e n i j M) (hj:j<n) (he:e (at0 M j)=false):dI e n (i+1) (j+1) (M.set i (at0 M j)):=by
 obtain⟨h1,h2,h3,h4,h5⟩:=h
 have e1:at0 M j=j:=h5 j (Nat.le_refl _) hj
 rw[e1] at he⊢
 refine⟨by simp[h1],by omega,by omega,?_,fun q h6 h7=>?_⟩
 ·have hi:i<M.length:=by omega
  have:(M.set i j).take (i+1)=M.take i++[j]:=by
   rw[List.take_succ,List.getElem?_set_self hi,List.take_set_of_le (Nat.le_refl _)];rfl
  rw[this,h4,kp_s,he];simp
 ·rw[List.getD_eq_getElem?_getD,List.getElem?_set_ne (by omega),←List.getD_eq_getElem?_getD];exact h5 q (by omega) h7
theorem dI_n {e:Nat->Bool} {n i j:Nat} {M:List Nat} (h:dI e n i j M) (hj:j<n) (he:e (at0 M j)=true):dI e n i (j+1) M:=by
 obtain⟨h1,h2,h3,h4,h5⟩:=h
 have e1:at0 M j=j:=h5 j (Nat.le_refl _) hj
 rw[e1] at he
 have:(Nat.beq j 0|| !e j)=false:=by rw[he,Bool.not_true,Bool.or_false];exact beqN_iff'.2 (by omega)
 exact⟨h1,by omega,by omega,by rw[h4,kp_s,this];simp,fun q h6 h7=>h5 q (by omega) h7⟩
theorem kp_all {e:Nat->Bool} {k:Nat} (h:fI e k):kp e k=List.range k:=by
 unfold kp
 rw[List.filter_eq_self]
 intro q hq
 rw[List.mem_range] at hq
 by_cases g:q=0
 ·subst g;rfl
 ·rw[h q (by omega) hq];simp
theorem dI_0 {e:Nat->Bool} {n k:Nat} (h:fI e k) (hk:k<n) (h1:1<=k) (he:e k=true):dI e n k (k+1) (List.range n):=by
 have:(Nat.beq k 0|| !e k)=false:=by rw[he,Bool.not_true,Bool.or_false];exact beqN_iff'.2 (by omega)
 refine⟨List.length_range,by omega,by omega,?_,fun q h6 h7=>?_⟩
 ·rw[kp_s,this,kp_all h,List.take_range,Nat.min_eq_left (by omega)];simp
 ·rw[List.getD_eq_getElem?_getD,List.getElem?_range h7];rfl
theorem at0_range {n q:Nat} (h:q<n):at0 (List.range n) q=q:=by
 unfold at0;rw[List.getD_eq_getElem?_getD,List.getElem?_range h];rfl
theorem fS_spec {e:Nat->Bool} {n:Nat} (hn:1<=n):(fS e n=n/\fI e n)\/(fS e n<n/\1<=fS e n/\e (fS e n)=true/\fI e (fS e n)):=by
 have:∀k,k<=n->fI e k\/∃m,m<k/\1<=m/\e m=true/\fI e m:=by
  intro k
  induction k with
  |zero=>exact fun _=>.inl fI_0
  |succ k ih=>
   intro h
   rcases ih (by omega) with h1|⟨m,h1,h2⟩
   ·by_cases g:k=0
    ·subst g;exact .inl fI_1
    ·cases he:e k with
     |false=>exact .inl (fI_s h1 he)
     |true=>exact .inr ⟨k,by omega,by omega,he,h1⟩
   ·exact .inr ⟨m,by omega,h2⟩
 rcases this n (Nat.le_refl _) with h|⟨m,h1,h2,h3,h4⟩
 ·exact .inl ⟨fS_end h (Nat.le_refl _),h⟩
 ·right;rw[fS_at h4 h1 h2 h3];exact⟨h1,h2,h3,h4⟩
theorem at0_take {M:List Nat} {i q:Nat} (h:q<i):at0 (M.take i) q=at0 M q:=by
 unfold at0;rw[List.getD_eq_getElem?_getD,List.getElem?_take_of_lt h,←List.getD_eq_getElem?_getD]
theorem iteA {p:Nat} {c:Bool} {a b a':AVal} (hc:c=true) (h:SubA p a a'):SubA p (.ite c a b) a':=fun ι ι' v hle hd=>by
 cases hd with
 |ite h1 h2=>exact h ι ι' v hle (h1 hc)
def Q.allE (rn:Nat->Nat) (rc:Nat->Nat->By) (n:Nat):Bool:=Nat.beq (kp (eR rn rc) n).length 1&&eR rn rc (at0 (kp (eR rn rc) n) 0)
theorem kp_pos {e:Nat->Bool} {n:Nat} (h:1<=n):1<=(kp e n).length:=by
 have:0∈kp e n:=by unfold kp;rw[List.mem_filter];exact⟨List.mem_range.2 (by omega),rfl⟩
 exact List.length_pos_of_mem this
def Q.b1 (rn:Nat->Nat) (rc:Nat->Nat->By):Nat:=cond (eR rn rc 0) 1 0
theorem iteB {p:Nat} {c:Bool} {a b b':AVal} (hc:c=false) (h:SubA p b b'):SubA p (.ite c a b) b':=fun ι ι' v hle hd=>by
 cases hd with
 |ite h1 h2=>exact h ι ι' v hle (h2 hc)
def nR (T:TD):Nat:=T.R-hN T+1
def Q.kR (T:TD):List Nat:=kp (eR (rn T) (rc T)) (nR T)
def Q.finR (T:TD):(Nat->Nat)×(Nat->Nat->By)×Nat×Nat:=
 (fun q=>rn T (at0 (kR T) (q+cond T.promote (b1 (fun q=>rn T (at0 (kR T) q)) (fun q=>rc T (at0 (kR T) q))) 0)),
  fun q=>rc T (at0 (kR T) (q+cond T.promote (b1 (fun q=>rn T (at0 (kR T) q)) (fun q=>rc T (at0 (kR T) q))) 0)),
  (kR T).length-cond T.promote (b1 (fun q=>rn T (at0 (kR T) q)) (fun q=>rc T (at0 (kR T) q))) 0,nR T)
theorem rowsN_famx {rn:Nat->Nat} {rc:Nat->Nat->By}:rowsN (fun q=>.famx (fun c=>.by_ (rc q c)) (rn q))=rn:=rfl
theorem rowsC_famx {rn:Nat->Nat} {rc:Nat->Nat->By}:rowsC (fun q=>.famx (fun c=>.by_ (rc q c)) (rn q))=rc:=rfl
theorem finR_pos {T:TD} (h:allE (rn T) (rc T) (nR T)=false):1<=(finR T).2.2.1:=by
 have h1:1<=(kR T).length:=kp_pos (by unfold nR;omega)
 show 1<=(kR T).length-cond T.promote (b1 (fun q=>rn T (at0 (kR T) q)) (fun q=>rc T (at0 (kR T) q))) 0
 by_cases g:(kR T).length=1
 ·have h2:eR (rn T) (rc T) (at0 (kR T) 0)=false:=by
   unfold allE at h
   rw[show kp (eR (rn T) (rc T)) (nR T)=kR T from rfl,beqN_iff.2 g,Bool.true_and] at h
   exact h
  have h3:b1 (fun q=>rn T (at0 (kR T) q)) (fun q=>rc T (at0 (kR T) q))=0:=by
   unfold b1
   rw[show eR (fun q=>rn T (at0 (kR T) q)) (fun q=>rc T (at0 (kR T) q)) 0=eR (rn T) (rc T) (at0 (kR T) 0) from rfl,h2];rfl
  rw[h3];cases T.promote<;>simp only[cond_true,cond_false]<;>omega
 ·have h3:b1 (fun q=>rn T (at0 (kR T) q)) (fun q=>rc T (at0 (kR T) q))<=1:=by unfold b1;cases eR _ _ 0<;>simp
  cases T.promote<;>simp only[cond_true,cond_false]<;>omega
theorem rc_wt {T:TD} (hT:T.Ok) (q k:Nat):WT (rc T q k)/\(rc T q k).length<=2147483647:=by
 have key:∀i,WT (ct T i k)/\(ct T i k).length<=2147483647:=fun i=>⟨fun b hb=>wt_words (hT.w i k) b (trim_mem hb),Nat.le_trans trim_len (hT.l i k)⟩
 unfold rc
 cases T.hd with
 |true=>exact key q
 |false=>cases q with
  |zero=>exact⟨fun b hb=>(by cases hb),by simp⟩
  |succ q=>exact key q
theorem rn_le {T:TD} (hT:T.Ok) (q:Nat):rn T q<=12:=by
 unfold rn
 cases T.hd with
 |true=>exact hT.c2 q
 |false=>cases q with
  |zero=>simp
  |succ q=>exact hT.c2 q
def RowsOk (rn:Nat->Nat) (rc:Nat->Nat->By) (m c:Nat):Prop:=(∀q k,WT (rc q k)/\(rc q k).length<=2147483647)/\(∀q,rn q<=12)/\m<=14/\m<=c/\c<=14
theorem finR_ok {T:TD} (hT:T.Ok):RowsOk (finR T).1 (finR T).2.1 (finR T).2.2.1 (finR T).2.2.2:=by
 have h1:(kR T).length<=nR T:=kp_len
 have h2:nR T<=14:=by have:=hT.r2;unfold nR;omega
 refine⟨fun q k=>rc_wt hT _ _,fun q=>rn_le hT _,?_,?_,h2⟩
 ·show(kR T).length-_<=14;omega
 ·show(kR T).length-_<=nR T;omega
def Q.wd (W:List Nat) (k:Nat):Nat:=W.getD k 0
def mcA (W:List Nat) (k:Nat):List Nat:=cond (Nat.ble W.length k) (W++[1]) W
def Q.mcS (W:List Nat) (k n:Nat):List Nat:=cond (Nat.blt (wd (mcA W k) k) n) ((mcA W k).set k n) (mcA W k)
def Q.cntC (g:Nat->By):Nat->Nat->List Nat->List Nat
 |0,_,W=>W
 |r+1,k,W=>cntC g r (k+1) (mcS W k (g k).length)
def Q.cntR (rn:Nat->Nat) (rc:Nat->Nat->By):Nat->Nat->List Nat->List Nat
 |0,_,W=>W
 |r+1,q,W=>cntR rn rc r (q+1) (cntC (rc q) (rn q) 0 W)
def Q.cnt (rn:Nat->Nat) (rc:Nat->Nat->By) (m:Nat):List Nat:=cntR rn rc m 0 []
def Q.mcI (g:Nat->By) (n:Nat) (V:List Nat) (k:Nat) (W:List Nat):Prop:=k<=n/\k<=W.length/\W.length<=12/\cntC g (n-k) k W=V
def Q.moI (rn:Nat->Nat) (rc:Nat->Nat->By) (m q:Nat) (W:List Nat):Prop:=q<=m/\W.length<=12/\cntR rn rc (m-q) q W=cnt rn rc m
theorem mcA_len {W:List Nat} {k:Nat} (h:k<=W.length):k<(mcA W k).length/\(mcA W k).length<=(if W.length<=k then W.length+1 else W.length):=by
 unfold mcA
 by_cases g:W.length<=k
 ·rw[leB_iff.2 g,cond_true,if_pos g];simp;omega
 ·rw[leB_iff'.2 (by omega),cond_false,if_neg g];exact⟨by omega,Nat.le_refl _⟩
theorem mcS_len {W:List Nat} {k n:Nat}:(mcS W k n).length=(mcA W k).length:=by
 unfold mcS;cases Nat.blt (wd (mcA W k) k) n<;>simp
theorem mcI_s {g:Nat->By} {n k:Nat} {V W:List Nat} (h:mcI g n V k W) (hk:k<n) (hn:n<=12):mcI g n V (k+1) (mcS W k (g k).length):=by
 obtain⟨h1,h2,h3,h4⟩:=h
 have hl:=mcA_len h2
 refine⟨hk,by rw[mcS_len];omega,?_,?_⟩
 ·rw[mcS_len];refine Nat.le_trans hl.2 ?_;split<;>omega
 ·obtain⟨r,hr⟩:∃r,n-k=r+1:=⟨n-k-1,by omega⟩
  rw[hr] at h4
  rw[show n-(k+1)=r from by omega];exact h4
theorem mcI_end {g:Nat->By} {n k:Nat} {V W:List Nat} (h:mcI g n V k W) (hk:n<=k):W=V:=by
 obtain⟨h1,h2,h3,h4⟩:=h
 rw[show n-k=0 from by omega] at h4;exact h4
theorem mcI_0 {g:Nat->By} {n:Nat} {W:List Nat} (h:W.length<=12):mcI g n (cntC g n 0 W) 0 W:=⟨Nat.zero_le _,Nat.zero_le _,h,rfl⟩
theorem cntC_len {g:Nat->By}:∀(r k:Nat) (W:List Nat),k<=W.length->W.length<=12->k+r<=12->(cntC g r k W).length<=12
 |0,_,W,_,h,_=>h
 |r+1,k,W,h1,h2,h3=>by
  have hl:=mcA_len h1
  refine cntC_len r (k+1) _ (by rw[mcS_len];omega) ?_ (by omega)
  rw[mcS_len];refine Nat.le_trans hl.2 ?_;split<;>omega
theorem moI_s {rn:Nat->Nat} {rc:Nat->Nat->By} {m q:Nat} {W:List Nat} (h:moI rn rc m q W) (hq:q<m) (hn:rn q<=12):moI rn rc m (q+1) (cntC (rc q) (rn q) 0 W):=by
 obtain⟨h1,h2,h3⟩:=h
 refine⟨hq,cntC_len _ _ _ (Nat.zero_le _) h2 (by omega),?_⟩
 obtain⟨r,hr⟩:∃r,m-q=r+1:=⟨m-q-1,by omega⟩
 rw[hr] at h3
 rw[show m-(q+1)=r from by omega];exact h3
theorem moI_end {rn:Nat->Nat} {rc:Nat->Nat->By} {m q:Nat} {W:List Nat} (h:moI rn rc m q W) (hq:m<=q):W=cnt rn rc m:=by
 obtain⟨h1,h2,h3⟩:=h
 rw[show m-q=0 from by omega] at h3;exact h3
theorem moI_0 {rn:Nat->Nat} {rc:Nat->Nat->By} {m:Nat}:moI rn rc m 0 []:=⟨Nat.zero_le _,by simp,rfl⟩
theorem wdA {W:List Nat} {i:Nat} (h:i<W.length):wd (W++[1]) i=wd W i:=by
 unfold wd;rw[List.getD_eq_getElem?_getD,List.getElem?_append_left h,←List.getD_eq_getElem?_getD]
theorem wdL {W:List Nat}:wd (W++[1]) W.length=1:=by
 unfold wd;rw[List.getD_eq_getElem?_getD,List.getElem?_append_right (Nat.le_refl _),Nat.sub_self];rfl
theorem wdS {W:List Nat} {k n:Nat} (h:k<W.length):wd (W.set k n) k=n:=by
 unfold wd;rw[List.getD_eq_getElem?_getD,List.getElem?_set_self h];rfl
theorem wdN {W:List Nat} {k n i:Nat} (h:i≠k):wd (W.set k n) i=wd W i:=by
 unfold wd;rw[List.getD_eq_getElem?_getD,List.getElem?_set_ne (fun e=>h e.symm),←List.getD_eq_getElem?_getD]
theorem mcS_a {W:List Nat} {k n:Nat} (h:k=W.length) (hn:1<n):mcS W k n=(W++[1]).set k n:=by
 subst h;unfold mcS mcA;rw[leB_iff.2 (Nat.le_refl _),cond_true,wdL,blt_iff.2 hn,cond_true]
theorem mcS_b {W:List Nat} {k n:Nat} (h:k=W.length) (hn:¬1<n):mcS W k n=W++[1]:=by
 subst h;unfold mcS mcA;rw[leB_iff.2 (Nat.le_refl _),cond_true,wdL,blt_iff'.2 (by omega),cond_false]
theorem mcS_c {W:List Nat} {k n:Nat} (h:k<W.length) (hn:wd W k<n):mcS W k n=W.set k n:=by
 unfold mcS mcA;rw[leB_iff'.2 h,cond_false,blt_iff.2 hn,cond_true]
theorem mcS_d {W:List Nat} {k n:Nat} (h:k<W.length) (hn:¬wd W k<n):mcS W k n=W:=by
 unfold mcS mcA;rw[leB_iff'.2 h,cond_false,blt_iff'.2 (by omega),cond_false]
def litW (W:List Nat) (i:Nat):AVal:=.lit (.int .i64 (wd W i:Nat))
theorem litA {W W':List Nat} {n:Nat} {us:List (Nat×AVal)} (h:∀i,i<n->notIn i us=true->wd W i=wd W' i):SubF (fun i=>AVal.lit (Value.int IntKind.i64 (wd W i:Nat))) (fun i=>AVal.lit (Value.int IntKind.i64 (wd W' i:Nat))) n us:=fun i hi hu=>by
 show SubA _ (AVal.lit (Value.int IntKind.i64 (wd W i:Nat))) (AVal.lit (Value.int IntKind.i64 (wd W' i:Nat)))
 rw[h i hi hu];exact nlS_sub rfl
end Tk
