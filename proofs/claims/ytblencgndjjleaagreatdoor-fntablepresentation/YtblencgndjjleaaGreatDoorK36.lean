/- Lemmas of this claim; the last text says what is proved. -/
import Derived.Test.YtblencgndjjleaaGreatDoorK35
import Derived.Test.YtblencgndjjleaaGreatDoorK31
set_option linter.all false
set_option maxRecDepth 1000000
namespace Tk
open Go Go.Sx Go.Proofs
open Q
variable [Syms]
def zTR(T:TD):Prop:=
 letI k:=Int.ofNat 0;letI h:=True/\True;letI g:=a_f T=a_f T;letI f:=True/\h;letI d:=Value.int .i64 k;letI e:=Value.int .i64 (Int.ofNat 1);letI c:=Value.int IntKind.i8 k;letI b:=d=d;letI a:=c=c;g/\True/\∀(x:Unit),True->g/\(TD.Ok T/\noT T=false)/\b/\a/\∀(x:List UInt8),x=tabF T->∃(x_1:By),x_1=tabF T/\g/\True/\(f/\(((((f/\h)/\h)/\h)/\h)/\True)/\True)/\e=e/\gd (Nat.beq (List.length x) (List.length x_1)) (b/\a/\(∃(r:List UInt8),x=x_1++r)/\True)
theorem w_n(T:TD):TabOk Tryz.prog (zTU T):=by
 refine⟨fun f s h=>?_,fun f s h=>?_⟩
 ·unfold zTU at h
  simp only at h
  split at h
  ·cases h;exact a_d d_8 (h_q T).1
  ·cases h;exact a_d q_T (E_D T).1
  ·cases h
 ·cases h
theorem I_k(T:TD)(hT:T.Ok/\noT T=false):zTR T:=by
 unfold zTR
 simp only[sj3,eq_self,implies_true,forall_eq,b_F,b_P,Nat.le_eq,sj2,a_e,sj0]
 exact fun _ _=>⟨hT,[],an⟩
theorem E_E(T:TD):(zTS T).Body Tryz.prog 59/\(zTS T).BodyD Tryz.prog 59:=by
 refine a_c (fn:=Tryz.f59) (b:=a_b Tryz.f59) (LT:=fun _=>[]) a_l (w_n T) 1000 (fun a ha=>LTok.nil) aa aa ?_
 exact fun a ha=>Ho.of (zTR T) aa (I_k T ha)
def yDR(T:TD):Prop:=
 letI p:=List UInt8;letI n:=Int.ofNat 0;letI m:=True/\True;letI k:=a_f T=a_f T;letI h:=True/\m;letI f:=Value.int .i64 n;letI g:=Value.int .i64 (Int.ofNat 1);letI e:=Value.int IntKind.i8 n;letI c:=f=f;letI d:=g=g;letI b:=e=e;letI a:=h/\(((((h/\m)/\m)/\m)/\m)/\True)/\True;k/\True/\∀(x:Unit),True->br (noT T) (k/\(TD.Ok T/\noT T=true)/\c/\b/\∀(x:p),x=fbF T->∃(x_1:By),x_1=docF T/\k/\True/\a/\d/\gd (Nat.beq (List.length x) (List.length x_1)) (c/\b/\(∃(r:p),x=x_1++r)/\True)) (k/\(TD.Ok T/\noT T=false)/\c/\b/\∀(x:p),x=tabF T->∃(x_1:By),x_1=docF T/\k/\True/\a/\d/\gd (Nat.beq (List.length x) (List.length x_1)) (c/\b/\(∃(r:p),x=x_1++r)/\True))
theorem w_o(T:TD):TabOk Tryz.prog (yDU T):=by
 refine⟨fun f s h=>?_,fun f s h=>?_⟩
 ·unfold yDU at h
  simp only at h
  split at h
  ·cases h;exact a_d d_8 (h_q T).1
  ·cases h;exact d_a (a_d e_a (D_3 T).1) (a_d e_a (E_E T).1)
  ·cases h
 ·cases h
theorem I_l(T:TD)(hT:T.Ok):yDR T:=by
 unfold yDR
 have ea:noT T=true->docF T=fbF T:=fun h=>by
  have h:noT T=true:=h
  unfold docF;rw[h];rfl
 have eb:noT T=false->docF T=tabF T:=fun h=>by
  have h:noT T=false:=h
  unfold docF;rw[h];rfl
 simp only[sj3,eq_self,implies_true,forall_eq,b_F,b_P,Nat.le_eq,sj2,a_e,sj0]
 exact fun _ _=>⟨fun h=>⟨⟨hT,h⟩,by rw[ea h],[],by rw[ea h];simp⟩,fun h=>⟨⟨hT,h⟩,by rw[eb h],[],by rw[eb h];simp⟩⟩
theorem E_F(T:TD):(yDS T).Body Tryz.prog 59/\(yDS T).BodyD Tryz.prog 59:=by
 refine a_c (fn:=Tryz.f59) (b:=a_b Tryz.f59) (LT:=fun _=>[]) a_l (w_o T) 1000 (fun a ha=>LTok.nil) aa aa ?_
 exact fun a ha=>Ho.of (yDR T) aa (I_l T ha)
def E_G(T:TD)(l:By)(i:Nat)(k:Nat)(s:By):Prop:=
 letI y1:=l=l;letI w1:=List UInt8;letI v1:=Int.ofNat i;letI s1:=List.length l;letI t1:=List.drop i l;letI u1:=List.length s;letI r1:=a_f T=a_f T;letI q1:=Nat×Nat×By;letI n1:=0+u1;letI p1:=s1-i;letI m1:=Nat×Nat×By×By;letI h1:=Int.ofNat s1;letI g1:=List.take u1 s;letI e1:=Value.int .i64 (Int.ofNat k);letI f1:=Value.int .i64 (Int.ofNat 0);letI d1:=h_7 g1;letI b1:=IntKind.wrap .i64 (Int.ofNat (k+1));letI c1:=IntKind.wrap .i64 (Int.ofNat (i+1));letI a1:=List.length g1;letI z:=Nat.ble n1 u1;letI y:=a1+1;letI v:=Value.int .i64 b1;letI w:=Value.int .i64 c1;letI u:=(t1,List.getD t1 0 (0:UInt8));letI q:=u.fst;letI t:=u.snd;letI p:=Nat.ble a1 140737488355328;letI n:=List.length q;letI m:=List.drop i (List.take (Int.toNat c1) l);letI h:=List.take a1 g1;letI g:=List.length m;letI f:=Nat.ble a1 a1;letI e:=u1+g;letI d:=a1+g;letI c:=decide (v1<=c1)&&decide (c1<=h1);letI b:=∃(j':q1),tcI l j'.fst j'.2.fst j'.2.snd []/\s1-j'.fst<p1/\r1/\y1/\f1=Value.int .i64 (Int.ofNat j'.2.fst)/\w=Value.int .i64 (Int.ofNat j'.fst)/\False;letI a:=∃(j':q1),tcI l j'.fst j'.2.fst j'.2.snd []/\s1-j'.fst<p1/\r1/\y1/\v=Value.int .i64 (Int.ofNat j'.2.fst)/\w=Value.int .i64 (Int.ofNat j'.fst)/\False;br (decide (v1<h1)) (gd (decide (v1<=h1)&&decide (h1<=h1)) (r1/\(0<n/\t=List.getD q 0 (0:UInt8)/\UInt8.toNat t<128/\n<=70368744177664)/\t1=q/\∀(x:UInt8),letI k1:=Int.ofNat (UInt8.toNat x);x=t->br (k1==Int.ofNat 10) (br (decide (b1<=Int.ofNat 2)) (gd z (br d1 (a\/∃(j':m1),tcI l j'.fst j'.2.fst j'.snd.2.fst j'.snd.2.snd/\s1-j'.fst<p1/\r1/\y1/\v=Value.int .i64 (Int.ofNat j'.2.fst)/\w=Value.int .i64 (Int.ofNat j'.fst)/\gd (Nat.beq 1 (List.length j'.snd.2.snd)) (gd (Nat.beq 0 (List.length j'.snd.2.fst)) ((∃(r:w1),s=j'.snd.2.fst++r)/\(∃(r:w1),[(10:UInt8)]=j'.snd.2.snd++r)/\True))) (gd p (gd (f&&(Nat.ble y 140737488355328&&true)) (a\/∃(j':m1),tcI l j'.fst j'.2.fst j'.snd.2.fst j'.snd.2.snd/\s1-j'.fst<p1/\r1/\y1/\v=Value.int .i64 (Int.ofNat j'.2.fst)/\w=Value.int .i64 (Int.ofNat j'.fst)/\gd (Nat.beq y (List.length j'.snd.2.snd)) (gd (Nat.beq 0 (List.length j'.snd.2.fst)) ((∃(r:w1),s=j'.snd.2.fst++r)/\(∃(r:w1),h++[(10:UInt8)]=j'.snd.2.snd++r)/\True))))))) ((∃(j':q1),tcI l j'.fst j'.2.fst j'.2.snd []/\s1-j'.fst<p1/\r1/\y1/\v=Value.int .i64 (Int.ofNat j'.2.fst)/\w=Value.int .i64 (Int.ofNat j'.fst)/\gd (Nat.beq 0 (List.length j'.2.snd)) ((∃(r:w1),s=j'.2.snd++r)/\True))\/∃(j':m1),tcI l j'.fst j'.2.fst j'.snd.2.fst j'.snd.2.snd/\s1-j'.fst<p1/\r1/\y1/\v=Value.int .i64 (Int.ofNat j'.2.fst)/\w=Value.int .i64 (Int.ofNat j'.fst)/\False)) (br (k1==Int.ofNat 32) (gd c (gd (Nat.ble u1 u1&&(Nat.ble e 140737488355328&&true)) ((∃(j':q1),tcI l j'.fst j'.2.fst j'.2.snd []/\s1-j'.fst<p1/\r1/\y1/\e1=Value.int .i64 (Int.ofNat j'.2.fst)/\w=Value.int .i64 (Int.ofNat j'.fst)/\gd (Nat.beq e (List.length j'.2.snd)) ((∃(r:w1),g1++m=j'.2.snd++r)/\True))\/∃(j':m1),tcI l j'.fst j'.2.fst j'.snd.2.fst j'.snd.2.snd/\s1-j'.fst<p1/\r1/\y1/\e1=Value.int .i64 (Int.ofNat j'.2.fst)/\w=Value.int .i64 (Int.ofNat j'.fst)/\False))) (gd z (br d1 (gd c (br (h_7 m) ((∃(j':q1),tcI l j'.fst j'.2.fst j'.2.snd []/\s1-j'.fst<p1/\r1/\y1/\f1=Value.int .i64 (Int.ofNat j'.2.fst)/\w=Value.int .i64 (Int.ofNat j'.fst)/\gd (Nat.beq 0 (List.length j'.2.snd)) ((∃(r:w1),s=j'.2.snd++r)/\True))\/∃(j':m1),tcI l j'.fst j'.2.fst j'.snd.2.fst j'.snd.2.snd/\s1-j'.fst<p1/\r1/\y1/\f1=Value.int .i64 (Int.ofNat j'.2.fst)/\w=Value.int .i64 (Int.ofNat j'.fst)/\False) (gd (Nat.ble g 140737488355328) (b\/∃(j':m1),tcI l j'.fst j'.2.fst j'.snd.2.fst j'.snd.2.snd/\s1-j'.fst<p1/\r1/\y1/\f1=Value.int .i64 (Int.ofNat j'.2.fst)/\w=Value.int .i64 (Int.ofNat j'.fst)/\gd (Nat.beq g (List.length j'.snd.2.snd)) (gd (Nat.beq 0 (List.length j'.snd.2.fst)) ((∃(r:w1),s=j'.snd.2.fst++r)/\(∃(r:w1),m=j'.snd.2.snd++r)/\True)))))) (gd p (gd c (gd (f&&(Nat.ble d 140737488355328&&true)) (b\/∃(j':m1),tcI l j'.fst j'.2.fst j'.snd.2.fst j'.snd.2.snd/\s1-j'.fst<p1/\r1/\y1/\f1=Value.int .i64 (Int.ofNat j'.2.fst)/\w=Value.int .i64 (Int.ofNat j'.fst)/\gd (Nat.beq d (List.length j'.snd.2.snd)) (gd (Nat.beq 0 (List.length j'.snd.2.fst)) ((∃(r:w1),s=j'.snd.2.fst++r)/\(∃(r:w1),h++m=j'.snd.2.snd++r)/\True))))))))))) ((∃(x:w1),(x=tcF l/\List.length x<=s1)/\r1/\n1<=u1/\g1=x/\True)\/(∃(x:By×By),(x.fst++x.snd=tcF l/\List.length x.fst+List.length x.snd<=s1)/\r1/\False)\/False)
def E_H(T:TD)(l:By)(i:Nat)(k:Nat)(s:By)(r:By):Prop:=
 letI z1:=l=l;letI y1:=List UInt8;letI w1:=Int.ofNat i;letI s1:=List.length l;letI t1:=List.drop i l;letI u1:=List.length s;letI v1:=List.length r;letI r1:=a_f T=a_f T;letI q1:=Nat×Nat×By;letI m1:=0+u1;letI n1:=s1-i;letI k1:=Nat×Nat×By×By;letI g1:=Int.ofNat s1;letI f1:=List.take u1 s;letI d1:=Value.int .i64 (Int.ofNat k);letI e1:=Value.int .i64 (Int.ofNat 0);letI b1:=IntKind.wrap .i64 (Int.ofNat (k+1));letI c1:=IntKind.wrap .i64 (Int.ofNat (i+1));letI a1:=Nat.ble m1 u1;letI y:=Value.int .i64 b1;letI z:=Value.int .i64 c1;letI w:=(t1,List.getD t1 0 (0:UInt8));letI v:=v1+List.length f1;letI u:=List.take v1 r++f1;letI q:=w.fst;letI t:=w.snd;letI p:=v+1;letI n:=List.length q;letI m:=List.drop i (List.take (Int.toNat c1) l);letI h:=List.length m;letI g:=u1+h;letI f:=List.take v u;letI e:=Nat.ble v1 v1&&(Nat.ble v 140737488355328&&true);letI c:=Nat.ble v (List.length u);letI d:=decide (w1<=c1)&&decide (c1<=g1);letI b:=v+h;letI a:=∃(j':q1),tcI l j'.fst j'.2.fst j'.2.snd []/\s1-j'.fst<n1/\r1/\z1/\y=Value.int .i64 (Int.ofNat j'.2.fst)/\z=Value.int .i64 (Int.ofNat j'.fst)/\False;br (decide (w1<g1)) (gd (decide (w1<=g1)&&decide (g1<=g1)) (r1/\(0<n/\t=List.getD q 0 (0:UInt8)/\UInt8.toNat t<128/\n<=70368744177664)/\t1=q/\∀(x:UInt8),letI h1:=Int.ofNat (UInt8.toNat x);x=t->br (h1==Int.ofNat 10) (br (decide (b1<=Int.ofNat 2)) (gd a1 (gd e (gd (c&&(Nat.ble p 140737488355328&&true)) (a\/∃(j':k1),tcI l j'.fst j'.2.fst j'.snd.2.fst j'.snd.2.snd/\s1-j'.fst<n1/\r1/\z1/\y=Value.int .i64 (Int.ofNat j'.2.fst)/\z=Value.int .i64 (Int.ofNat j'.fst)/\gd (Nat.beq p (List.length j'.snd.2.snd)) (gd (Nat.beq 0 (List.length j'.snd.2.fst)) ((∃(r:y1),s=j'.snd.2.fst++r)/\(∃(r_1:y1),f++[(10:UInt8)]=j'.snd.2.snd++r_1)/\True)))))) (a\/∃(j':k1),tcI l j'.fst j'.2.fst j'.snd.2.fst j'.snd.2.snd/\s1-j'.fst<n1/\r1/\z1/\y=Value.int .i64 (Int.ofNat j'.2.fst)/\z=Value.int .i64 (Int.ofNat j'.fst)/\gd (Nat.beq v1 (List.length j'.snd.2.snd)) (gd (Nat.beq 0 (List.length j'.snd.2.fst)) ((∃(r:y1),s=j'.snd.2.fst++r)/\(∃(r_1:y1),r=j'.snd.2.snd++r_1)/\True)))) (br (h1==Int.ofNat 32) (gd d (gd (Nat.ble u1 u1&&(Nat.ble g 140737488355328&&true)) ((∃(j':q1),tcI l j'.fst j'.2.fst j'.2.snd []/\s1-j'.fst<n1/\r1/\z1/\d1=Value.int .i64 (Int.ofNat j'.2.fst)/\z=Value.int .i64 (Int.ofNat j'.fst)/\False)\/∃(j':k1),tcI l j'.fst j'.2.fst j'.snd.2.fst j'.snd.2.snd/\s1-j'.fst<n1/\r1/\z1/\d1=Value.int .i64 (Int.ofNat j'.2.fst)/\z=Value.int .i64 (Int.ofNat j'.fst)/\gd (Nat.beq v1 (List.length j'.snd.2.snd)) (gd (Nat.beq g (List.length j'.snd.2.fst)) ((∃(r:y1),f1++m=j'.snd.2.fst++r)/\(∃(r_1:y1),r=j'.snd.2.snd++r_1)/\True))))) (gd a1 (gd e (gd d (gd (c&&(Nat.ble b 140737488355328&&true)) ((∃(j':q1),tcI l j'.fst j'.2.fst j'.2.snd []/\s1-j'.fst<n1/\r1/\z1/\e1=Value.int .i64 (Int.ofNat j'.2.fst)/\z=Value.int .i64 (Int.ofNat j'.fst)/\False)\/∃(j':k1),tcI l j'.fst j'.2.fst j'.snd.2.fst j'.snd.2.snd/\s1-j'.fst<n1/\r1/\z1/\e1=Value.int .i64 (Int.ofNat j'.2.fst)/\z=Value.int .i64 (Int.ofNat j'.fst)/\gd (Nat.beq b (List.length j'.snd.2.snd)) (gd (Nat.beq 0 (List.length j'.snd.2.fst)) ((∃(r:y1),s=j'.snd.2.fst++r)/\(∃(r_1:y1),f++m=j'.snd.2.snd++r_1)/\True)))))))))) ((∃(x:y1),(x=tcF l/\List.length x<=s1)/\r1/\False)\/(∃(x:By×By),letI p1:=List.length x.fst;(x.fst++x.snd=tcF l/\p1+List.length x.snd<=s1)/\r1/\gd (Nat.beq v1 p1) (m1<=u1/\f1=x.snd/\(∃(r_1:y1),r=x.fst++r_1)/\True))\/False)
def tcR(T:TD)(l:By):Prop:=
 letI h:=tcF l;letI f:=a_f T=a_f T;letI d:=Value.int .i64 (Int.ofNat 0);letI a:=d=d;tcI l 0 0 [] []/\(f/\l=l/\a/\a/\(∃(r:List UInt8),[]=r)/\0<=0/\True)/\(∀(x:List UInt8),letI g:=List.length x;x=h/\g<=List.length l->br (h_7 (x)) (∃(x:By),x=h/\f/\True/\True/\x=[]/\True) (gd (Nat.ble g 140737488355328) (∃(x_1:By),x_1=h/\f/\True/\True/\0+g<=g/\List.take g x=x_1/\True)))/\∀(x:By×By),letI e:=List.length x.fst;letI c:=e+List.length x.snd;letI b:=List.take e x.fst++x.snd;x.fst++x.snd=h/\c<=List.length l->gd (Nat.ble e e&&(Nat.ble c 140737488355328&&true)) (∃(x_1:By),x_1=h/\f/\True/\True/\0+c<=List.length b/\List.take c (List.drop 0 b)=x_1/\True)
theorem E_I(T:TD)(l:By)(i k:Nat)(s:By)(hd:(∀b∈l,b.toNat<128)/\l.length<=a_i)(h:tcI l i k s []):E_G T l i k s:=by
 unfold E_G
 obtain⟨h1,h2⟩:=hd
 simp only[a_i] at h2
 have ofN:∀c:UInt8,UInt8.ofNat c.toNat=c:=fun c=>an
 have tn:∀n:Nat,Int.toNat (Int.ofNat n)=n:=fun n=>rfl
 have tk:∀l:By,List.take l.length l=l:=fun l=>List.take_length
 obtain⟨hi,hk,hl,_⟩:=id h
 simp only[List.length_nil,Nat.zero_add] at hl
 by_cases g:i<l.length
 ·have e1:IntKind.wrap IntKind.i64 (Int.ofNat (i+1))=Int.ofNat (i+1):=ae
  have e2:IntKind.wrap IntKind.i64 (Int.ofNat (k+1))=Int.ofNat (k+1):=ae
  have e3:=i_v g
  have hb:=h1 _ (b_a g)
  have hb2:(l.getD i 0).toNat<256:=ac
  have hdl:(l.drop i).length<=70368744177664:=h_i h2
  have hdl2:0<(l.drop i).length:=aY
  have hn:=u_a h g
  have hbl:=u_b h g
  have hc:=u_c h g
  simp only[e1,e2,tn,tk,e3,c_H,Nat.zero_add,Nat.add_zero,List.drop_zero,forall_eq]
  simp only[sj3,b_F,b_P,ofN,m_J,m_K,tk,true_or,or_true,sj2,a_e,and_true,true_and,and_false,exists_const,exists_false,false_or,List.length_append,or_false,exists_eq_left]
  refine⟨fun _=>⟨⟨hi,Nat.le_refl _⟩,⟨hdl2,hb,hdl⟩,fun c1=>⟨fun k2=>⟨Nat.le_refl _,fun hs=>?_,fun hs=>⟨ac,⟨Nat.le_refl _,ac⟩,?_⟩⟩,fun k2=>?_⟩,fun c1=>⟨fun c2=>⟨⟨ac,g⟩,⟨Nat.le_refl _,af⟩,?_⟩,fun c2=>⟨Nat.le_refl _,fun hs=>⟨⟨ac,g⟩,fun e=>by simp at e,fun _=>⟨an,?_⟩⟩,fun hs=>⟨ac,⟨ac,g⟩,⟨Nat.le_refl _,af⟩,?_⟩⟩⟩⟩,fun ng=>absurd g ng⟩
  ·subst hs;exact⟨(i+1,k+1,[],[10]),(hn c1).1 k2,af,rfl,rfl,rfl,rfl,⟨[],rfl⟩,⟨[],rfl⟩⟩
  ·exact⟨(i+1,k+1,[],s++[10]),(hn c1).1 k2,af,rfl,rfl,an,rfl,⟨s,rfl⟩,⟨[],an⟩⟩
  ·exact⟨(i+1,k+1,[]),(hn c1).2 ac,af,rfl,rfl,rfl,⟨s,rfl⟩⟩
  ·exact⟨(i+1,k,s++[l.getD i 0]),aK,af,rfl,rfl,an,⟨[],an⟩⟩
  ·subst hs;exact⟨(i+1,0,[],[l.getD i 0]),hc c1 c2,af,rfl,rfl,rfl,rfl,⟨[],rfl⟩,⟨[],rfl⟩⟩
  ·exact⟨(i+1,0,[],s++[l.getD i 0]),hc c1 c2,af,rfl,rfl,an,rfl,⟨s,rfl⟩,⟨[],an⟩⟩
 ·have hf:decide (Int.ofNat i<Int.ofNat l.length)=false:=af
  have hend:=m_I h ac
  rw[hf]
  simp only[sj3,Bool.false_eq_true,false_implies,true_implies,tk,a_j,a_p,Bool.and_eq_true,decide_eq_false_iff_not,a_k,a_z,a_C,a_m,a_e,sj0]
  exact⟨_,⟨hend,af⟩,Nat.le_refl _,rfl⟩
theorem E_J(T:TD)(l:By)(i k:Nat)(s r:By)(hd:(∀b∈l,b.toNat<128)/\l.length<=a_i)(h:tcI l i k s r):E_H T l i k s r:=by
 unfold E_H
 obtain⟨h1,h2⟩:=hd
 simp only[a_i] at h2
 have ofN:∀c:UInt8,UInt8.ofNat c.toNat=c:=fun c=>an
 have tn:∀n:Nat,Int.toNat (Int.ofNat n)=n:=fun n=>rfl
 have tk:∀l:By,List.take l.length l=l:=fun l=>List.take_length
 obtain⟨hi,hk,hl,_⟩:=id h
 by_cases g:i<l.length
 ·have e1:IntKind.wrap IntKind.i64 (Int.ofNat (i+1))=Int.ofNat (i+1):=ae
  have e2:IntKind.wrap IntKind.i64 (Int.ofNat (k+1))=Int.ofNat (k+1):=ae
  have e3:=i_v g
  have hb:=h1 _ (b_a g)
  have hb2:(l.getD i 0).toNat<256:=ac
  have hdl:(l.drop i).length<=70368744177664:=h_i h2
  have hdl2:0<(l.drop i).length:=aY
  have hn:=u_a h g
  have hbl:=u_b h g
  have hc:=u_c h g
  simp only[e1,e2,tn,tk,e3,c_H,Nat.zero_add,Nat.add_zero,List.drop_zero,forall_eq]
  simp only[sj3,b_F,b_P,ofN,m_J,m_K,tk,true_or,or_true,sj2,a_e,and_true,true_and,and_false,exists_const,exists_false,false_or,List.length_append,or_false,exists_eq_left]
  have tk2:List.take (r.length+s.length) (r++s)=r++s:=List.take_of_length_le an
  refine⟨fun _=>⟨⟨hi,Nat.le_refl _⟩,⟨hdl2,hb,hdl⟩,fun c1=>⟨fun k2=>⟨Nat.le_refl _,⟨Nat.le_refl _,ac⟩,⟨Nat.le_refl _,ac⟩,?_⟩,fun k2=>?_⟩,fun c1=>⟨fun c2=>⟨⟨ac,g⟩,⟨Nat.le_refl _,af⟩,?_⟩,fun c2=>⟨Nat.le_refl _,⟨Nat.le_refl _,ac⟩,⟨ac,g⟩,⟨Nat.le_refl _,af⟩,?_⟩⟩⟩,fun ng=>absurd g ng⟩
  ·exact⟨(i+1,k+1,[],r++s++[10]),(hn c1).1 k2,af,rfl,rfl,af,rfl,⟨s,rfl⟩,⟨[],by rw[tk2];simp⟩⟩
  ·exact⟨(i+1,k+1,[],r),(hn c1).2 ac,af,rfl,rfl,rfl,rfl,⟨s,rfl⟩,⟨[],an⟩⟩
  ·exact⟨(i+1,k,s++[l.getD i 0],r),aK,af,rfl,rfl,rfl,an,⟨[],an⟩,⟨[],an⟩⟩
  ·exact⟨(i+1,0,[],r++s++[l.getD i 0]),hc c1 c2,af,rfl,rfl,af,rfl,⟨s,rfl⟩,⟨[],by rw[tk2];simp⟩⟩
 ·have hf:decide (Int.ofNat i<Int.ofNat l.length)=false:=af
  have hend:=m_I h ac
  rw[hf]
  simp only[sj3,Bool.false_eq_true,false_implies,true_implies,tk,a_j,a_p,Bool.and_eq_true,decide_eq_false_iff_not,a_k,a_z,a_C,a_m,a_e,sj0]
  exact⟨(r,s),⟨hend,af⟩,rfl,Nat.le_refl _,rfl,⟨[],an⟩⟩
theorem E_K(T:TD)(l:By)(hd:(∀b∈l,b.toNat<128)/\l.length<=a_i):(tcD T l).Body2 (H_k T l) Tryz.prog (sub (a_b Tryz.f163) [0,0,1,0,1,1,1,1]):=by
 refine LoopD.bodyH2 (root:=(a_b Tryz.f163)) (LT:=[]) [0,0,1,0,1,1,1,1] a_l (j_6 T) (LTok.nil) 1000 ?_ ?_
 ·exact fun j hj=>Ho.of (E_G T l j.1 j.2.1 j.2.2) aa (E_I T l j.1 j.2.1 j.2.2 hd hj)
 ·exact fun j hj=>Ho.of (E_H T l j.1 j.2.1 j.2.2.1 j.2.2.2) aa (E_J T l j.1 j.2.1 j.2.2.1 j.2.2.2 hd hj)
theorem I_m(T:TD)(l:By)(h2:l.length<=a_i):tcR T l:=by
 unfold tcR
 simp only[a_i] at h2
 have tk:∀l:By,List.take l.length l=l:=fun l=>List.take_length
 simp only[sj3,m_J,m_K,tk,sj2,a_e,sj0]
 exact⟨y_o,⟨⟨[],rfl⟩,Nat.le_refl _⟩,fun x hx=>⟨fun e=>by rw[←hx.1,e],fun e=>⟨ac,Nat.le_refl _,hx.1⟩⟩,fun x hx=>⟨⟨Nat.le_refl _,ac⟩,Nat.le_refl _,by rw[List.take_of_length_le an,hx.1]⟩⟩
theorem w_p:a_t Tryz.prog 163:=⟨Tryz.f163,aa,rfl,aa⟩
theorem E_L(T:TD):(tcS T).Body Tryz.prog 163/\(tcS T).BodyD Tryz.prog 163:=by
 refine a_c (fn:=Tryz.f163) (b:=a_b Tryz.f163) (LT:=fun l=>[([0,1,0,1,1,1,1],(tcD T l).at (0,0,[]))]) a_l (j_6 T) 1000 (fun l ha=>LTok.cons (fun fr H K hk=>LoopD.ok2 (E_K T l ha) hk) (LTok.nil)) aa aa ?_
 exact fun a ha=>Ho.of (tcR T a) aa (I_m T a ha.2)
theorem E_M(T:TD)(l old:By)(c:UInt8)(r:By)(hd:0<old.length/\l.length<=a_i/\old.length<=a_i/\(c::r).length<=old.length):(rtD T l old c r).Body2 (z_o T l old c r) Tryz.prog (sub (a_b Tryz.f174) [0,0,1,0,1,1]):=by
 refine LoopD.bodyH2 (root:=(a_b Tryz.f174)) (LT:=[]) [0,0,1,0,1,1] a_l (a_y) (LTok.nil) 1000 ?_ ?_
 ·exact fun j hj=>Ho.of (v_K T l old c r) aa (s_O T l old c r hd)
 ·exact fun j hj=>Ho.of (v_L T l old c r j.1 j.2) aa (s_P T l old c r j.1 j.2 hd hj)
theorem w_q:a_t Tryz.prog 174:=⟨Tryz.f174,aa,rfl,aa⟩
theorem E_N(T:TD):(rtS T).Body Tryz.prog 174/\(rtS T).BodyD Tryz.prog 174:=by
 refine a_c (fn:=Tryz.f174) (b:=a_b Tryz.f174) (LT:=fun⟨l,old,c,r⟩=>[([0,1,0,1,1],(rtD T l old c r).at ())]) a_l (a_y) 1000 (fun⟨l,old,c,r⟩ ha=>LTok.cons (fun fr H K hk=>LoopD.ok2 (E_M T l old c r ha) hk) (LTok.nil)) aa aa ?_
 exact fun a ha=>Ho.of (rtR T a.1 a.2.1 a.2.2.1 a.2.2.2) aa (C_a T a.1 a.2.1 a.2.2.1 a.2.2.2)
theorem E_O(T:TD)(l old:By)(c:UInt8)(r:By)(hd:0<old.length/\l.length<=a_i/\old.length<=a_i/\(c::r).length<=old.length):(rtD T l old c r).Body2 (z_o T l old c r) Tryz.prog (sub (a_b Tryz.f256) [0,0,1,0,1,1]):=by
 refine LoopD.bodyH2 (root:=(a_b Tryz.f256)) (LT:=[]) [0,0,1,0,1,1] a_l (a_y) (LTok.nil) 1000 ?_ ?_
 ·exact fun j hj=>Ho.of (v_K T l old c r) aa (s_O T l old c r hd)
 ·exact fun j hj=>Ho.of (v_L T l old c r j.1 j.2) aa (s_P T l old c r j.1 j.2 hd hj)
theorem w_r:a_t Tryz.prog 256:=⟨Tryz.f256,aa,rfl,aa⟩
theorem E_P(T:TD):(rtS T).Body Tryz.prog 256/\(rtS T).BodyD Tryz.prog 256:=by
 refine a_c (fn:=Tryz.f256) (b:=a_b Tryz.f256) (LT:=fun⟨l,old,c,r⟩=>[([0,1,0,1,1],(rtD T l old c r).at ())]) a_l (a_y) 1000 (fun⟨l,old,c,r⟩ ha=>LTok.cons (fun fr H K hk=>LoopD.ok2 (E_O T l old c r ha) hk) (LTok.nil)) aa aa ?_
 exact fun a ha=>Ho.of (rtR T a.1 a.2.1 a.2.2.1 a.2.2.2) aa (C_a T a.1 a.2.1 a.2.2.1 a.2.2.2)
def vAR(T:TD):Prop:=
 letI u:=TD.Ok T;letI t:=List UInt8;letI s:=Int.ofNat 0;letI q:=a_f T=a_f T;letI n:=[(239:UInt8),128,130];letI k:=[(32:UInt8),32,10,10];letI h:=Value.int .i64 s;letI g:=[(32:UInt8),32,10,32,10];letI e:=Value.int IntKind.i8 s;letI f:=[(32:UInt8),32,10,32,32,10];letI d:=[((10:UInt8),([]:t)).fst];letI c:=[((10:UInt8),[(10:UInt8)]).fst,(10:UInt8)];letI a:=[(10:UInt8),10]=c;q/\True/\∀(x:Unit),True->q/\True/\∀(x:Unit),True->q/\u/\∀(x:Unit),True->q/\u/\∀(x:Unit),True->q/\u/\∀(x:Unit),True->q/\True/\∀(x:Unit),True->q/\u/\h=h/\e=e/\∀(x:t),letI r:=List.length x;letI p:=r-0;letI m:=Int.ofNat r;x=docF T->gd (decide (m<=m)) (q/\True/\∀(x_1:Unit),True->q/\((∀(b:UInt8),b∈x->UInt8.toNat b<128)/\r<=70368744177664/\u)/\0+p<=r/\List.take p x=x/\∀(x_2:t),x_2=trim x->q/\((∀(b:UInt8),b∈x_2->UInt8.toNat b<128)/\List.length x_2<=70368744177664)/\x_2=x_2/\∀(x:t),x=tcF x_2->q/\(0<4/\List.length x<=70368744177664/\4<=70368744177664/\1+1<=4)/\x=x/\k=k/\a/\∀(x_3:t),x_3=rpF x k c->q/\(0<6/\List.length x_3<=70368744177664/\6<=70368744177664/\1+1<=6)/\x_3=x_3/\f=f/\a/\∀(x:t),x=rpF x_3 f c->q/\(0<5/\List.length x<=70368744177664/\5<=70368744177664/\1+1<=5)/\x=x/\g=g/\a/\∀(x_4:t),x_4=rpF x g c->q/\((∀(b:UInt8),b∈x_4->UInt8.toNat b≠7)/\List.length x_4<=70368744177664)/\x_4=x_4/\∀(x:t),x=x_4->q/\(0<3/\List.length x<=70368744177664/\3<=70368744177664/\0+1<=3)/\x=x/\n=n/\[(10:UInt8)]=d/\∀(x_5:t),x_5=rpF x n d->∃(x:By),x=post (docF T)/\q/\(True/\True)/\True/\x_5=x/\True)
theorem w_s(T:TD)(hT:T.Ok):TabOk Tryz.prog (vAU T):=by
 refine⟨fun f s h=>?_,fun f s h=>?_⟩
 ·unfold vAU at h
  simp only at h
  split at h
  ·cases h;exact a_d d_8 (h_q T).1
  ·cases h;exact a_d u_E (z_p T).1
  ·cases h;exact a_d u_F (z_q T).1
  ·cases h;exact a_d u_L (z_P T hT).1
  ·cases h;exact a_d v_f (A_Z T hT).1
  ·cases h;exact a_d v_p (A_6 T hT).1
  ·cases h;exact a_d v_q (A_7 T hT).1
  ·cases h;exact a_d e_a (E_F T).1
  ·cases h;exact a_d q_J (v_J T).1
  ·cases h;exact a_d w_p (E_L T).1
  ·cases h;exact a_d w_q (E_N T).1
  ·cases h;exact a_d w_r (E_P T).1
  ·cases h;exact a_d q_K (v_N T).1
  ·cases h
 ·cases h
theorem I_n(T:TD)(hT:T.Ok):vAR T:=by
 unfold vAR
 have d0:=m_W hT
 have d1:=m_X d0
 have d2:=q_h d1
 have d3:=f_p (old:=[32,32,10,10]) d2 e_G
 have d4:=f_p (old:=[32,32,10,32,32,10]) d3 e_G
 have d5:=f_p (old:=[32,32,10,32,10]) d4 e_G
 have l0:=j_2 hT
 have l1:=e_S (l:=docF T)
 have l2:=m_Z (l:=trim (docF T))
 have l3:=d_E (l:=tcF (trim (docF T))) (old:=[32,32,10,10]) (new:=[10,10]) ar
 have l4:=d_E (l:=rpF (tcF (trim (docF T))) [32,32,10,10] [10,10]) (old:=[32,32,10,32,32,10]) (new:=[10,10]) ar
 have l5:=d_E (l:=rpF (rpF (tcF (trim (docF T))) [32,32,10,10] [10,10]) [32,32,10,32,32,10] [10,10]) (old:=[32,32,10,32,10]) (new:=[10,10]) ar
 simp only[sj3,forall_eq,eq_self,implies_true,Nat.sub_zero,sj2,a_e,sj0]
 exact fun _ _ _ _=>⟨hT,fun _ _=>⟨hT,fun _ _=>⟨hT,fun _ _ _ _=>⟨hT,Nat.le_refl _,fun _ _=>⟨⟨DT.b128 d0,ac,hT⟩,Nat.le_refl _,List.take_length,⟨DT.b128 d1,ac⟩,⟨ac,ac,ac,ac⟩,⟨ac,ac,ac,ac⟩,⟨ac,ac,ac,ac⟩,⟨DT.n7 d5,ac⟩,⟨ac,ac,ac,ac⟩,rfl⟩⟩⟩⟩⟩
theorem w_t:a_t Tryz.prog 29:=⟨Tryz.f29,aa,rfl,aa⟩
theorem E_Q(T:TD)(hT:T.Ok):(vAS T).Body Tryz.prog 29/\(vAS T).BodyD Tryz.prog 29:=by
 refine a_c (fn:=Tryz.f29) (b:=a_b Tryz.f29) (LT:=fun _=>[]) a_l (w_s T hT) 1000 (fun a ha=>LTok.nil) aa aa ?_
 exact fun a ha=>Ho.of (vAR T) aa (I_n T hT)
end Tk

