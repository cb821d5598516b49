/- Lemmas of this claim; the last text says what is proved. -/
import Derived.Test.YtjkgmpkgfhhaiaaGreatK23
import Derived.Test.YtjkgmpkgfhhaiaaGreatK30
import Derived.Test.YtjkgmpkgfhhaiaaGreatK31
import Derived.Test.YtjkgmpkgfhhaiaaGreatK21
import Derived.Test.YtjkgmpkgfhhaiaaGreatK32
import Derived.Test.YtjkgmpkgfhhaiaaGreatK24
import Derived.Test.YtjkgmpkgfhhaiaaGreatK27
import Derived.Test.YtjkgmpkgfhhaiaaGreatK29
import Derived.Test.YtjkgmpkgfhhaiaaGreatK42
set_option linter.all false
set_option maxRecDepth 1000000
namespace Tk
open Go Go.Sx Go.Proofs
open Q
variable [Syms]
def tcDR (T:TD) (l:By) (i:Nat) (k:Nat) (s:By):Prop:=
 letI y1:=l=l;letI w1:=List UInt8;letI v1:=Int.ofNat i;letI s1:=List.length l;letI t1:=List.drop i l;letI u1:=List.length s;letI r1:=domB T=domB T;letI q1:=Nat×Nat×By;letI n1:=0+u1;letI p1:=s1-i;letI m1:=Nat×Nat×By×By;letI h1:=Int.ofNat s1;letI g1:=List.take u1 s;letI e1:=Value.int .i64 (Int.ofNat k);letI f1:=Value.int .i64 (Int.ofNat 0);letI d1:=nilL g1;letI b1:=IntKind.wrap .i64 (Int.ofNat (k+1));letI c1:=IntKind.wrap .i64 (Int.ofNat (i+1));letI a1:=List.length g1;letI z:=Nat.ble n1 u1;letI y:=a1+1;letI v:=Value.int .i64 b1;letI w:=Value.int .i64 c1;letI u:=(t1,List.getD t1 0 (0:UInt8));letI q:=u.fst;letI t:=u.snd;letI p:=Nat.ble a1 140737488355328;letI n:=List.length q;letI m:=List.drop i (List.take (Int.toNat c1) l);letI h:=List.take a1 g1;letI g:=List.length m;letI f:=Nat.ble a1 a1;letI e:=u1+g;letI d:=a1+g;letI c:=decide (v1<=c1)&&decide (c1<=h1);letI b:=∃(j':q1),tcI l j'.fst j'.2.fst j'.2.snd []/\s1-j'.fst<p1/\r1/\y1/\f1=Value.int .i64 (Int.ofNat j'.2.fst)/\w=Value.int .i64 (Int.ofNat j'.fst)/\False;letI a:=∃(j':q1),tcI l j'.fst j'.2.fst j'.2.snd []/\s1-j'.fst<p1/\r1/\y1/\v=Value.int .i64 (Int.ofNat j'.2.fst)/\w=Value.int .i64 (Int.ofNat j'.fst)/\False;br (decide (v1<h1)) (gd (decide (v1<=h1)&&decide (h1<=h1)) (r1/\(0<n/\t=List.getD q 0 (0:UInt8)/\UInt8.toNat t<128/\n<=70368744177664)/\t1=q/\∀(x:UInt8),letI k1:=Int.ofNat (UInt8.toNat x);x=t->br (k1==Int.ofNat 10) (br (decide (b1<=Int.ofNat 2)) (gd z (br d1 (a\/∃(j':m1),tcI l j'.fst j'.2.fst j'.snd.2.fst j'.snd.2.snd/\s1-j'.fst<p1/\r1/\y1/\v=Value.int .i64 (Int.ofNat j'.2.fst)/\w=Value.int .i64 (Int.ofNat j'.fst)/\gd (Nat.beq 1 (List.length j'.snd.2.snd)) (gd (Nat.beq 0 (List.length j'.snd.2.fst)) ((∃(r:w1),s=j'.snd.2.fst++r)/\(∃(r:w1),[(10:UInt8)]=j'.snd.2.snd++r)/\True))) (gd p (gd (f&&(Nat.ble y 140737488355328&&true)) (a\/∃(j':m1),tcI l j'.fst j'.2.fst j'.snd.2.fst j'.snd.2.snd/\s1-j'.fst<p1/\r1/\y1/\v=Value.int .i64 (Int.ofNat j'.2.fst)/\w=Value.int .i64 (Int.ofNat j'.fst)/\gd (Nat.beq y (List.length j'.snd.2.snd)) (gd (Nat.beq 0 (List.length j'.snd.2.fst)) ((∃(r:w1),s=j'.snd.2.fst++r)/\(∃(r:w1),h++[(10:UInt8)]=j'.snd.2.snd++r)/\True))))))) ((∃(j':q1),tcI l j'.fst j'.2.fst j'.2.snd []/\s1-j'.fst<p1/\r1/\y1/\v=Value.int .i64 (Int.ofNat j'.2.fst)/\w=Value.int .i64 (Int.ofNat j'.fst)/\gd (Nat.beq 0 (List.length j'.2.snd)) ((∃(r:w1),s=j'.2.snd++r)/\True))\/∃(j':m1),tcI l j'.fst j'.2.fst j'.snd.2.fst j'.snd.2.snd/\s1-j'.fst<p1/\r1/\y1/\v=Value.int .i64 (Int.ofNat j'.2.fst)/\w=Value.int .i64 (Int.ofNat j'.fst)/\False)) (br (k1==Int.ofNat 32) (gd c (gd (Nat.ble u1 u1&&(Nat.ble e 140737488355328&&true)) ((∃(j':q1),tcI l j'.fst j'.2.fst j'.2.snd []/\s1-j'.fst<p1/\r1/\y1/\e1=Value.int .i64 (Int.ofNat j'.2.fst)/\w=Value.int .i64 (Int.ofNat j'.fst)/\gd (Nat.beq e (List.length j'.2.snd)) ((∃(r:w1),g1++m=j'.2.snd++r)/\True))\/∃(j':m1),tcI l j'.fst j'.2.fst j'.snd.2.fst j'.snd.2.snd/\s1-j'.fst<p1/\r1/\y1/\e1=Value.int .i64 (Int.ofNat j'.2.fst)/\w=Value.int .i64 (Int.ofNat j'.fst)/\False))) (gd z (br d1 (gd c (br (nilL m) ((∃(j':q1),tcI l j'.fst j'.2.fst j'.2.snd []/\s1-j'.fst<p1/\r1/\y1/\f1=Value.int .i64 (Int.ofNat j'.2.fst)/\w=Value.int .i64 (Int.ofNat j'.fst)/\gd (Nat.beq 0 (List.length j'.2.snd)) ((∃(r:w1),s=j'.2.snd++r)/\True))\/∃(j':m1),tcI l j'.fst j'.2.fst j'.snd.2.fst j'.snd.2.snd/\s1-j'.fst<p1/\r1/\y1/\f1=Value.int .i64 (Int.ofNat j'.2.fst)/\w=Value.int .i64 (Int.ofNat j'.fst)/\False) (gd (Nat.ble g 140737488355328) (b\/∃(j':m1),tcI l j'.fst j'.2.fst j'.snd.2.fst j'.snd.2.snd/\s1-j'.fst<p1/\r1/\y1/\f1=Value.int .i64 (Int.ofNat j'.2.fst)/\w=Value.int .i64 (Int.ofNat j'.fst)/\gd (Nat.beq g (List.length j'.snd.2.snd)) (gd (Nat.beq 0 (List.length j'.snd.2.fst)) ((∃(r:w1),s=j'.snd.2.fst++r)/\(∃(r:w1),m=j'.snd.2.snd++r)/\True)))))) (gd p (gd c (gd (f&&(Nat.ble d 140737488355328&&true)) (b\/∃(j':m1),tcI l j'.fst j'.2.fst j'.snd.2.fst j'.snd.2.snd/\s1-j'.fst<p1/\r1/\y1/\f1=Value.int .i64 (Int.ofNat j'.2.fst)/\w=Value.int .i64 (Int.ofNat j'.fst)/\gd (Nat.beq d (List.length j'.snd.2.snd)) (gd (Nat.beq 0 (List.length j'.snd.2.fst)) ((∃(r:w1),s=j'.snd.2.fst++r)/\(∃(r:w1),h++m=j'.snd.2.snd++r)/\True))))))))))) ((∃(x:w1),(x=tcF l/\List.length x<=s1)/\r1/\n1<=u1/\g1=x/\True)\/(∃(x:By×By),(x.fst++x.snd=tcF l/\List.length x.fst+List.length x.snd<=s1)/\r1/\False)\/False)
def tcDQ (T:TD) (l:By) (i:Nat) (k:Nat) (s:By) (r:By):Prop:=
 letI z1:=l=l;letI y1:=List UInt8;letI w1:=Int.ofNat i;letI s1:=List.length l;letI t1:=List.drop i l;letI u1:=List.length s;letI v1:=List.length r;letI r1:=domB T=domB T;letI q1:=Nat×Nat×By;letI m1:=0+u1;letI n1:=s1-i;letI k1:=Nat×Nat×By×By;letI g1:=Int.ofNat s1;letI f1:=List.take u1 s;letI d1:=Value.int .i64 (Int.ofNat k);letI e1:=Value.int .i64 (Int.ofNat 0);letI b1:=IntKind.wrap .i64 (Int.ofNat (k+1));letI c1:=IntKind.wrap .i64 (Int.ofNat (i+1));letI a1:=Nat.ble m1 u1;letI y:=Value.int .i64 b1;letI z:=Value.int .i64 c1;letI w:=(t1,List.getD t1 0 (0:UInt8));letI v:=v1+List.length f1;letI u:=List.take v1 r++f1;letI q:=w.fst;letI t:=w.snd;letI p:=v+1;letI n:=List.length q;letI m:=List.drop i (List.take (Int.toNat c1) l);letI h:=List.length m;letI g:=u1+h;letI f:=List.take v u;letI e:=Nat.ble v1 v1&&(Nat.ble v 140737488355328&&true);letI c:=Nat.ble v (List.length u);letI d:=decide (w1<=c1)&&decide (c1<=g1);letI b:=v+h;letI a:=∃(j':q1),tcI l j'.fst j'.2.fst j'.2.snd []/\s1-j'.fst<n1/\r1/\z1/\y=Value.int .i64 (Int.ofNat j'.2.fst)/\z=Value.int .i64 (Int.ofNat j'.fst)/\False;br (decide (w1<g1)) (gd (decide (w1<=g1)&&decide (g1<=g1)) (r1/\(0<n/\t=List.getD q 0 (0:UInt8)/\UInt8.toNat t<128/\n<=70368744177664)/\t1=q/\∀(x:UInt8),letI h1:=Int.ofNat (UInt8.toNat x);x=t->br (h1==Int.ofNat 10) (br (decide (b1<=Int.ofNat 2)) (gd a1 (gd e (gd (c&&(Nat.ble p 140737488355328&&true)) (a\/∃(j':k1),tcI l j'.fst j'.2.fst j'.snd.2.fst j'.snd.2.snd/\s1-j'.fst<n1/\r1/\z1/\y=Value.int .i64 (Int.ofNat j'.2.fst)/\z=Value.int .i64 (Int.ofNat j'.fst)/\gd (Nat.beq p (List.length j'.snd.2.snd)) (gd (Nat.beq 0 (List.length j'.snd.2.fst)) ((∃(r:y1),s=j'.snd.2.fst++r)/\(∃(r_1:y1),f++[(10:UInt8)]=j'.snd.2.snd++r_1)/\True)))))) (a\/∃(j':k1),tcI l j'.fst j'.2.fst j'.snd.2.fst j'.snd.2.snd/\s1-j'.fst<n1/\r1/\z1/\y=Value.int .i64 (Int.ofNat j'.2.fst)/\z=Value.int .i64 (Int.ofNat j'.fst)/\gd (Nat.beq v1 (List.length j'.snd.2.snd)) (gd (Nat.beq 0 (List.length j'.snd.2.fst)) ((∃(r:y1),s=j'.snd.2.fst++r)/\(∃(r_1:y1),r=j'.snd.2.snd++r_1)/\True)))) (br (h1==Int.ofNat 32) (gd d (gd (Nat.ble u1 u1&&(Nat.ble g 140737488355328&&true)) ((∃(j':q1),tcI l j'.fst j'.2.fst j'.2.snd []/\s1-j'.fst<n1/\r1/\z1/\d1=Value.int .i64 (Int.ofNat j'.2.fst)/\z=Value.int .i64 (Int.ofNat j'.fst)/\False)\/∃(j':k1),tcI l j'.fst j'.2.fst j'.snd.2.fst j'.snd.2.snd/\s1-j'.fst<n1/\r1/\z1/\d1=Value.int .i64 (Int.ofNat j'.2.fst)/\z=Value.int .i64 (Int.ofNat j'.fst)/\gd (Nat.beq v1 (List.length j'.snd.2.snd)) (gd (Nat.beq g (List.length j'.snd.2.fst)) ((∃(r:y1),f1++m=j'.snd.2.fst++r)/\(∃(r_1:y1),r=j'.snd.2.snd++r_1)/\True))))) (gd a1 (gd e (gd d (gd (c&&(Nat.ble b 140737488355328&&true)) ((∃(j':q1),tcI l j'.fst j'.2.fst j'.2.snd []/\s1-j'.fst<n1/\r1/\z1/\e1=Value.int .i64 (Int.ofNat j'.2.fst)/\z=Value.int .i64 (Int.ofNat j'.fst)/\False)\/∃(j':k1),tcI l j'.fst j'.2.fst j'.snd.2.fst j'.snd.2.snd/\s1-j'.fst<n1/\r1/\z1/\e1=Value.int .i64 (Int.ofNat j'.2.fst)/\z=Value.int .i64 (Int.ofNat j'.fst)/\gd (Nat.beq b (List.length j'.snd.2.snd)) (gd (Nat.beq 0 (List.length j'.snd.2.fst)) ((∃(r:y1),s=j'.snd.2.fst++r)/\(∃(r_1:y1),f++m=j'.snd.2.snd++r_1)/\True)))))))))) ((∃(x:y1),(x=tcF l/\List.length x<=s1)/\r1/\False)\/(∃(x:By×By),letI p1:=List.length x.fst;(x.fst++x.snd=tcF l/\p1+List.length x.snd<=s1)/\r1/\gd (Nat.beq v1 p1) (m1<=u1/\f1=x.snd/\(∃(r_1:y1),r=x.fst++r_1)/\True))\/False)
def tcR (T:TD) (l:By):Prop:=
 letI h:=tcF l;letI f:=domB T=domB T;letI d:=Value.int .i64 (Int.ofNat 0);letI a:=d=d;tcI l 0 0 [] []/\(f/\l=l/\a/\a/\(∃(r:List UInt8),[]=r)/\0<=0/\True)/\(∀(x:List UInt8),letI g:=List.length x;x=h/\g<=List.length l->br (nilL (x)) (∃(x:By),x=h/\f/\True/\True/\x=[]/\True) (gd (Nat.ble g 140737488355328) (∃(x_1:By),x_1=h/\f/\True/\True/\0+g<=g/\List.take g x=x_1/\True)))/\∀(x:By×By),letI e:=List.length x.fst;letI c:=e+List.length x.snd;letI b:=List.take e x.fst++x.snd;x.fst++x.snd=h/\c<=List.length l->gd (Nat.ble e e&&(Nat.ble c 140737488355328&&true)) (∃(x_1:By),x_1=h/\f/\True/\True/\0+c<=List.length b/\List.take c (List.drop 0 b)=x_1/\True)
theorem tcD_r (T:TD) (l:By) (i k:Nat) (s:By) (hd:(∀b∈l,b.toNat<128)/\l.length<=bufMax) (h:tcI l i k s []):tcDR T l i k s:=by
 unfold tcDR
 obtain⟨h1,h2⟩:=hd
 simp only[bufMax] at h2
 have ofN:∀c:UInt8,UInt8.ofNat c.toNat=c:=fun c=>by simp
 have tn:∀n:Nat,Int.toNat (Int.ofNat n)=n:=fun n=>rfl
 have tk:∀l:By,List.take l.length l=l:=fun l=>List.take_length
 obtain⟨hi,hk,hl,_⟩:=id h
 simp only[List.length_nil,Nat.zero_add] at hl
 by_cases g:i<l.length
 ·have e1:IntKind.wrap IntKind.i64 (Int.ofNat (i+1))=Int.ofNat (i+1):=by rw[wrapI (by simp only[Int.ofNat_eq_natCast];omega) (by simp only[Int.ofNat_eq_natCast];omega)]
  have e2:IntKind.wrap IntKind.i64 (Int.ofNat (k+1))=Int.ofNat (k+1):=by rw[wrapI (by simp only[Int.ofNat_eq_natCast];omega) (by simp only[Int.ofNat_eq_natCast];omega)]
  have e3:=dropTake1 g
  have hb:=h1 _ (getD_mem g)
  have hb2:(l.getD i 0).toNat<256:=by omega
  have hdl:(l.drop i).length<=70368744177664:=lenDrop h2
  have hdl2:0<(l.drop i).length:=by rw[List.length_drop];omega
  have hn:=tcI_n h g
  have hbl:=tcI_b h g
  have hc:=tcI_c h g
  simp only[e1,e2,tn,tk,e3,getD_drop,Nat.zero_add,Nat.add_zero,List.drop_zero,forall_eq]
  simp only[sj2,intE,intF,ofN,nilL_t,nilL_f,tk,true_or,or_true,sj1,leB_iff',and_true,true_and,and_false,exists_const,exists_false,false_or,List.length_append,or_false,exists_eq_left]
  refine⟨fun _=>⟨⟨hi,Nat.le_refl _⟩,⟨hdl2,hb,hdl⟩,fun c1=>⟨fun k2=>⟨Nat.le_refl _,fun hs=>?_,fun hs=>⟨by omega,⟨Nat.le_refl _,by omega⟩,?_⟩⟩,fun k2=>?_⟩,fun c1=>⟨fun c2=>⟨⟨by omega,g⟩,⟨Nat.le_refl _,by simp;omega⟩,?_⟩,fun c2=>⟨Nat.le_refl _,fun hs=>⟨⟨by omega,g⟩,fun e=>by simp at e,fun _=>⟨by simp,?_⟩⟩,fun hs=>⟨by omega,⟨by omega,g⟩,⟨Nat.le_refl _,by simp;omega⟩,?_⟩⟩⟩⟩,fun ng=>absurd g ng⟩
  ·subst hs;exact⟨(i+1,k+1,[],[10]),(hn c1).1 k2,by simp;omega,rfl,rfl,rfl,rfl,⟨[],rfl⟩,⟨[],rfl⟩⟩
  ·exact⟨(i+1,k+1,[],s++[10]),(hn c1).1 k2,by simp;omega,rfl,rfl,by simp,rfl,⟨s,rfl⟩,⟨[],by simp⟩⟩
  ·exact⟨(i+1,k+1,[]),(hn c1).2 (by omega),by simp;omega,rfl,rfl,rfl,⟨s,rfl⟩⟩
  ·exact⟨(i+1,k,s++[l.getD i 0]),by rw[show l.getD i 0=32 from UInt8.toNat_inj.1 (by rw[c2];rfl)];exact hbl c2,by simp;omega,rfl,rfl,by simp,⟨[],by simp⟩⟩
  ·subst hs;exact⟨(i+1,0,[],[l.getD i 0]),hc c1 c2,by simp;omega,rfl,rfl,rfl,rfl,⟨[],rfl⟩,⟨[],rfl⟩⟩
  ·exact⟨(i+1,0,[],s++[l.getD i 0]),hc c1 c2,by simp;omega,rfl,rfl,by simp,rfl,⟨s,rfl⟩,⟨[],by simp⟩⟩
 ·have hf:decide (Int.ofNat i<Int.ofNat l.length)=false:=by simp;omega
  have hend:=tcI_end h (by omega)
  rw[hf]
  simp only[sj2,Bool.false_eq_true,false_implies,true_implies,tk,br_iff,gd_iff,Bool.and_eq_true,decide_eq_false_iff_not,beqN_iff,blt_iff,blt_iff',leB_iff,leB_iff',sj0]
  exact⟨_,⟨hend,by simp;omega⟩,Nat.le_refl _,rfl⟩
theorem tcD_q (T:TD) (l:By) (i k:Nat) (s r:By) (hd:(∀b∈l,b.toNat<128)/\l.length<=bufMax) (h:tcI l i k s r):tcDQ T l i k s r:=by
 unfold tcDQ
 obtain⟨h1,h2⟩:=hd
 simp only[bufMax] at h2
 have ofN:∀c:UInt8,UInt8.ofNat c.toNat=c:=fun c=>by simp
 have tn:∀n:Nat,Int.toNat (Int.ofNat n)=n:=fun n=>rfl
 have tk:∀l:By,List.take l.length l=l:=fun l=>List.take_length
 obtain⟨hi,hk,hl,_⟩:=id h
 by_cases g:i<l.length
 ·have e1:IntKind.wrap IntKind.i64 (Int.ofNat (i+1))=Int.ofNat (i+1):=by rw[wrapI (by simp only[Int.ofNat_eq_natCast];omega) (by simp only[Int.ofNat_eq_natCast];omega)]
  have e2:IntKind.wrap IntKind.i64 (Int.ofNat (k+1))=Int.ofNat (k+1):=by rw[wrapI (by simp only[Int.ofNat_eq_natCast];omega) (by simp only[Int.ofNat_eq_natCast];omega)]
  have e3:=dropTake1 g
  have hb:=h1 _ (getD_mem g)
  have hb2:(l.getD i 0).toNat<256:=by omega
  have hdl:(l.drop i).length<=70368744177664:=lenDrop h2
  have hdl2:0<(l.drop i).length:=by rw[List.length_drop];omega
  have hn:=tcI_n h g
  have hbl:=tcI_b h g
  have hc:=tcI_c h g
  simp only[e1,e2,tn,tk,e3,getD_drop,Nat.zero_add,Nat.add_zero,List.drop_zero,forall_eq]
  simp only[sj2,intE,intF,ofN,nilL_t,nilL_f,tk,true_or,or_true,sj1,leB_iff',and_true,true_and,and_false,exists_const,exists_false,false_or,List.length_append,or_false,exists_eq_left]
  have tk2:List.take (r.length+s.length) (r++s)=r++s:=List.take_of_length_le (by simp)
  refine⟨fun _=>⟨⟨hi,Nat.le_refl _⟩,⟨hdl2,hb,hdl⟩,fun c1=>⟨fun k2=>⟨Nat.le_refl _,⟨Nat.le_refl _,by omega⟩,⟨Nat.le_refl _,by omega⟩,?_⟩,fun k2=>?_⟩,fun c1=>⟨fun c2=>⟨⟨by omega,g⟩,⟨Nat.le_refl _,by simp;omega⟩,?_⟩,fun c2=>⟨Nat.le_refl _,⟨Nat.le_refl _,by omega⟩,⟨by omega,g⟩,⟨Nat.le_refl _,by simp;omega⟩,?_⟩⟩⟩,fun ng=>absurd g ng⟩
  ·exact⟨(i+1,k+1,[],r++s++[10]),(hn c1).1 k2,by simp;omega,rfl,rfl,by simp;omega,rfl,⟨s,rfl⟩,⟨[],by rw[tk2];simp⟩⟩
  ·exact⟨(i+1,k+1,[],r),(hn c1).2 (by omega),by simp;omega,rfl,rfl,rfl,rfl,⟨s,rfl⟩,⟨[],by simp⟩⟩
  ·exact⟨(i+1,k,s++[l.getD i 0],r),by rw[show l.getD i 0=32 from UInt8.toNat_inj.1 (by rw[c2];rfl)];exact hbl c2,by simp;omega,rfl,rfl,rfl,by simp,⟨[],by simp⟩,⟨[],by simp⟩⟩
  ·exact⟨(i+1,0,[],r++s++[l.getD i 0]),hc c1 c2,by simp;omega,rfl,rfl,by simp;omega,rfl,⟨s,rfl⟩,⟨[],by rw[tk2];simp⟩⟩
 ·have hf:decide (Int.ofNat i<Int.ofNat l.length)=false:=by simp;omega
  have hend:=tcI_end h (by omega)
  rw[hf]
  simp only[sj2,Bool.false_eq_true,false_implies,true_implies,tk,br_iff,gd_iff,Bool.and_eq_true,decide_eq_false_iff_not,beqN_iff,blt_iff,blt_iff',leB_iff,leB_iff',sj0]
  exact⟨(r,s),⟨hend,by simp;omega⟩,rfl,Nat.le_refl _,rfl,⟨[],by simp⟩⟩
theorem tcD_b (T:TD) (l:By) (hd:(∀b∈l,b.toNat<128)/\l.length<=bufMax):(tcD T l).Body2 (tcDE T l) Tryz.prog (sub (bodyOf Tryz.f152) [0,0,1,0,1,1,1,1]):=by
 refine LoopD.bodyH2 (root:=(bodyOf Tryz.f152)) [0,0,1,0,1,1,1,1] ftOk (esU_ok T) (LTok.nil) 1000 ?_ ?_
 ·exact fun j hj=>Ho.of (tcDR T l j.1 j.2.1 j.2.2) (by kernel_rfl) (tcD_r T l j.1 j.2.1 j.2.2 hd hj)
 ·exact fun j hj=>Ho.of (tcDQ T l j.1 j.2.1 j.2.2.1 j.2.2.2) (by kernel_rfl) (tcD_q T l j.1 j.2.1 j.2.2.1 j.2.2.2 hd hj)
theorem tc_r (T:TD) (l:By) (h2:l.length<=bufMax):tcR T l:=by
 unfold tcR
 simp only[bufMax] at h2
 have tk:∀l:By,List.take l.length l=l:=fun l=>List.take_length
 simp only[sj2,nilL_t,nilL_f,tk,sj1,leB_iff',sj0]
 exact⟨tcI_0,⟨⟨[],rfl⟩,Nat.le_refl _⟩,fun x hx=>⟨fun e=>by rw[←hx.1,e],fun e=>⟨by omega,Nat.le_refl _,hx.1⟩⟩,fun x hx=>⟨⟨Nat.le_refl _,by omega⟩,Nat.le_refl _,by rw[List.take_of_length_le (by simp),hx.1]⟩⟩
theorem tc_fok:FunOk Tryz.prog 152:=⟨Tryz.f152,by kernel_rfl,rfl,by kernel_rfl⟩
theorem tc_ok (T:TD):(tcS T).Body Tryz.prog 152/\(tcS T).BodyD Tryz.prog 152:=by
 refine genS_body (fn:=Tryz.f152) (b:=(bodyOf Tryz.f152)) (LT:=fun l=>[([0,1,0,1,1,1,1],(tcD T l).at (0,0,[]))]) ftOk (esU_ok T) 1000 (fun l ha=>LTok.cons (fun fr H K hk=>LoopD.ok2 (tcD_b T l ha) hk) (LTok.nil)) (by kernel_rfl) (by kernel_rfl) ?_
 exact fun a ha=>Ho.of (tcR T a) (by kernel_rfl) (tc_r T a ha.2)
theorem raD_b (T:TD) (l old:By) (c:UInt8) (r:By) (hd:0<old.length/\l.length<=bufMax/\old.length<=bufMax/\(c::r).length<=old.length):(rtD T l old c r).Body2 (rtDE T l old c r) Tryz.prog (sub (bodyOf Tryz.f164) [0,0,1,0,1,1]):=by
 refine LoopD.bodyH2 (root:=(bodyOf Tryz.f164)) [0,0,1,0,1,1] ftOk (nofOk) (LTok.nil) 1000 ?_ ?_
 ·exact fun j hj=>Ho.of (rtDR T l old c r) (by kernel_rfl) (rtD_r T l old c r hd)
 ·exact fun j hj=>Ho.of (rtDQ T l old c r j.1 j.2) (by kernel_rfl) (rtD_q T l old c r j.1 j.2 hd hj)
theorem ra_fok:FunOk Tryz.prog 164:=⟨Tryz.f164,by kernel_rfl,rfl,by kernel_rfl⟩
theorem ra_ok (T:TD):(rtS T).Body Tryz.prog 164/\(rtS T).BodyD Tryz.prog 164:=by
 refine genS_body (fn:=Tryz.f164) (b:=(bodyOf Tryz.f164)) (LT:=fun⟨l,old,c,r⟩=>[([0,1,0,1,1],(rtD T l old c r).at ())]) ftOk (nofOk) 1000 (fun⟨l,old,c,r⟩ ha=>LTok.cons (fun fr H K hk=>LoopD.ok2 (raD_b T l old c r ha) hk) (LTok.nil)) (by kernel_rfl) (by kernel_rfl) ?_
 exact fun a ha=>Ho.of (rtR T a.1 a.2.1 a.2.2.1 a.2.2.2) (by kernel_rfl) (rt_r T a.1 a.2.1 a.2.2.1 a.2.2.2)
theorem rbD_b (T:TD) (l old:By) (c:UInt8) (r:By) (hd:0<old.length/\l.length<=bufMax/\old.length<=bufMax/\(c::r).length<=old.length):(rtD T l old c r).Body2 (rtDE T l old c r) Tryz.prog (sub (bodyOf Tryz.f249) [0,0,1,0,1,1]):=by
 refine LoopD.bodyH2 (root:=(bodyOf Tryz.f249)) [0,0,1,0,1,1] ftOk (nofOk) (LTok.nil) 1000 ?_ ?_
 ·exact fun j hj=>Ho.of (rtDR T l old c r) (by kernel_rfl) (rtD_r T l old c r hd)
 ·exact fun j hj=>Ho.of (rtDQ T l old c r j.1 j.2) (by kernel_rfl) (rtD_q T l old c r j.1 j.2 hd hj)
theorem rb_fok:FunOk Tryz.prog 249:=⟨Tryz.f249,by kernel_rfl,rfl,by kernel_rfl⟩
theorem rb_ok (T:TD):(rtS T).Body Tryz.prog 249/\(rtS T).BodyD Tryz.prog 249:=by
 refine genS_body (fn:=Tryz.f249) (b:=(bodyOf Tryz.f249)) (LT:=fun⟨l,old,c,r⟩=>[([0,1,0,1,1],(rtD T l old c r).at ())]) ftOk (nofOk) 1000 (fun⟨l,old,c,r⟩ ha=>LTok.cons (fun fr H K hk=>LoopD.ok2 (rbD_b T l old c r ha) hk) (LTok.nil)) (by kernel_rfl) (by kernel_rfl) ?_
 exact fun a ha=>Ho.of (rtR T a.1 a.2.1 a.2.2.1 a.2.2.2) (by kernel_rfl) (rt_r T a.1 a.2.1 a.2.2.1 a.2.2.2)
def vAR (T:TD):Prop:=
 letI u:=TD.Ok T;letI t:=List UInt8;letI s:=Int.ofNat 0;letI q:=domB T=domB T;letI n:=[(239:UInt8),128,130];letI k:=[(32:UInt8),32,10,10];letI h:=Value.int .i64 s;letI g:=[(32:UInt8),32,10,32,10];letI e:=Value.int IntKind.i8 s;letI f:=[(32:UInt8),32,10,32,32,10];letI d:=[((10:UInt8),([]:t)).fst];letI c:=[((10:UInt8),[(10:UInt8)]).fst,(10:UInt8)];letI a:=[(10:UInt8),10]=c;q/\True/\∀(x:Unit),True->q/\True/\∀(x:Unit),True->q/\u/\∀(x:Unit),True->q/\u/\∀(x:Unit),True->q/\u/\∀(x:Unit),True->q/\True/\∀(x:Unit),True->q/\u/\h=h/\e=e/\∀(x:t),letI r:=List.length x;letI p:=r-0;letI m:=Int.ofNat r;x=docF T->gd (decide (m<=m)) (q/\True/\∀(x_1:Unit),True->q/\((∀(b:UInt8),b∈x->UInt8.toNat b<128)/\r<=70368744177664/\u)/\0+p<=r/\List.take p x=x/\∀(x_2:t),x_2=trim x->q/\((∀(b:UInt8),b∈x_2->UInt8.toNat b<128)/\List.length x_2<=70368744177664)/\x_2=x_2/\∀(x:t),x=tcF x_2->q/\(0<4/\List.length x<=70368744177664/\4<=70368744177664/\1+1<=4)/\x=x/\k=k/\a/\∀(x_3:t),x_3=rpF x k c->q/\(0<6/\List.length x_3<=70368744177664/\6<=70368744177664/\1+1<=6)/\x_3=x_3/\f=f/\a/\∀(x:t),x=rpF x_3 f c->q/\(0<5/\List.length x<=70368744177664/\5<=70368744177664/\1+1<=5)/\x=x/\g=g/\a/\∀(x_4:t),x_4=rpF x g c->q/\((∀(b:UInt8),b∈x_4->UInt8.toNat b≠7)/\List.length x_4<=70368744177664)/\x_4=x_4/\∀(x:t),x=x_4->q/\(0<3/\List.length x<=70368744177664/\3<=70368744177664/\0+1<=3)/\x=x/\n=n/\[(10:UInt8)]=d/\∀(x_5:t),x_5=rpF x n d->∃(x:By),x=post (docF T)/\q/\(True/\True)/\True/\x_5=x/\True)
theorem vAU_ok (T:TD) (hT:T.Ok):TabOk Tryz.prog (vAU T):=by
 refine⟨fun f s h=>?_,fun f s h=>?_⟩
 ·unfold vAU at h
  simp only at h
  split at h
  ·cases h;exact genS_ok gh_fok (gh_ok T).1
  ·cases h;exact genS_ok gp_fok (gp_ok T).1
  ·cases h;exact genS_ok go_fok (go_ok T).1
  ·cases h;exact genS_ok hr_fok (hr_ok T hT).1
  ·cases h;exact genS_ok kc_fok (kc_ok T hT).1
  ·cases h;exact genS_ok hc_fok (hc_ok T hT).1
  ·cases h;exact genS_ok le_fok (le_ok T hT).1
  ·cases h;exact genS_ok xd_fok (yD_ok T).1
  ·cases h;exact genS_ok tr_fok (tr_ok T).1
  ·cases h;exact genS_ok tc_fok (tc_ok T).1
  ·cases h;exact genS_ok ra_fok (ra_ok T).1
  ·cases h;exact genS_ok rb_fok (rb_ok T).1
  ·cases h;exact genS_ok ue_fok (ue_ok T).1
  ·cases h
 ·cases h
theorem vA_r (T:TD) (hT:T.Ok):vAR T:=by
 unfold vAR
 have d0:=docF_dt hT
 have d1:=trim_dt d0
 have d2:=tcF_dt d1
 have d3:=rpF_dt (old:=[32,32,10,10]) d2 nn_dt
 have d4:=rpF_dt (old:=[32,32,10,32,32,10]) d3 nn_dt
 have d5:=rpF_dt (old:=[32,32,10,32,10]) d4 nn_dt
 have l0:=docF_len hT
 have l1:=trim_len (l:=docF T)
 have l2:=tcF_len (l:=trim (docF T))
 have l3:=rpF_len (l:=tcF (trim (docF T))) (old:=[32,32,10,10]) (new:=[10,10]) (by decide)
 have l4:=rpF_len (l:=rpF (tcF (trim (docF T))) [32,32,10,10] [10,10]) (old:=[32,32,10,32,32,10]) (new:=[10,10]) (by decide)
 have l5:=rpF_len (l:=rpF (rpF (tcF (trim (docF T))) [32,32,10,10] [10,10]) [32,32,10,32,32,10] [10,10]) (old:=[32,32,10,32,10]) (new:=[10,10]) (by decide)
 simp only[sj2,forall_eq,eq_self,implies_true,Nat.sub_zero,sj1,leB_iff',sj0]
 exact fun _ _ _ _=>⟨hT,fun _ _=>⟨hT,fun _ _=>⟨hT,fun _ _ _ _=>⟨hT,Nat.le_refl _,fun _ _=>⟨⟨DT.b128 d0,by omega,hT⟩,Nat.le_refl _,List.take_length,⟨DT.b128 d1,by omega⟩,⟨by omega,by omega,by omega,by omega⟩,⟨by omega,by omega,by omega,by omega⟩,⟨by omega,by omega,by omega,by omega⟩,⟨DT.n7 d5,by omega⟩,⟨by omega,by omega,by omega,by omega⟩,rfl⟩⟩⟩⟩⟩
theorem vA_fok:FunOk Tryz.prog 24:=⟨Tryz.f24,by kernel_rfl,rfl,by kernel_rfl⟩
theorem vA_ok (T:TD) (hT:T.Ok):(vAS T).Body Tryz.prog 24/\(vAS T).BodyD Tryz.prog 24:=by
 refine genS_body (fn:=Tryz.f24) (b:=(bodyOf Tryz.f24)) (LT:=fun _=>[]) ftOk (vAU_ok T hT) 1000 (fun a ha=>LTok.nil) (by kernel_rfl) (by kernel_rfl) ?_
 exact fun a ha=>Ho.of (vAR T) (by kernel_rfl) (vA_r T hT)
end Tk
