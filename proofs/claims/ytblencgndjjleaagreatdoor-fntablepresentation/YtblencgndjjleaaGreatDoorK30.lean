/- Lemmas of this claim; the last text says what is proved. -/
import Derived.Test.YtblencgndjjleaaGreatDoorK17
import Derived.Test.YtblencgndjjleaaGreatDoorK25
set_option linter.all false
set_option maxRecDepth 1000000
namespace Tk
open Go Go.Sx Go.Proofs
open Q
variable [Syms]
def D_j(T:TD)(l:By)(n:Nat)(d:Nat):Prop:=
 letI v:=Int.ofNat 0;letI t:=List.length l;letI u:=True/\True;letI q:=a_f T=a_f T;letI s:=Value.bool true;letI p:=By×Nat×Nat;letI h:=Int.ofNat t;letI g:=Value.int .i64 v;letI f:=(True/\u)/\True;letI e:=Value.int IntKind.i8 v;letI c:=IntKind.wrap .i64 (Int.ofNat (t+n));letI b:=g=g;letI a:=e=e;br (decide (Int.ofNat n<=IntKind.wrap .i64 (Int.ofNat d-h))) (gd (decide (v<=c)&&decide (c<=Int.ofNat d)) (∃(x:p),letI k:=List.length x.fst;x=(l,n,d)/\q/\u/\f/\Value.int .i64 h=Value.int .i64 (Int.ofNat k)/\s=s/\gd (Nat.beq (Int.toNat c) (k+x.2.fst)) (d=x.2.snd/\b/\a/\(∃(r:List UInt8),l=x.fst++r)/\gd (Nat.ble x.2.snd d) True))) (∃(x:p),letI m:=List.length x.fst;x=(l,n,d)/\q/\u/\f/\g=Value.int .i64 (Int.ofNat m)/\Value.bool false=s/\gd (Nat.beq t (m+x.2.fst)) (d=x.2.snd/\b/\a/\(∃(r:List UInt8),l=x.fst++r)/\gd (Nat.ble x.2.snd d) True))
theorem D_k(T:TD)(l:By)(n d:Nat)(h:(l.length<=d/\d<9223372036854775808/\l.length+n<=a_i)/\l.length+n<=d):D_j T l n d:=by
 unfold D_j
 obtain⟨h,hfit⟩:=h
 obtain⟨h1,h2,h3⟩:=h
 simp only[a_i] at h3
 have e1:IntKind.wrap IntKind.i64 (Int.ofNat (l.length+n))=Int.ofNat (l.length+n):=a_o ab ab
 have e2:IntKind.wrap IntKind.i64 (Int.ofNat d-Int.ofNat l.length)=Int.ofNat (d-l.length):=ah
 have e3:IntKind.wrap IntKind.i64 (Int.ofNat l.length)=Int.ofNat l.length:=a_o ab ab
 have e4:IntKind.wrap IntKind.i64 (Int.ofNat (d / 2))=Int.ofNat (d / 2):=a_o ab ab
 have e5:IntKind.wrap IntKind.i64 (Int.ofNat (d / 2)-Int.ofNat l.length)=Int.ofNat (d / 2)-Int.ofNat l.length:=a_o ab ab
 have e6:IntKind.wrap IntKind.i64 (Int.ofNat l.length+Int.ofNat n)=Int.ofNat (l.length+n):=ah
 have e7:IntKind.wrap IntKind.i64 (Int.ofNat 9223372036854775807-Int.ofNat d)=Int.ofNat 9223372036854775807-Int.ofNat d:=a_o ab ab
 have e8:IntKind.wrap IntKind.i64 (Int.ofNat 9223372036854775807-Int.ofNat d-Int.ofNat n)=Int.ofNat 9223372036854775807-Int.ofNat d-Int.ofNat n:=a_o ab ab
 have e9:IntKind.wrap IntKind.i64 (Int.ofNat n)=Int.ofNat n:=a_o ab ab
 have ea:d<l.length+n->IntKind.wrap IntKind.i64 (Int.ofNat (2*d))=Int.ofNat (2*d):=fun h=>a_o ab ab
 have tn:∀n:Nat,Int.toNat (Int.ofNat n)=n:=fun n=>rfl
 have tk:List.take l.length l=l:=List.take_length
 try simp only[List.drop_zero,List.take_nil,Nat.add_zero,Nat.sub_zero,Nat.zero_add,tn,tk,e1,e2]
 try simp only[List.drop_zero,Nat.add_zero,Nat.sub_zero,Nat.zero_add,tn,tk,sj2,a_e,and_true,true_and,forall_const,exists_eq_left,List.length_append,List.length_replicate,a_U,Int.ofNat_eq_natCast,List.length_take,Bool.not_true,Bool.not_false,g_e]
 repeat' (first|done|omega|exact rfl|exact trivial|assumption|(exfalso;omega)|intro _|exact⟨[],an⟩|refine And.intro ?_ ?_)
theorem j_f:a_t Tryz.prog 362:=⟨Tryz.f362,aa,rfl,aa⟩
theorem v_2(T:TD):(x_z T).Body Tryz.prog 362/\(x_z T).BodyD Tryz.prog 362:=by
 refine a_c (fn:=Tryz.f362) (b:=a_b Tryz.f362) (LT:=fun _=>[]) a_l (a_y) 1000 (fun a ha=>LTok.nil) aa aa ?_
 exact fun a ha=>Ho.of (D_j T a.1 a.2.1 a.2.2) aa (D_k T a.1 a.2.1 a.2.2 ha)
def D_l(T:TD)(l:By)(n:Nat)(d:Nat):Prop:=
 letI t:=Int.ofNat 0;letI q:=List.length l;letI s:=True/\True;letI p:=a_f T=a_f T;letI k:=By×Nat×Nat;letI m:=Value.bool false;letI h:=Int.ofNat q;letI g:=Value.int .i64 t;letI f:=(True/\s)/\True;letI e:=Value.int IntKind.i8 t;letI c:=IntKind.wrap .i64 (Int.ofNat (q+n));letI b:=g=g;letI a:=e=e;br (decide (Int.ofNat n<=IntKind.wrap .i64 (Int.ofNat d-h))) (gd (decide (t<=c)&&decide (c<=Int.ofNat d)) (∃(x:k),x=(l,n,d)/\p/\s/\f/\Value.int .i64 h=g/\Value.bool true=m/\gd (Nat.beq (Int.toNat c) (List.length x.fst)) (d=x.2.snd/\b/\a/\(∃(r:List UInt8),l=x.fst++r)/\gd (Nat.ble x.2.snd d) True))) (∃(x:k),x=(l,n,d)/\p/\s/\f/\b/\m=m/\gd (Nat.beq q (List.length x.fst)) (d=x.2.snd/\b/\a/\(∃(r:List UInt8),l=x.fst++r)/\gd (Nat.ble x.2.snd d) True))
theorem D_m(T:TD)(l:By)(n d:Nat)(h:(l.length<=d/\d<9223372036854775808/\l.length+n<=a_i)/\d<l.length+n):D_l T l n d:=by
 unfold D_l
 obtain⟨h,hfit⟩:=h
 obtain⟨h1,h2,h3⟩:=h
 simp only[a_i] at h3
 have e1:IntKind.wrap IntKind.i64 (Int.ofNat (l.length+n))=Int.ofNat (l.length+n):=a_o ab ab
 have e2:IntKind.wrap IntKind.i64 (Int.ofNat d-Int.ofNat l.length)=Int.ofNat (d-l.length):=ah
 have e3:IntKind.wrap IntKind.i64 (Int.ofNat l.length)=Int.ofNat l.length:=a_o ab ab
 have e4:IntKind.wrap IntKind.i64 (Int.ofNat (d / 2))=Int.ofNat (d / 2):=a_o ab ab
 have e5:IntKind.wrap IntKind.i64 (Int.ofNat (d / 2)-Int.ofNat l.length)=Int.ofNat (d / 2)-Int.ofNat l.length:=a_o ab ab
 have e6:IntKind.wrap IntKind.i64 (Int.ofNat l.length+Int.ofNat n)=Int.ofNat (l.length+n):=ah
 have e7:IntKind.wrap IntKind.i64 (Int.ofNat 9223372036854775807-Int.ofNat d)=Int.ofNat 9223372036854775807-Int.ofNat d:=a_o ab ab
 have e8:IntKind.wrap IntKind.i64 (Int.ofNat 9223372036854775807-Int.ofNat d-Int.ofNat n)=Int.ofNat 9223372036854775807-Int.ofNat d-Int.ofNat n:=a_o ab ab
 have e9:IntKind.wrap IntKind.i64 (Int.ofNat n)=Int.ofNat n:=a_o ab ab
 have ea:d<l.length+n->IntKind.wrap IntKind.i64 (Int.ofNat (2*d))=Int.ofNat (2*d):=fun h=>a_o ab ab
 have tn:∀n:Nat,Int.toNat (Int.ofNat n)=n:=fun n=>rfl
 have tk:List.take l.length l=l:=List.take_length
 try simp only[List.drop_zero,List.take_nil,Nat.add_zero,Nat.sub_zero,Nat.zero_add,tn,tk,e1,e2]
 try simp only[List.drop_zero,Nat.add_zero,Nat.sub_zero,Nat.zero_add,tn,tk,sj2,a_e,and_true,true_and,forall_const,exists_eq_left,List.length_append,List.length_replicate,a_U,Int.ofNat_eq_natCast,List.length_take,Bool.not_true,Bool.not_false,g_e]
 repeat' (first|done|omega|exact rfl|exact trivial|assumption|(exfalso;omega)|intro _|exact⟨[],an⟩|refine And.intro ?_ ?_)
theorem q_U(T:TD):(x_A T).Body Tryz.prog 362/\(x_A T).BodyD Tryz.prog 362:=by
 refine a_c (fn:=Tryz.f362) (b:=a_b Tryz.f362) (LT:=fun _=>[]) a_l (a_y) 1000 (fun a ha=>LTok.nil) aa aa ?_
 exact fun a ha=>Ho.of (D_l T a.1 a.2.1 a.2.2) aa (D_m T a.1 a.2.1 a.2.2 ha)
theorem s_V(T:TD):b_q Tryz.prog 362 (G_M T):=d_a (a_d j_f (v_2 T).1) (a_d j_f (q_U T).1)
def grR(T:TD)(l:By)(n:Nat)(d:Nat):Prop:=
 letI w2:=By×Nat;letI v2:=List UInt8;letI t2:=Int.ofNat 0;letI u2:=Int.ofNat n;letI s2:=List.length l;letI r2:=a_f T=a_f T;letI n2:=s2+n;letI a2:=Int.ofNat 140737488355328;letI y1:=Value.int .i64 u2;letI z1:=Value.int .i64 t2;letI t1:=(True/\True/\True)/\True;letI s1:=Value.int IntKind.i8 t2;letI p1:=IntKind.wrap .i64 (Int.ofNat (s2+0));letI k1:=z1=z1;letI f1:=Value.int .i64 p1;letI d1:=s1=s1;letI c1:=IntKind.wrap .i64 (p1+u2);letI y:=Int.toNat c1;letI u:=decide (t2<=c1);letI a:=r2/\((s2<=d/\d<9223372036854775808/\n2<=70368744177664)/\d<n2)/\y1=y1/\gd (Nat.beq s2 s2) (d=d/\k1/\d1/\(∃(r:v2),l=l++r)/\gd (Nat.ble d d) (∀(x:By×Nat×Nat),letI p2:=List.length x.fst;letI q2:=Int.ofNat x.2.snd;letI b2:=p2-0;letI u1:=x.2.snd*1<=x.2.snd/\True;letI r1:=Nat.blt x.2.snd 9223372036854775808;letI q1:=IntKind.wrap .i64 (Int.ofNat (2*(x.2.snd-0)));letI n1:=List.take b2 (List.drop 0 x.fst);letI m1:=Nat.ble (0+b2) p2;letI h1:=decide (Int.ofNat p2<=q2);letI g1:=Int.toNat q1;letI e1:=List.length n1;letI b1:=List.take p2 n1;letI a1:=List.replicate g1 (0:UInt8);letI z:=IntKind.wrap .i64 (Int.ofNat b2+IntKind.wrap .i64 (Int.ofNat (0+n)));letI w:=List.length a1;letI v:=Int.toNat z;letI t:=List.take g1 n1;letI s:=List.replicate v (0:UInt8);letI q:=Nat.min e1 g1;letI p:=List.length s;letI m:=List.take v n1;letI h:=Nat.min e1 v;letI c:=u&&decide (c1<=q2);letI b:=gd h1 (br (decide (z<q1)) (gd (decide (t2<q1)&&decide (q1<=a2)) (∀(d:Nat),letI c2:=d*1<=d/\True;letI v1:=Nat.blt d 9223372036854775808;letI k:=decide (Int.ofNat q<=Int.ofNat d);letI f:=u&&decide (c1<=Int.ofNat d);g1<=d->d<9223372036854775808->gd m1 (br (Nat.ble (0+q) w) (gd k (gd f (∃(x_1:w2),letI g2:=List.length x_1.fst;(g2=n2/\List.take s2 x_1.fst=l/\x_1.snd=s2)/\r2/\True/\t1/\f1=Value.int .i64 (Int.ofNat x_1.snd)/\gd (Nat.beq y g2) (gd v1 (k1/\d1/\(∃(r:v2),a_J a1 0 t=x_1.fst++r)/\c2))))) (gd (Nat.beq 0 w&&(Nat.ble (0+d) d&&true)) (gd k (gd f (∃(x_1:w2),letI h2:=List.length x_1.fst;(h2=n2/\List.take s2 x_1.fst=l/\x_1.snd=s2)/\r2/\True/\t1/\f1=Value.int .i64 (Int.ofNat x_1.snd)/\gd (Nat.beq y h2) (gd v1 (k1/\d1/\(∃(r:v2),a1++t=x_1.fst++r)/\c2))))))))) (gd (decide (t2<z)&&decide (z<=a2)) (∀(d:Nat),letI d2:=d*1<=d/\True;letI w1:=Nat.blt d 9223372036854775808;letI g:=u&&decide (c1<=Int.ofNat d);letI e:=decide (Int.ofNat h<=Int.ofNat d);v<=d->d<9223372036854775808->gd m1 (br (Nat.ble (0+h) p) (gd e (gd g (∃(x_1:w2),letI k2:=List.length x_1.fst;(k2=n2/\List.take s2 x_1.fst=l/\x_1.snd=s2)/\r2/\True/\t1/\f1=Value.int .i64 (Int.ofNat x_1.snd)/\gd (Nat.beq y k2) (gd w1 (k1/\d1/\(∃(r:v2),a_J s 0 m=x_1.fst++r)/\d2))))) (gd (Nat.beq 0 p&&(Nat.ble (0+d) d&&true)) (gd e (gd g (∃(x_1:w2),letI m2:=List.length x_1.fst;(m2=n2/\List.take s2 x_1.fst=l/\x_1.snd=s2)/\r2/\True/\t1/\f1=Value.int .i64 (Int.ofNat x_1.snd)/\gd (Nat.beq y m2) (gd w1 (k1/\d1/\(∃(r:v2),s++m=x_1.fst++r)/\d2))))))))));x=(l,n,d)->br (decide (u2<=IntKind.wrap .i64 (IntKind.wrap .i64 (Int.ofNat (x.2.snd / 2))-p1))) (gd h1 (gd m1 (br (Nat.ble (0+Nat.min e1 p2) p2) (gd c (∃(x_1:w2),letI e2:=List.length x_1.fst;(e2=n2/\List.take s2 x_1.fst=l/\x_1.snd=s2)/\r2/\True/\t1/\f1=Value.int .i64 (Int.ofNat x_1.snd)/\gd (Nat.beq y e2) (gd r1 (k1/\d1/\(∃(r:v2),a_J x.fst 0 b1=x_1.fst++r)/\u1)))) (gd (Nat.beq 0 p2&&(Nat.ble (0+x.2.snd) x.2.snd&&true)) (gd c (∃(x_1:w2),letI f2:=List.length x_1.fst;(f2=n2/\List.take s2 x_1.fst=l/\x_1.snd=s2)/\r2/\True/\t1/\f1=Value.int .i64 (Int.ofNat x_1.snd)/\gd (Nat.beq y f2) (gd r1 (k1/\d1/\(∃(r:v2),x.fst++b1=x_1.fst++r)/\u1)))))))) (br (decide (q2>IntKind.wrap .i64 (IntKind.wrap .i64 (Int.ofNat 9223372036854775807-q2)-u2))) (gd (Syms.gn 7 0) False) (b/\b))));br (p1==t2) a a
theorem v_3(T:TD):TabOk Tryz.prog (grU T):=by
 refine⟨fun f s h=>?_,fun f s h=>?_⟩
 ·unfold grU at h
  simp only at h
  split at h
  ·cases h;exact a_d j_f (q_U T).1
  ·cases h
 ·unfold grU at h
  simp only at h
  split at h
  ·cases h;exact q_a
  ·cases h
theorem H_1(T:TD)(l:By)(n d:Nat)(h:(l.length<=d/\d<9223372036854775808/\l.length+n<=a_i)/\d<l.length+n):grR T l n d:=by
 unfold grR
 obtain⟨h,hfit⟩:=h
 obtain⟨h1,h2,h3⟩:=h
 simp only[a_i] at h3
 have e1:IntKind.wrap IntKind.i64 (Int.ofNat (l.length+n))=Int.ofNat (l.length+n):=a_o ab ab
 have e2:IntKind.wrap IntKind.i64 (Int.ofNat d-Int.ofNat l.length)=Int.ofNat (d-l.length):=ah
 have e3:IntKind.wrap IntKind.i64 (Int.ofNat l.length)=Int.ofNat l.length:=a_o ab ab
 have e4:IntKind.wrap IntKind.i64 (Int.ofNat (d / 2))=Int.ofNat (d / 2):=a_o ab ab
 have e5:IntKind.wrap IntKind.i64 (Int.ofNat (d / 2)-Int.ofNat l.length)=Int.ofNat (d / 2)-Int.ofNat l.length:=a_o ab ab
 have e6:IntKind.wrap IntKind.i64 (Int.ofNat l.length+Int.ofNat n)=Int.ofNat (l.length+n):=ah
 have e7:IntKind.wrap IntKind.i64 (Int.ofNat 9223372036854775807-Int.ofNat d)=Int.ofNat 9223372036854775807-Int.ofNat d:=a_o ab ab
 have e8:IntKind.wrap IntKind.i64 (Int.ofNat 9223372036854775807-Int.ofNat d-Int.ofNat n)=Int.ofNat 9223372036854775807-Int.ofNat d-Int.ofNat n:=a_o ab ab
 have e9:IntKind.wrap IntKind.i64 (Int.ofNat n)=Int.ofNat n:=a_o ab ab
 have ea:d<l.length+n->IntKind.wrap IntKind.i64 (Int.ofNat (2*d))=Int.ofNat (2*d):=fun h=>a_o ab ab
 have tn:∀n:Nat,Int.toNat (Int.ofNat n)=n:=fun n=>rfl
 have tk:List.take l.length l=l:=List.take_length
 have ea:=ea hfit
 simp only[forall_eq]
 try simp only[List.drop_zero,List.take_nil,Nat.add_zero,Nat.sub_zero,Nat.zero_add,tn,tk,e1,e2,e3,e4,e5,e6,e7,e8,e9,ea]
 try simp only[List.drop_zero,Nat.add_zero,Nat.sub_zero,Nat.zero_add,tn,tk,sj2,a_e,and_true,true_and,forall_const,exists_eq_left,List.length_append,List.length_replicate,a_U,Int.ofNat_eq_natCast,List.length_take,Bool.not_true,Bool.not_false,g_e]
 repeat' (first|done|omega|exact rfl|exact trivial|assumption|(exfalso;omega)|intro _|exact⟨[],an⟩|exact grL (by first|exact rfl|exact List.take_of_length_le ac) ac ai|refine And.intro ?_ ?_)
theorem v_4:a_t Tryz.prog 363:=⟨Tryz.f363,aa,rfl,aa⟩
theorem D_n(T:TD):(grS T).Body Tryz.prog 363/\(grS T).BodyD Tryz.prog 363:=by
 refine a_c (fn:=Tryz.f363) (b:=a_b Tryz.f363) (LT:=fun _=>[]) a_l (v_3 T) 1000 (fun a ha=>LTok.nil) aa aa ?_
 exact fun a ha=>Ho.of (grR T a.1 a.2.1 a.2.2) aa (H_1 T a.1 a.2.1 a.2.2 ha)
def woR(T:TD)(l:By)(p:By)(d:Nat):Prop:=
 letI t1:=List UInt8;letI r1:=List.length l;letI s1:=List.length p;letI q1:=a_f T=a_f T;letI m1:=(l,s1,d);letI k1:=(s1,d).fst;letI d1:=Value.int .i64 (Int.ofNat 0);letI z:=∃(r:t1),l=l++r;letI y:=(True/\True/\True)/\True;letI w:=Value.int IntKind.i8 (Int.ofNat 0);letI t:=r1+k1;letI q:=Nat.beq r1 r1;letI n:=Value.int .i64 (Int.ofNat s1);letI g:=d1=d1;letI e:=w=w;letI b:=n=Value.int .i64 (Int.ofNat k1);letI a:=r1<=d/\d<9223372036854775808/\t<=70368744177664;br (Nat.ble t d) (q1/\(a/\t<=d)/\b/\gd q (d=d/\g/\e/\z/\gd (Nat.ble d d) (∀(x:By×Nat×Nat),letI p1:=List.length x.fst;letI g1:=p1+x.2.fst;letI a1:=x.2.snd*1<=x.2.snd/\True;letI u:=Nat.blt x.2.snd 9223372036854775808;letI s:=Int.ofNat g1;letI h:=g1-p1;letI f:=List.take h p;x=m1->gd (decide (Int.ofNat p1<=s)&&decide (s<=Int.ofNat x.2.snd)) (br (Nat.ble (p1+Nat.min s1 h) p1) (∃(x_1:By),x_1=l++p/\q1/\True/\y/\gd (Nat.beq g1 (List.length x_1)) (gd u (g/\e/\(∃(r:t1),a_J x.fst p1 f=x_1++r)/\a1))) (gd (Nat.beq p1 p1&&(Nat.ble (p1+(x.2.snd-p1)) x.2.snd&&true)) (∃(x_1:By),x_1=l++p/\q1/\True/\y/\gd (Nat.beq g1 (List.length x_1)) (gd u (g/\e/\(∃(r:t1),x.fst++f=x_1++r)/\a1)))))))) (q1/\(a/\d<t)/\b/\gd q (d=d/\g/\e/\z/\gd (Nat.ble d d) (∀(x:By×Nat×Nat),letI h1:=(s1,x.2.snd);letI e1:=h1.snd;letI f1:=h1.fst;letI v:=(x.fst,s1,x.2.snd).fst;letI k:=List.length v;letI c:=k+f1;x=m1->q1/\((k<=e1/\e1<9223372036854775808/\c<=70368744177664)/\e1<c)/\n=Value.int .i64 (Int.ofNat f1)/\gd (Nat.beq (List.length x.fst) k) (x.2.snd=e1/\g/\e/\(∃(r:t1),x.fst=v++r)/\gd (Nat.ble e1 x.2.snd) (∀(x_1:By×Nat),letI n1:=List.length x_1.fst;letI c1:=n1-x_1.snd;letI b1:=Int.ofNat n1;letI m:=List.take c1 p;n1=c/\List.take k x_1.fst=v/\x_1.snd=k->gd (decide (Int.ofNat x_1.snd<=b1)&&decide (b1<=b1)) (br (Nat.ble (x_1.snd+Nat.min s1 c1) n1) (∃(x:By),x=l++p/\q1/\True/\y/\gd (Nat.beq n1 (List.length x)) (g/\e/\(∃(r:t1),a_J x_1.fst x_1.snd m=x++r)/\True)) (gd (Nat.beq x_1.snd n1&&false) (∃(x:By),x=l++p/\q1/\True/\y/\gd (Nat.beq n1 (List.length x)) (g/\e/\(∃(r:t1),x_1.fst++m=x++r)/\True)))))))))
theorem n_7(T:TD):TabOk Tryz.prog (woU T):=by
 refine⟨fun f s h=>?_,fun f s h=>?_⟩
 ·unfold woU at h
  simp only at h
  split at h
  ·cases h;exact s_V T
  ·cases h;exact a_d v_4 (D_n T).1
  ·cases h
 ·cases h
theorem G_Q(T:TD)(l p:By)(d:Nat)(h:l.length<=d/\d<9223372036854775808/\l.length+p.length<=a_i):woR T l p d:=by
 unfold woR
 obtain⟨h1,h2,h3⟩:=h
 simp only[a_i] at h3
 have e1:IntKind.wrap IntKind.i64 (Int.ofNat (l.length+p.length))=Int.ofNat (l.length+p.length):=a_o ab ab
 have tn:∀n:Nat,Int.toNat (Int.ofNat n)=n:=fun n=>rfl
 have tk:List.take p.length p=p:=List.take_length
 simp only[forall_eq]
 try simp only[List.drop_zero,List.take_nil,Nat.add_zero,Nat.sub_zero,Nat.zero_add,tn,tk,e1]
 try simp only[List.drop_zero,Nat.add_zero,Nat.sub_zero,Nat.zero_add,tn,tk,sj2,a_e,and_true,true_and,forall_const,exists_eq_left,List.length_append,List.length_replicate,a_U,Int.ofNat_eq_natCast,List.length_take,Bool.not_true,Bool.not_false,g_e]
 repeat' (first|done|omega|exact rfl|exact trivial|assumption|(exfalso;omega)|rintro x ⟨hx1,hx2,hx3⟩|intro _|exact⟨[],(List.append_nil _).symm⟩|exact G_X ac|exact y_e ac|exact wsL ai ai ac ac|refine And.intro ?_ ?_)
theorem D_o(T:TD):(woS T).Body Tryz.prog 342/\(woS T).BodyD Tryz.prog 342:=by
 refine a_c (fn:=Tryz.f342) (b:=a_b Tryz.f342) (LT:=fun _=>[]) a_l (n_7 T) 1000 (fun a ha=>LTok.nil) aa aa ?_
 exact fun a ha=>Ho.of (woR T a.1 a.2.1 a.2.2) aa (G_Q T a.1 a.2.1 a.2.2 ha)
theorem n_8(T:TD):(wsS T).Body Tryz.prog 342:=fun a ha w0 F0 ι w vs hi hd=>by
 obtain⟨d,h63,hld,hi'⟩:=j_a hi
 exact(D_o T).1 (a.1,a.2,d) ⟨hld,h63,ha⟩ w0 F0 ι w vs hi' hd
def ytR(T:TD)(l:By)(i:Nat)(j:Nat):Prop:=
 letI s:=T.tx i j;letI q:=List UInt8;letI p:=Int.ofNat 0;letI m:=List.length l;letI n:=True/\True;letI h:=a_f T=a_f T;letI g:=True/\n;letI e:=Value.int .i64 p;letI f:=Value.int .i64 (Int.ofNat 1);letI d:=Value.int IntKind.i8 p;letI c:=e=e;letI a:=d=d;h/\True/\∀(x:Unit),True->h/\((∀(b:UInt8),b∈s->UInt8.toNat b≠60/\UInt8.toNat b≠62)/\List.length s<=70368744177664)/\s=s/\∀(x:q),letI k:=List.length x;x=s->gd (Nat.ble k 140737488355328) (h/\(WT x/\k<=70368744177664)/\0+k<=k/\List.take k x=x/\∀(x_1:q),x_1=x->h/\Nat.le (m+List.length x_1) 70368744177664/\x_1=x_1/\gd (Nat.beq m m) (c/\a/\(∃(r:q),l=l++r)/\∀(x:q),x=l++x_1->∃(x_2:By),x_2=l++s/\h/\True/\(g/\(((((g/\n)/\n)/\n)/\n)/\True)/\True)/\f=f/\gd (Nat.beq (List.length x) (List.length x_2)) (c/\a/\(∃(r:q),x=x_2++r)/\True)))
theorem v_5(T:TD):TabOk Tryz.prog (ytU T):=by
 refine⟨fun f s h=>?_,fun f s h=>?_⟩
 ·unfold ytU at h
  simp only at h
  split at h
  ·cases h;exact a_d q_D (v_B T).1
  ·cases h;exact a_d q_E (v_C T).1
  ·cases h;exact a_d q_F (v_F T).1
  ·cases h;exact a_d f_L (n_8 T)
  ·cases h
 ·cases h
theorem H_2(T:TD)(l:By)(i j:Nat)(h:(WT (T.tx i j)/\(T.tx i j).length<=2147483647)/\fits 2147483647 l):ytR T l i j:=by
 unfold ytR
 obtain⟨⟨h1,h3⟩,h4⟩:=h
 simp only[fits,a_i] at h4
 simp only[sj3,forall_eq,eq_self,implies_true,List.take_length,sj2,a_e,sj0]
 exact fun _ _=>⟨⟨fun b hb=>by have:=h1 b hb;unfold wc at this;omega,ac⟩,ac,⟨h1,ac⟩,Nat.le_refl _,by refine(show l.length+(T.tx i j).length<=70368744177664 from ?_);omega,⟨[],an⟩,[],an⟩
theorem D_p(T:TD):(ytS T).Body Tryz.prog 81/\(ytS T).BodyD Tryz.prog 81:=by
 refine a_c (fn:=Tryz.f81) (b:=a_b Tryz.f81) (LT:=fun _=>[]) a_l (v_5 T) 1000 (fun a ha=>LTok.nil) aa aa ?_
 exact fun a ha=>Ho.of (ytR T a.1 a.2.1 a.2.2) aa (H_2 T a.1 a.2.1 a.2.2 ha)
def D_q(T:TD)(l:By)(j:Nat):Prop:=
 letI v:=List UInt8;letI u:=Int.ofNat 0;letI s:=List.length l;letI t:=True/\True;letI q:=a_f (TD.wh T true);letI p:=True/\t;letI m:=Value.int .i64 u;letI n:=Value.int .i64 (Int.ofNat 1);letI k:=Value.int IntKind.i8 u;letI h:=q=q;letI f:=m=m;letI g:=n=n;letI e:=k=k;letI d:=TD.mk T.R T.2 true T.4 T.pad T.keep T.span T.promote T.pres T.skip T.role T.12 T.13 T.14 T.15 T.oP T.oK T.oM;letI c:=d.tx 0 j;letI b:=l++c;letI a:=p/\(((((p/\t)/\t)/\t)/\t)/\True)/\True;h/\True/\∀(x:Unit),True->br (TD.hasT d 0 j) (h/\((WT c/\List.length c<=2147483647)/\fits 2147483647 l)/\gd (Nat.beq j j&&true) (gd (Nat.beq s s) (f/\e/\(∃(r:v),l=l++r)/\∀(x:v),x=b->∃(x_1:By),x_1=b/\h/\True/\a/\g/\gd (Nat.beq (List.length x) (List.length x_1)) (f/\e/\(∃(r:v),x=x_1++r)/\True)))) (∃(x:By),x=b/\h/\True/\a/\g/\gd (Nat.beq s (List.length x)) (f/\e/\(∃(r:v),l=x++r)/\True))
def D_r(T:TD)(l:By)(j:Nat):Prop:=
 letI v:=List UInt8;letI u:=Int.ofNat 0;letI s:=List.length l;letI t:=True/\True;letI q:=a_f (TD.wh T false);letI p:=True/\t;letI m:=Value.int .i64 u;letI n:=Value.int .i64 (Int.ofNat 1);letI k:=Value.int IntKind.i8 u;letI h:=q=q;letI f:=m=m;letI g:=n=n;letI e:=k=k;letI d:=TD.mk T.R T.2 false T.4 T.pad T.keep T.span T.promote T.pres T.skip T.role T.12 T.13 T.14 T.15 T.oP T.oK T.oM;letI c:=d.tx 0 j;letI b:=l++c;letI a:=p/\(((((p/\t)/\t)/\t)/\t)/\True)/\True;h/\True/\∀(x:Unit),True->br (TD.hasT d 0 j) (h/\((WT c/\List.length c<=2147483647)/\fits 2147483647 l)/\gd (Nat.beq j j&&true) (gd (Nat.beq s s) (f/\e/\(∃(r:v),l=l++r)/\∀(x:v),x=b->∃(x_1:By),x_1=b/\h/\True/\a/\g/\gd (Nat.beq (List.length x) (List.length x_1)) (f/\e/\(∃(r:v),x=x_1++r)/\True)))) (∃(x:By),x=b/\h/\True/\a/\g/\gd (Nat.beq s (List.length x)) (f/\e/\(∃(r:v),l=x++r)/\True))
def D_s(T:TD)(l:By)(i:Nat)(j:Nat):Prop:=
 letI u:=i+1;letI t:=List UInt8;letI s:=Int.ofNat 0;letI p:=List.length l;letI q:=True/\True;letI n:=T.tx u j;letI m:=a_f T=a_f T;letI k:=l++n;letI h:=True/\q;letI f:=Value.int .i64 s;letI g:=Value.int .i64 (Int.ofNat 1);letI e:=Value.int IntKind.i8 s;letI c:=f=f;letI d:=g=g;letI b:=e=e;letI a:=h/\(((((h/\q)/\q)/\q)/\q)/\True)/\True;m/\True/\∀(x:Unit),True->br (TD.hasT T u j) (m/\((WT n/\List.length n<=2147483647)/\fits 2147483647 l)/\gd (Nat.beq u u&&Nat.beq j j&&true) (gd (Nat.beq p p) (c/\b/\(∃(r:t),l=l++r)/\∀(x:t),x=k->∃(x_1:By),x_1=k/\m/\True/\a/\d/\gd (Nat.beq (List.length x) (List.length x_1)) (c/\b/\(∃(r:t),x=x_1++r)/\True)))) (∃(x:By),x=k/\m/\True/\a/\d/\gd (Nat.beq p (List.length x)) (c/\b/\(∃(r:t),l=x++r)/\True))
theorem v_6(T:TD):TabOk Tryz.prog (ydU T):=by
 refine⟨fun f s h=>?_,fun f s h=>?_⟩
 ·unfold ydU at h
  simp only at h
  split at h
  ·cases h;exact a_d d_8 (h_q T).1
  ·cases h;exact a_d q_H (D_p T).1
  ·cases h
 ·cases h
theorem D_t(T:TD)(l:By)(j:Nat)(h:T.hasT 0 j=true/\(WT (T.tx 0 j)/\(T.tx 0 j).length<=2147483647)/\fits 2147483647 l):D_q T l j:=by
 unfold D_q
 obtain⟨h,h1,h2⟩:=h
 simp only[TD.hasT,TD.wh] at h⊢
 simp only[sj3,h,eq_self,implies_true,Bool.true_eq_false,false_implies,true_implies,forall_eq,sj2,a_e,sj0]
 exact fun _=>⟨⟨h1,h2⟩,⟨[],an⟩,[],an⟩
theorem D_u(T:TD)(l:By)(j:Nat)(h:T.hasT 0 j=true/\(WT (T.tx 0 j)/\(T.tx 0 j).length<=2147483647)/\fits 2147483647 l):D_r T l j:=by
 unfold D_r
 obtain⟨h,h1,h2⟩:=h
 simp only[TD.hasT,TD.wh] at h⊢
 simp only[sj3,h,eq_self,implies_true,Bool.true_eq_false,false_implies,true_implies,forall_eq,sj2,a_e,sj0]
 exact fun _=>⟨⟨h1,h2⟩,⟨[],an⟩,[],an⟩
theorem D_v(T:TD)(l:By)(i j:Nat)(h:T.hasT (i+1) j=true/\(WT (T.tx (i+1) j)/\(T.tx (i+1) j).length<=2147483647)/\fits 2147483647 l):D_s T l i j:=by
 unfold D_s
 obtain⟨h,h1,h2⟩:=h
 simp only[TD.hasT,TD.wh] at h⊢
 simp only[sj3,h,eq_self,implies_true,Bool.true_eq_false,false_implies,true_implies,forall_eq,sj2,a_e,sj0]
 exact fun _=>⟨⟨h1,h2⟩,⟨[],an⟩,[],an⟩
theorem D_w(T:TD):(ydS T).Body Tryz.prog 59/\(ydS T).BodyD Tryz.prog 59:=by
 refine a_c (fn:=Tryz.f59) (b:=a_b Tryz.f59) (LT:=fun _=>[]) a_l (v_6 T) 1000 (fun a ha=>LTok.nil) aa aa ?_
 intro a ha
 obtain⟨l,i,j⟩:=a
 cases i with
 |succ i=>exact Ho.of (D_s T l i j) aa (D_v T l i j ha)
 |zero=>
  cases hh:T.hd with
  |true=>
   obtain⟨T',rfl⟩:∃T':TD,T=T'.wh true:=⟨T,ag⟩
   exact Ho.of (D_q T' l j) aa (D_t T' l j ha)
  |false=>
   obtain⟨T',rfl⟩:∃T':TD,T=T'.wh false:=⟨T,ag⟩
   exact Ho.of (D_r T' l j) aa (D_u T' l j ha)
def D_x(T:TD)(l:By)(j:Nat):Prop:=
 letI h:=Int.ofNat 0;letI g:=True/\True;letI f:=a_f (TD.wh T true);letI e:=True/\g;letI c:=Value.int .i64 (Int.ofNat 1);letI d:=Value.int .i64 h;letI b:=Value.int IntKind.i8 h;letI a:=f=f;a/\True/\∀(x:Unit),True->br (TD.hasT (TD.mk T.R T.2 true T.4 T.pad T.keep T.span T.promote T.pres T.skip T.role T.12 T.13 T.14 T.15 T.oP T.oK T.oM) 0 j) False (∃(x:By),x=l/\a/\True/\(e/\(((((e/\g)/\g)/\g)/\g)/\True)/\True)/\c=c/\gd (Nat.beq (List.length l) (List.length x)) (d=d/\b=b/\(∃(r:List UInt8),l=x++r)/\True))
def D_y(T:TD)(l:By)(j:Nat):Prop:=
 letI h:=Int.ofNat 0;letI g:=True/\True;letI f:=a_f (TD.wh T false);letI e:=True/\g;letI c:=Value.int .i64 (Int.ofNat 1);letI d:=Value.int .i64 h;letI b:=Value.int IntKind.i8 h;letI a:=f=f;a/\True/\∀(x:Unit),True->br (TD.hasT (TD.mk T.R T.2 false T.4 T.pad T.keep T.span T.promote T.pres T.skip T.role T.12 T.13 T.14 T.15 T.oP T.oK T.oM) 0 j) False (∃(x:By),x=l/\a/\True/\(e/\(((((e/\g)/\g)/\g)/\g)/\True)/\True)/\c=c/\gd (Nat.beq (List.length l) (List.length x)) (d=d/\b=b/\(∃(r:List UInt8),l=x++r)/\True))
def D_z(T:TD)(l:By)(i:Nat)(j:Nat):Prop:=
 letI g:=Int.ofNat 0;letI f:=True/\True;letI e:=a_f T=a_f T;letI d:=True/\f;letI b:=Value.int .i64 (Int.ofNat 1);letI c:=Value.int .i64 g;letI a:=Value.int IntKind.i8 g;e/\True/\∀(x:Unit),True->br (TD.hasT T (i+1) j) False (∃(x:By),x=l/\e/\True/\(d/\(((((d/\f)/\f)/\f)/\f)/\True)/\True)/\b=b/\gd (Nat.beq (List.length l) (List.length x)) (c=c/\a=a/\(∃(r:List UInt8),l=x++r)/\True))
theorem D_A(T:TD)(l:By)(j:Nat)(h:T.hasT 0 j=false/\fits 0 l):D_x T l j:=by
 unfold D_x
 obtain⟨h,h1⟩:=h
 simp only[TD.hasT,TD.wh] at h⊢
 simp only[sj3,h,eq_self,implies_true,Bool.false_eq_true,false_implies,true_implies,sj2,a_e,sj0]
 exact fun _=>⟨[],an⟩
theorem D_B(T:TD)(l:By)(j:Nat)(h:T.hasT 0 j=false/\fits 0 l):D_y T l j:=by
 unfold D_y
 obtain⟨h,h1⟩:=h
 simp only[TD.hasT,TD.wh] at h⊢
 simp only[sj3,h,eq_self,implies_true,Bool.false_eq_true,false_implies,true_implies,sj2,a_e,sj0]
 exact fun _=>⟨[],an⟩
theorem D_C(T:TD)(l:By)(i j:Nat)(h:T.hasT (i+1) j=false/\fits 0 l):D_z T l i j:=by
 unfold D_z
 obtain⟨h,h1⟩:=h
 simp only[TD.hasT,TD.wh] at h⊢
 simp only[sj3,h,eq_self,implies_true,Bool.false_eq_true,false_implies,true_implies,sj2,a_e,sj0]
 exact fun _=>⟨[],an⟩
theorem D_D(T:TD):(yeS T).Body Tryz.prog 59/\(yeS T).BodyD Tryz.prog 59:=by
 refine a_c (fn:=Tryz.f59) (b:=a_b Tryz.f59) (LT:=fun _=>[]) a_l (q_I T) 1000 (fun a ha=>LTok.nil) aa aa ?_
 intro a ha
 obtain⟨l,i,j⟩:=a
 cases i with
 |succ i=>exact Ho.of (D_z T l i j) aa (D_C T l i j ha)
 |zero=>
  cases hh:T.hd with
  |true=>
   obtain⟨T',rfl⟩:∃T':TD,T=T'.wh true:=⟨T,ag⟩
   exact Ho.of (D_x T' l j) aa (D_A T' l j ha)
  |false=>
   obtain⟨T',rfl⟩:∃T':TD,T=T'.wh false:=⟨T,ag⟩
   exact Ho.of (D_y T' l j) aa (D_B T' l j ha)
end Tk

