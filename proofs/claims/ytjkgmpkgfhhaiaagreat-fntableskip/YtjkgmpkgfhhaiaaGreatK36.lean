/- Lemmas of this claim; the last text says what is proved. -/
import Derived.Test.YtjkgmpkgfhhaiaaGreatK22
import Derived.Test.YtjkgmpkgfhhaiaaGreatK29
import Derived.Test.YtjkgmpkgfhhaiaaGreatK30
import Derived.Test.YtjkgmpkgfhhaiaaGreatK34
import Derived.Test.YtjkgmpkgfhhaiaaGreatK35
import Derived.Test.YtjkgmpkgfhhaiaaGreatK31
set_option linter.all false
set_option maxRecDepth 1000000
namespace Tk
open Go Go.Sx Go.Proofs
open Q
variable [Syms]
def kzR (T:TD):Prop:=
 letI g:=TD.Ok T;letI f:=T.R-hN T;letI e:=True/\True;letI d:=domB T=domB T;letI c:=fun(q:Nat)=>AVal.sp (SId.mk 4 (q+hN T) 0) 0;letI b:=g/\allE (rn T) (rc T) (f+1)=true;letI a:=f=f/\SubF c c f []/\∀(x:Unit),True->∃(x:Unit),True/\d/\True/\((((((True/\e)/\e)/\e)/\e)/\e)/\True)/\True;d/\g/\∀(x:Unit),True->d/\g/\∀(x:Unit),True->br T.hd (d/\g/\br T.hd (∀(x:Unit),True->d/\b/\br T.hd a False) False) (d/\g/\br T.hd False (∀(x:Unit),True->d/\b/\br T.hd False a))
theorem kzU_ok (T:TD):TabOk Tryz.prog (kzU T):=by
 refine⟨fun f s h=>?_,fun f s h=>?_⟩
 ·unfold kzU at h
  simp only at h
  split at h
  ·cases h;exact genS_ok f3_fok (f3_ok T).1
  ·cases h;exact genS_ok sh_fok (sh_ok T).1
  ·cases h;exact genS_ok nr_fok (nr_ok T).1
  ·cases h;exact genS_ok cz_fok (cz_ok T).1
  ·cases h
 ·cases h
theorem kz_r (T:TD) (hT:T.Ok/\allE (rn T) (rc T) (nR T)=true):kzR T:=by
 unfold kzR
 obtain⟨h1,h2⟩:=hT
 have h3:allE (rn T) (rc T) (T.R-hN T+1)=true:=h2
 simp only[sj2,eq_self,implies_true,forall_eq,sj1,leB_iff',sj0]
 repeat' (first|exact h1|exact h3|exact rfl|exact trivial|exact fun _ _ _=>pinA|exact()|(exfalso;simp_all;done)|intro _|refine⟨?_,?_⟩)
theorem kz_fok:FunOk Tryz.prog 406:=⟨Tryz.f406,by kernel_rfl,rfl,by kernel_rfl⟩
theorem kz_ok (T:TD):(kzS T).Body Tryz.prog 406/\(kzS T).BodyD Tryz.prog 406:=by
 refine genS_body (fn:=Tryz.f406) (b:=(bodyOf Tryz.f406)) (LT:=fun _=>[]) ftOk (kzU_ok T) 1000 (fun _ ha=>LTok.nil) (by kernel_rfl) (by kernel_rfl) ?_
 exact fun a ha=>Ho.of (kzR T) (by kernel_rfl) (kz_r T ha)
def tNR (T:TD):Prop:=
 letI g:=Int.ofNat 0;letI f:=True/\True;letI e:=domB T=domB T;letI d:=True/\f;letI c:=Value.int .i64 g;letI b:=Value.int IntKind.i8 g;letI a:=c=c;e/\(TD.Ok T/\allE (rn T) (rc T) (T.R-hN T+1)=true)/\∀(x:Unit),True->∃(x:Unit),True/\e/\True/\(d/\((((d/\f)/\f)/\f)/\f)/\True)/\a/\a/\b=b/\True
theorem tNU_ok (T:TD):TabOk Tryz.prog (tNU T):=by
 refine⟨fun f s h=>?_,fun f s h=>?_⟩
 ·unfold tNU at h
  simp only at h
  split at h
  ·cases h;exact genS_ok kz_fok (kz_ok T).1
  ·cases h
 ·cases h
theorem tN_r (T:TD) (hT:T.Ok/\allE (rn T) (rc T) (nR T)=true):tNR T:=by
 unfold tNR
 simp only[sj2,eq_self,implies_true,forall_eq,intE,intF,Nat.le_eq,sj1,leB_iff',sj0]
 exact hT
theorem tN_fok:FunOk Tryz.prog 404:=⟨Tryz.f404,by kernel_rfl,rfl,by kernel_rfl⟩
theorem tN_ok (T:TD):(tNS T).Body Tryz.prog 404/\(tNS T).BodyD Tryz.prog 404:=by
 refine genS_body (fn:=Tryz.f404) (b:=(bodyOf Tryz.f404)) (LT:=fun _=>[]) ftOk (tNU_ok T) 1000 (fun a ha=>LTok.nil) (by kernel_rfl) (by kernel_rfl) ?_
 exact fun a ha=>Ho.of (tNR T) (by kernel_rfl) (tN_r T ha)
def tgYR (T:TD) (l:By) (n:Nat) (d:Nat):Prop:=
 letI v:=Int.ofNat 0;letI t:=List.length l;letI u:=True/\True;letI q:=domB T=domB T;letI s:=Value.bool true;letI p:=By×Nat×Nat;letI h:=Int.ofNat t;letI g:=Value.int .i64 v;letI f:=(True/\u)/\True;letI e:=Value.int IntKind.i8 v;letI c:=IntKind.wrap .i64 (Int.ofNat (t+n));letI b:=g=g;letI a:=e=e;br (decide (Int.ofNat n<=IntKind.wrap .i64 (Int.ofNat d-h))) (gd (decide (v<=c)&&decide (c<=Int.ofNat d)) (∃(x:p),letI k:=List.length x.fst;x=(l,n,d)/\q/\u/\f/\Value.int .i64 h=Value.int .i64 (Int.ofNat k)/\s=s/\gd (Nat.beq (Int.toNat c) (k+x.2.fst)) (d=x.2.snd/\b/\a/\(∃(r:List UInt8),l=x.fst++r)/\gd (Nat.ble x.2.snd d) True))) (∃(x:p),letI m:=List.length x.fst;x=(l,n,d)/\q/\u/\f/\g=Value.int .i64 (Int.ofNat m)/\Value.bool false=s/\gd (Nat.beq t (m+x.2.fst)) (d=x.2.snd/\b/\a/\(∃(r:List UInt8),l=x.fst++r)/\gd (Nat.ble x.2.snd d) True))
theorem tgY_r (T:TD) (l:By) (n d:Nat) (h:(l.length<=d/\d<9223372036854775808/\l.length+n<=bufMax)/\l.length+n<=d):tgYR T l n d:=by
 unfold tgYR
 obtain⟨h,hfit⟩:=h
 obtain⟨h1,h2,h3⟩:=h
 simp only[bufMax] at h3
 have e1:IntKind.wrap IntKind.i64 (Int.ofNat (l.length+n))=Int.ofNat (l.length+n):=wrapI (by simp only[Int.ofNat_eq_natCast];omega) (by simp only[Int.ofNat_eq_natCast];omega)
 have e2:IntKind.wrap IntKind.i64 (Int.ofNat d-Int.ofNat l.length)=Int.ofNat (d-l.length):=by rw[wrapI (by simp only[Int.ofNat_eq_natCast];omega) (by simp only[Int.ofNat_eq_natCast];omega)];simp only[Int.ofNat_eq_natCast];omega
 have e3:IntKind.wrap IntKind.i64 (Int.ofNat l.length)=Int.ofNat l.length:=wrapI (by simp only[Int.ofNat_eq_natCast];omega) (by simp only[Int.ofNat_eq_natCast];omega)
 have e4:IntKind.wrap IntKind.i64 (Int.ofNat (d / 2))=Int.ofNat (d / 2):=wrapI (by simp only[Int.ofNat_eq_natCast];omega) (by simp only[Int.ofNat_eq_natCast];omega)
 have e5:IntKind.wrap IntKind.i64 (Int.ofNat (d / 2)-Int.ofNat l.length)=Int.ofNat (d / 2)-Int.ofNat l.length:=wrapI (by simp only[Int.ofNat_eq_natCast];omega) (by simp only[Int.ofNat_eq_natCast];omega)
 have e6:IntKind.wrap IntKind.i64 (Int.ofNat l.length+Int.ofNat n)=Int.ofNat (l.length+n):=by rw[wrapI (by simp only[Int.ofNat_eq_natCast];omega) (by simp only[Int.ofNat_eq_natCast];omega)];simp only[Int.ofNat_eq_natCast];omega
 have e7:IntKind.wrap IntKind.i64 (Int.ofNat 9223372036854775807-Int.ofNat d)=Int.ofNat 9223372036854775807-Int.ofNat d:=wrapI (by simp only[Int.ofNat_eq_natCast];omega) (by simp only[Int.ofNat_eq_natCast];omega)
 have e8:IntKind.wrap IntKind.i64 (Int.ofNat 9223372036854775807-Int.ofNat d-Int.ofNat n)=Int.ofNat 9223372036854775807-Int.ofNat d-Int.ofNat n:=wrapI (by simp only[Int.ofNat_eq_natCast];omega) (by simp only[Int.ofNat_eq_natCast];omega)
 have e9:IntKind.wrap IntKind.i64 (Int.ofNat n)=Int.ofNat n:=wrapI (by simp only[Int.ofNat_eq_natCast];omega) (by simp only[Int.ofNat_eq_natCast];omega)
 have ea:d<l.length+n->IntKind.wrap IntKind.i64 (Int.ofNat (2*d))=Int.ofNat (2*d):=fun h=>wrapI (by simp only[Int.ofNat_eq_natCast];omega) (by simp only[Int.ofNat_eq_natCast];omega)
 have tn:∀n:Nat,Int.toNat (Int.ofNat n)=n:=fun n=>rfl
 have tk:List.take l.length l=l:=List.take_length
 try simp only[List.drop_zero,List.take_nil,Nat.add_zero,Nat.sub_zero,Nat.zero_add,tn,tk,e1,e2]
 try simp only[List.drop_zero,Nat.add_zero,Nat.sub_zero,Nat.zero_add,tn,tk,sj1,leB_iff',and_true,true_and,forall_const,exists_eq_left,List.length_append,List.length_replicate,spliceB_length,Int.ofNat_eq_natCast,List.length_take,Bool.not_true,Bool.not_false,natMin]
 repeat' (first|done|omega|exact rfl|exact trivial|assumption|(exfalso;omega)|intro _|exact⟨[],by simp⟩|refine And.intro ?_ ?_)
theorem tgY_fok:FunOk Tryz.prog 355:=⟨Tryz.f355,by kernel_rfl,rfl,by kernel_rfl⟩
theorem tgY_ok (T:TD):(tgYS T).Body Tryz.prog 355/\(tgYS T).BodyD Tryz.prog 355:=by
 refine genS_body (fn:=Tryz.f355) (b:=(bodyOf Tryz.f355)) (LT:=fun _=>[]) ftOk (nofOk) 1000 (fun a ha=>LTok.nil) (by kernel_rfl) (by kernel_rfl) ?_
 exact fun a ha=>Ho.of (tgYR T a.1 a.2.1 a.2.2) (by kernel_rfl) (tgY_r T a.1 a.2.1 a.2.2 ha)
def tgNR (T:TD) (l:By) (n:Nat) (d:Nat):Prop:=
 letI t:=Int.ofNat 0;letI q:=List.length l;letI s:=True/\True;letI p:=domB T=domB T;letI k:=By×Nat×Nat;letI m:=Value.bool false;letI h:=Int.ofNat q;letI g:=Value.int .i64 t;letI f:=(True/\s)/\True;letI e:=Value.int IntKind.i8 t;letI c:=IntKind.wrap .i64 (Int.ofNat (q+n));letI b:=g=g;letI a:=e=e;br (decide (Int.ofNat n<=IntKind.wrap .i64 (Int.ofNat d-h))) (gd (decide (t<=c)&&decide (c<=Int.ofNat d)) (∃(x:k),x=(l,n,d)/\p/\s/\f/\Value.int .i64 h=g/\Value.bool true=m/\gd (Nat.beq (Int.toNat c) (List.length x.fst)) (d=x.2.snd/\b/\a/\(∃(r:List UInt8),l=x.fst++r)/\gd (Nat.ble x.2.snd d) True))) (∃(x:k),x=(l,n,d)/\p/\s/\f/\b/\m=m/\gd (Nat.beq q (List.length x.fst)) (d=x.2.snd/\b/\a/\(∃(r:List UInt8),l=x.fst++r)/\gd (Nat.ble x.2.snd d) True))
theorem tgN_r (T:TD) (l:By) (n d:Nat) (h:(l.length<=d/\d<9223372036854775808/\l.length+n<=bufMax)/\d<l.length+n):tgNR T l n d:=by
 unfold tgNR
 obtain⟨h,hfit⟩:=h
 obtain⟨h1,h2,h3⟩:=h
 simp only[bufMax] at h3
 have e1:IntKind.wrap IntKind.i64 (Int.ofNat (l.length+n))=Int.ofNat (l.length+n):=wrapI (by simp only[Int.ofNat_eq_natCast];omega) (by simp only[Int.ofNat_eq_natCast];omega)
 have e2:IntKind.wrap IntKind.i64 (Int.ofNat d-Int.ofNat l.length)=Int.ofNat (d-l.length):=by rw[wrapI (by simp only[Int.ofNat_eq_natCast];omega) (by simp only[Int.ofNat_eq_natCast];omega)];simp only[Int.ofNat_eq_natCast];omega
 have e3:IntKind.wrap IntKind.i64 (Int.ofNat l.length)=Int.ofNat l.length:=wrapI (by simp only[Int.ofNat_eq_natCast];omega) (by simp only[Int.ofNat_eq_natCast];omega)
 have e4:IntKind.wrap IntKind.i64 (Int.ofNat (d / 2))=Int.ofNat (d / 2):=wrapI (by simp only[Int.ofNat_eq_natCast];omega) (by simp only[Int.ofNat_eq_natCast];omega)
 have e5:IntKind.wrap IntKind.i64 (Int.ofNat (d / 2)-Int.ofNat l.length)=Int.ofNat (d / 2)-Int.ofNat l.length:=wrapI (by simp only[Int.ofNat_eq_natCast];omega) (by simp only[Int.ofNat_eq_natCast];omega)
 have e6:IntKind.wrap IntKind.i64 (Int.ofNat l.length+Int.ofNat n)=Int.ofNat (l.length+n):=by rw[wrapI (by simp only[Int.ofNat_eq_natCast];omega) (by simp only[Int.ofNat_eq_natCast];omega)];simp only[Int.ofNat_eq_natCast];omega
 have e7:IntKind.wrap IntKind.i64 (Int.ofNat 9223372036854775807-Int.ofNat d)=Int.ofNat 9223372036854775807-Int.ofNat d:=wrapI (by simp only[Int.ofNat_eq_natCast];omega) (by simp only[Int.ofNat_eq_natCast];omega)
 have e8:IntKind.wrap IntKind.i64 (Int.ofNat 9223372036854775807-Int.ofNat d-Int.ofNat n)=Int.ofNat 9223372036854775807-Int.ofNat d-Int.ofNat n:=wrapI (by simp only[Int.ofNat_eq_natCast];omega) (by simp only[Int.ofNat_eq_natCast];omega)
 have e9:IntKind.wrap IntKind.i64 (Int.ofNat n)=Int.ofNat n:=wrapI (by simp only[Int.ofNat_eq_natCast];omega) (by simp only[Int.ofNat_eq_natCast];omega)
 have ea:d<l.length+n->IntKind.wrap IntKind.i64 (Int.ofNat (2*d))=Int.ofNat (2*d):=fun h=>wrapI (by simp only[Int.ofNat_eq_natCast];omega) (by simp only[Int.ofNat_eq_natCast];omega)
 have tn:∀n:Nat,Int.toNat (Int.ofNat n)=n:=fun n=>rfl
 have tk:List.take l.length l=l:=List.take_length
 try simp only[List.drop_zero,List.take_nil,Nat.add_zero,Nat.sub_zero,Nat.zero_add,tn,tk,e1,e2]
 try simp only[List.drop_zero,Nat.add_zero,Nat.sub_zero,Nat.zero_add,tn,tk,sj1,leB_iff',and_true,true_and,forall_const,exists_eq_left,List.length_append,List.length_replicate,spliceB_length,Int.ofNat_eq_natCast,List.length_take,Bool.not_true,Bool.not_false,natMin]
 repeat' (first|done|omega|exact rfl|exact trivial|assumption|(exfalso;omega)|intro _|exact⟨[],by simp⟩|refine And.intro ?_ ?_)
theorem tgN_ok (T:TD):(tgNS T).Body Tryz.prog 355/\(tgNS T).BodyD Tryz.prog 355:=by
 refine genS_body (fn:=Tryz.f355) (b:=(bodyOf Tryz.f355)) (LT:=fun _=>[]) ftOk (nofOk) 1000 (fun a ha=>LTok.nil) (by kernel_rfl) (by kernel_rfl) ?_
 exact fun a ha=>Ho.of (tgNR T a.1 a.2.1 a.2.2) (by kernel_rfl) (tgN_r T a.1 a.2.1 a.2.2 ha)
theorem tgSp_ok (T:TD):SpecOk Tryz.prog 355 (tgSp T):=iteS_ok (genS_ok tgY_fok (tgY_ok T).1) (genS_ok tgY_fok (tgN_ok T).1)
def grR (T:TD) (l:By) (n:Nat) (d:Nat):Prop:=
 letI w2:=By×Nat;letI v2:=List UInt8;letI t2:=Int.ofNat 0;letI u2:=Int.ofNat n;letI s2:=List.length l;letI r2:=domB T=domB T;letI n2:=s2+n;letI a2:=Int.ofNat 140737488355328;letI y1:=Value.int .i64 u2;letI z1:=Value.int .i64 t2;letI t1:=(True/\True/\True)/\True;letI s1:=Value.int IntKind.i8 t2;letI p1:=IntKind.wrap .i64 (Int.ofNat (s2+0));letI k1:=z1=z1;letI f1:=Value.int .i64 p1;letI d1:=s1=s1;letI c1:=IntKind.wrap .i64 (p1+u2);letI y:=Int.toNat c1;letI u:=decide (t2<=c1);letI a:=r2/\((s2<=d/\d<9223372036854775808/\n2<=70368744177664)/\d<n2)/\y1=y1/\gd (Nat.beq s2 s2) (d=d/\k1/\d1/\(∃(r:v2),l=l++r)/\gd (Nat.ble d d) (∀(x:By×Nat×Nat),letI p2:=List.length x.fst;letI q2:=Int.ofNat x.2.snd;letI b2:=p2-0;letI u1:=x.2.snd*1<=x.2.snd/\True;letI r1:=Nat.blt x.2.snd 9223372036854775808;letI q1:=IntKind.wrap .i64 (Int.ofNat (2*(x.2.snd-0)));letI n1:=List.take b2 (List.drop 0 x.fst);letI m1:=Nat.ble (0+b2) p2;letI h1:=decide (Int.ofNat p2<=q2);letI g1:=Int.toNat q1;letI e1:=List.length n1;letI b1:=List.take p2 n1;letI a1:=List.replicate g1 (0:UInt8);letI z:=IntKind.wrap .i64 (Int.ofNat b2+IntKind.wrap .i64 (Int.ofNat (0+n)));letI w:=List.length a1;letI v:=Int.toNat z;letI t:=List.take g1 n1;letI s:=List.replicate v (0:UInt8);letI q:=Nat.min e1 g1;letI p:=List.length s;letI m:=List.take v n1;letI h:=Nat.min e1 v;letI c:=u&&decide (c1<=q2);letI b:=gd h1 (br (decide (z<q1)) (gd (decide (t2<q1)&&decide (q1<=a2)) (∀(d:Nat),letI c2:=d*1<=d/\True;letI v1:=Nat.blt d 9223372036854775808;letI k:=decide (Int.ofNat q<=Int.ofNat d);letI f:=u&&decide (c1<=Int.ofNat d);g1<=d->d<9223372036854775808->gd m1 (br (Nat.ble (0+q) w) (gd k (gd f (∃(x_1:w2),letI g2:=List.length x_1.fst;(g2=n2/\List.take s2 x_1.fst=l/\x_1.snd=s2)/\r2/\True/\t1/\f1=Value.int .i64 (Int.ofNat x_1.snd)/\gd (Nat.beq y g2) (gd v1 (k1/\d1/\(∃(r:v2),spliceB a1 0 t=x_1.fst++r)/\c2))))) (gd (Nat.beq 0 w&&(Nat.ble (0+d) d&&true)) (gd k (gd f (∃(x_1:w2),letI h2:=List.length x_1.fst;(h2=n2/\List.take s2 x_1.fst=l/\x_1.snd=s2)/\r2/\True/\t1/\f1=Value.int .i64 (Int.ofNat x_1.snd)/\gd (Nat.beq y h2) (gd v1 (k1/\d1/\(∃(r:v2),a1++t=x_1.fst++r)/\c2))))))))) (gd (decide (t2<z)&&decide (z<=a2)) (∀(d:Nat),letI d2:=d*1<=d/\True;letI w1:=Nat.blt d 9223372036854775808;letI g:=u&&decide (c1<=Int.ofNat d);letI e:=decide (Int.ofNat h<=Int.ofNat d);v<=d->d<9223372036854775808->gd m1 (br (Nat.ble (0+h) p) (gd e (gd g (∃(x_1:w2),letI k2:=List.length x_1.fst;(k2=n2/\List.take s2 x_1.fst=l/\x_1.snd=s2)/\r2/\True/\t1/\f1=Value.int .i64 (Int.ofNat x_1.snd)/\gd (Nat.beq y k2) (gd w1 (k1/\d1/\(∃(r:v2),spliceB s 0 m=x_1.fst++r)/\d2))))) (gd (Nat.beq 0 p&&(Nat.ble (0+d) d&&true)) (gd e (gd g (∃(x_1:w2),letI m2:=List.length x_1.fst;(m2=n2/\List.take s2 x_1.fst=l/\x_1.snd=s2)/\r2/\True/\t1/\f1=Value.int .i64 (Int.ofNat x_1.snd)/\gd (Nat.beq y m2) (gd w1 (k1/\d1/\(∃(r:v2),s++m=x_1.fst++r)/\d2))))))))));x=(l,n,d)->br (decide (u2<=IntKind.wrap .i64 (IntKind.wrap .i64 (Int.ofNat (x.2.snd / 2))-p1))) (gd h1 (gd m1 (br (Nat.ble (0+Nat.min e1 p2) p2) (gd c (∃(x_1:w2),letI e2:=List.length x_1.fst;(e2=n2/\List.take s2 x_1.fst=l/\x_1.snd=s2)/\r2/\True/\t1/\f1=Value.int .i64 (Int.ofNat x_1.snd)/\gd (Nat.beq y e2) (gd r1 (k1/\d1/\(∃(r:v2),spliceB x.fst 0 b1=x_1.fst++r)/\u1)))) (gd (Nat.beq 0 p2&&(Nat.ble (0+x.2.snd) x.2.snd&&true)) (gd c (∃(x_1:w2),letI f2:=List.length x_1.fst;(f2=n2/\List.take s2 x_1.fst=l/\x_1.snd=s2)/\r2/\True/\t1/\f1=Value.int .i64 (Int.ofNat x_1.snd)/\gd (Nat.beq y f2) (gd r1 (k1/\d1/\(∃(r:v2),x.fst++b1=x_1.fst++r)/\u1)))))))) (br (decide (q2>IntKind.wrap .i64 (IntKind.wrap .i64 (Int.ofNat 9223372036854775807-q2)-u2))) (gd (Syms.gn 6 0) False) (b/\b))));br (p1==t2) a a
theorem grU_ok (T:TD):TabOk Tryz.prog (grU T):=by
 refine⟨fun f s h=>?_,fun f s h=>?_⟩
 ·unfold grU at h
  simp only at h
  split at h
  ·cases h;exact genS_ok tgY_fok (tgN_ok T).1
  ·cases h
 ·unfold grU at h
  simp only at h
  split at h
  ·cases h;exact rec378
  ·cases h
theorem gr_r (T:TD) (l:By) (n d:Nat) (h:(l.length<=d/\d<9223372036854775808/\l.length+n<=bufMax)/\d<l.length+n):grR T l n d:=by
 unfold grR
 obtain⟨h,hfit⟩:=h
 obtain⟨h1,h2,h3⟩:=h
 simp only[bufMax] at h3
 have e1:IntKind.wrap IntKind.i64 (Int.ofNat (l.length+n))=Int.ofNat (l.length+n):=wrapI (by simp only[Int.ofNat_eq_natCast];omega) (by simp only[Int.ofNat_eq_natCast];omega)
 have e2:IntKind.wrap IntKind.i64 (Int.ofNat d-Int.ofNat l.length)=Int.ofNat (d-l.length):=by rw[wrapI (by simp only[Int.ofNat_eq_natCast];omega) (by simp only[Int.ofNat_eq_natCast];omega)];simp only[Int.ofNat_eq_natCast];omega
 have e3:IntKind.wrap IntKind.i64 (Int.ofNat l.length)=Int.ofNat l.length:=wrapI (by simp only[Int.ofNat_eq_natCast];omega) (by simp only[Int.ofNat_eq_natCast];omega)
 have e4:IntKind.wrap IntKind.i64 (Int.ofNat (d / 2))=Int.ofNat (d / 2):=wrapI (by simp only[Int.ofNat_eq_natCast];omega) (by simp only[Int.ofNat_eq_natCast];omega)
 have e5:IntKind.wrap IntKind.i64 (Int.ofNat (d / 2)-Int.ofNat l.length)=Int.ofNat (d / 2)-Int.ofNat l.length:=wrapI (by simp only[Int.ofNat_eq_natCast];omega) (by simp only[Int.ofNat_eq_natCast];omega)
 have e6:IntKind.wrap IntKind.i64 (Int.ofNat l.length+Int.ofNat n)=Int.ofNat (l.length+n):=by rw[wrapI (by simp only[Int.ofNat_eq_natCast];omega) (by simp only[Int.ofNat_eq_natCast];omega)];simp only[Int.ofNat_eq_natCast];omega
 have e7:IntKind.wrap IntKind.i64 (Int.ofNat 9223372036854775807-Int.ofNat d)=Int.ofNat 9223372036854775807-Int.ofNat d:=wrapI (by simp only[Int.ofNat_eq_natCast];omega) (by simp only[Int.ofNat_eq_natCast];omega)
 have e8:IntKind.wrap IntKind.i64 (Int.ofNat 9223372036854775807-Int.ofNat d-Int.ofNat n)=Int.ofNat 9223372036854775807-Int.ofNat d-Int.ofNat n:=wrapI (by simp only[Int.ofNat_eq_natCast];omega) (by simp only[Int.ofNat_eq_natCast];omega)
 have e9:IntKind.wrap IntKind.i64 (Int.ofNat n)=Int.ofNat n:=wrapI (by simp only[Int.ofNat_eq_natCast];omega) (by simp only[Int.ofNat_eq_natCast];omega)
 have ea:d<l.length+n->IntKind.wrap IntKind.i64 (Int.ofNat (2*d))=Int.ofNat (2*d):=fun h=>wrapI (by simp only[Int.ofNat_eq_natCast];omega) (by simp only[Int.ofNat_eq_natCast];omega)
 have tn:∀n:Nat,Int.toNat (Int.ofNat n)=n:=fun n=>rfl
 have tk:List.take l.length l=l:=List.take_length
 have ea:=ea hfit
 simp only[forall_eq]
 try simp only[List.drop_zero,List.take_nil,Nat.add_zero,Nat.sub_zero,Nat.zero_add,tn,tk,e1,e2,e3,e4,e5,e6,e7,e8,e9,ea]
 try simp only[List.drop_zero,Nat.add_zero,Nat.sub_zero,Nat.zero_add,tn,tk,sj1,leB_iff',and_true,true_and,forall_const,exists_eq_left,List.length_append,List.length_replicate,spliceB_length,Int.ofNat_eq_natCast,List.length_take,Bool.not_true,Bool.not_false,natMin]
 repeat' (first|done|omega|exact rfl|exact trivial|assumption|(exfalso;omega)|intro _|exact⟨[],by simp⟩|exact grL (by first|exact rfl|exact List.take_of_length_le (by omega)) (by omega) (by assumption)|refine And.intro ?_ ?_)
theorem gr_fok:FunOk Tryz.prog 356:=⟨Tryz.f356,by kernel_rfl,rfl,by kernel_rfl⟩
theorem gr_ok (T:TD):(grS T).Body Tryz.prog 356/\(grS T).BodyD Tryz.prog 356:=by
 refine genS_body (fn:=Tryz.f356) (b:=(bodyOf Tryz.f356)) (LT:=fun _=>[]) ftOk (grU_ok T) 1000 (fun a ha=>LTok.nil) (by kernel_rfl) (by kernel_rfl) ?_
 exact fun a ha=>Ho.of (grR T a.1 a.2.1 a.2.2) (by kernel_rfl) (gr_r T a.1 a.2.1 a.2.2 ha)
def woR (T:TD) (l:By) (p:By) (d:Nat):Prop:=
 letI t1:=List UInt8;letI r1:=List.length l;letI s1:=List.length p;letI q1:=domB T=domB T;letI m1:=(l,s1,d);letI k1:=(s1,d).fst;letI d1:=Value.int .i64 (Int.ofNat 0);letI z:=∃(r:t1),l=l++r;letI y:=(True/\True/\True)/\True;letI w:=Value.int IntKind.i8 (Int.ofNat 0);letI t:=r1+k1;letI q:=Nat.beq r1 r1;letI n:=Value.int .i64 (Int.ofNat s1);letI g:=d1=d1;letI e:=w=w;letI b:=n=Value.int .i64 (Int.ofNat k1);letI a:=r1<=d/\d<9223372036854775808/\t<=70368744177664;br (Nat.ble t d) (q1/\(a/\t<=d)/\b/\gd q (d=d/\g/\e/\z/\gd (Nat.ble d d) (∀(x:By×Nat×Nat),letI p1:=List.length x.fst;letI g1:=p1+x.2.fst;letI a1:=x.2.snd*1<=x.2.snd/\True;letI u:=Nat.blt x.2.snd 9223372036854775808;letI s:=Int.ofNat g1;letI h:=g1-p1;letI f:=List.take h p;x=m1->gd (decide (Int.ofNat p1<=s)&&decide (s<=Int.ofNat x.2.snd)) (br (Nat.ble (p1+Nat.min s1 h) p1) (∃(x_1:By),x_1=l++p/\q1/\True/\y/\gd (Nat.beq g1 (List.length x_1)) (gd u (g/\e/\(∃(r:t1),spliceB x.fst p1 f=x_1++r)/\a1))) (gd (Nat.beq p1 p1&&(Nat.ble (p1+(x.2.snd-p1)) x.2.snd&&true)) (∃(x_1:By),x_1=l++p/\q1/\True/\y/\gd (Nat.beq g1 (List.length x_1)) (gd u (g/\e/\(∃(r:t1),x.fst++f=x_1++r)/\a1)))))))) (q1/\(a/\d<t)/\b/\gd q (d=d/\g/\e/\z/\gd (Nat.ble d d) (∀(x:By×Nat×Nat),letI h1:=(s1,x.2.snd);letI e1:=h1.snd;letI f1:=h1.fst;letI v:=(x.fst,s1,x.2.snd).fst;letI k:=List.length v;letI c:=k+f1;x=m1->q1/\((k<=e1/\e1<9223372036854775808/\c<=70368744177664)/\e1<c)/\n=Value.int .i64 (Int.ofNat f1)/\gd (Nat.beq (List.length x.fst) k) (x.2.snd=e1/\g/\e/\(∃(r:t1),x.fst=v++r)/\gd (Nat.ble e1 x.2.snd) (∀(x_1:By×Nat),letI n1:=List.length x_1.fst;letI c1:=n1-x_1.snd;letI b1:=Int.ofNat n1;letI m:=List.take c1 p;n1=c/\List.take k x_1.fst=v/\x_1.snd=k->gd (decide (Int.ofNat x_1.snd<=b1)&&decide (b1<=b1)) (br (Nat.ble (x_1.snd+Nat.min s1 c1) n1) (∃(x:By),x=l++p/\q1/\True/\y/\gd (Nat.beq n1 (List.length x)) (g/\e/\(∃(r:t1),spliceB x_1.fst x_1.snd m=x++r)/\True)) (gd (Nat.beq x_1.snd n1&&false) (∃(x:By),x=l++p/\q1/\True/\y/\gd (Nat.beq n1 (List.length x)) (g/\e/\(∃(r:t1),x_1.fst++m=x++r)/\True)))))))))
theorem woU_ok (T:TD):TabOk Tryz.prog (woU T):=by
 refine⟨fun f s h=>?_,fun f s h=>?_⟩
 ·unfold woU at h
  simp only at h
  split at h
  ·cases h;exact tgSp_ok T
  ·cases h;exact genS_ok gr_fok (gr_ok T).1
  ·cases h
 ·cases h
theorem wo_r (T:TD) (l p:By) (d:Nat) (h:l.length<=d/\d<9223372036854775808/\l.length+p.length<=bufMax):woR T l p d:=by
 unfold woR
 obtain⟨h1,h2,h3⟩:=h
 simp only[bufMax] at h3
 have e1:IntKind.wrap IntKind.i64 (Int.ofNat (l.length+p.length))=Int.ofNat (l.length+p.length):=wrapI (by simp only[Int.ofNat_eq_natCast];omega) (by simp only[Int.ofNat_eq_natCast];omega)
 have tn:∀n:Nat,Int.toNat (Int.ofNat n)=n:=fun n=>rfl
 have tk:List.take p.length p=p:=List.take_length
 simp only[forall_eq]
 try simp only[List.drop_zero,List.take_nil,Nat.add_zero,Nat.sub_zero,Nat.zero_add,tn,tk,e1]
 try simp only[List.drop_zero,Nat.add_zero,Nat.sub_zero,Nat.zero_add,tn,tk,sj1,leB_iff',and_true,true_and,forall_const,exists_eq_left,List.length_append,List.length_replicate,spliceB_length,Int.ofNat_eq_natCast,List.length_take,Bool.not_true,Bool.not_false,natMin]
 repeat' (first|done|omega|exact rfl|exact trivial|assumption|(exfalso;omega)|rintro x ⟨hx1,hx2,hx3⟩|intro _|exact⟨[],(List.append_nil _).symm⟩|exact bufA (by omega)|exact bufA0 (by omega)|exact wsL (by assumption) (by assumption) (by omega) (by omega)|refine And.intro ?_ ?_)
theorem wo_ok (T:TD):(woS T).Body Tryz.prog 335/\(woS T).BodyD Tryz.prog 335:=by
 refine genS_body (fn:=Tryz.f335) (b:=(bodyOf Tryz.f335)) (LT:=fun _=>[]) ftOk (woU_ok T) 1000 (fun a ha=>LTok.nil) (by kernel_rfl) (by kernel_rfl) ?_
 exact fun a ha=>Ho.of (woR T a.1 a.2.1 a.2.2) (by kernel_rfl) (wo_r T a.1 a.2.1 a.2.2 ha)
theorem ws_ok (T:TD):(wsS T).Body Tryz.prog 335:=fun a ha w0 F0 ι w vs hi hd=>by
 obtain⟨d,h63,hld,hi'⟩:=bufOpen hi
 exact(wo_ok T).1 (a.1,a.2,d) ⟨hld,h63,ha⟩ w0 F0 ι w vs hi' hd
def ytR (T:TD) (l:By) (i:Nat) (j:Nat):Prop:=
 letI s:=T.tx i j;letI q:=List UInt8;letI p:=Int.ofNat 0;letI m:=List.length l;letI n:=True/\True;letI h:=domB T=domB T;letI g:=True/\n;letI e:=Value.int .i64 p;letI f:=Value.int .i64 (Int.ofNat 1);letI d:=Value.int IntKind.i8 p;letI c:=e=e;letI a:=d=d;h/\True/\∀(x:Unit),True->h/\((∀(b:UInt8),b∈s->UInt8.toNat b≠60/\UInt8.toNat b≠62)/\List.length s<=70368744177664)/\s=s/\∀(x:q),letI k:=List.length x;x=s->gd (Nat.ble k 140737488355328) (h/\(WT x/\k<=70368744177664)/\0+k<=k/\List.take k x=x/\∀(x_1:q),x_1=x->h/\Nat.le (m+List.length x_1) 70368744177664/\x_1=x_1/\gd (Nat.beq m m) (c/\a/\(∃(r:q),l=l++r)/\∀(x:q),x=l++x_1->∃(x_2:By),x_2=l++s/\h/\True/\(g/\(((((g/\n)/\n)/\n)/\n)/\True)/\True)/\f=f/\gd (Nat.beq (List.length x) (List.length x_2)) (c/\a/\(∃(r:q),x=x_2++r)/\True)))
theorem ytU_ok (T:TD):TabOk Tryz.prog (ytU T):=by
 refine⟨fun f s h=>?_,fun f s h=>?_⟩
 ·unfold ytU at h
  simp only at h
  split at h
  ·cases h;exact genS_ok gt_fok (gt_ok T).1
  ·cases h;exact genS_ok ze_fok (ze_ok T).1
  ·cases h;exact genS_ok es_fok (es_ok T).1
  ·cases h;exact genS_ok wn_fok (ws_ok T)
  ·cases h
 ·cases h
theorem yt_r (T:TD) (l:By) (i j:Nat) (h:(WT (T.tx i j)/\(T.tx i j).length<=2147483647)/\fits 2147483647 l):ytR T l i j:=by
 unfold ytR
 obtain⟨⟨h1,h3⟩,h4⟩:=h
 simp only[fits,bufMax] at h4
 simp only[sj2,forall_eq,eq_self,implies_true,List.take_length,sj1,leB_iff',sj0]
 exact fun _ _=>⟨⟨fun b hb=>by have:=h1 b hb;unfold wc at this;omega,by omega⟩,by omega,⟨h1,by omega⟩,Nat.le_refl _,by refine(show l.length+(T.tx i j).length<=70368744177664 from ?_);omega,⟨[],by simp⟩,[],by simp⟩
theorem yt_ok (T:TD):(ytS T).Body Tryz.prog 73/\(ytS T).BodyD Tryz.prog 73:=by
 refine genS_body (fn:=Tryz.f73) (b:=(bodyOf Tryz.f73)) (LT:=fun _=>[]) ftOk (ytU_ok T) 1000 (fun a ha=>LTok.nil) (by kernel_rfl) (by kernel_rfl) ?_
 exact fun a ha=>Ho.of (ytR T a.1 a.2.1 a.2.2) (by kernel_rfl) (yt_r T a.1 a.2.1 a.2.2 ha)
end Tk
