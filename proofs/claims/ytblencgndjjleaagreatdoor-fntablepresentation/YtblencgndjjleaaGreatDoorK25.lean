/- Lemmas of this claim; the last text says what is proved. -/
import Derived.Test.YtblencgndjjleaaGreatDoorK24
set_option linter.all false
set_option maxRecDepth 1000000
namespace Tk
open Go Go.Sx Go.Proofs
open Q
variable [Syms]
def wnR(T:TD)(p:By):Prop:=
 letI n1:=List UInt8;letI m1:=Int.ofNat 0;letI k1:=List.length p;letI h1:=a_f T=a_f T;letI g1:=k1-0;letI f1:=64<=64/\True;letI d1:=Int.ofNat k1;letI c1:=Value.int .i64 m1;letI a1:=List.take g1 p;letI z:=(True/\True/\True)/\True;letI y:=Value.int IntKind.i8 m1;letI w:=List.replicate k1 (0:UInt8);letI v:=IntKind.wrap .i64 (Int.ofNat (0+k1));letI u:=decide (d1<=m1);letI t:=decide (d1<=Int.ofNat 64);letI s:=List.length w;letI q:=c1=c1;letI n:=Int.toNat v;letI m:=n-0;letI k:=y=y;letI h:=List.take m p;letI g:=IntKind.wrap .i64 (m1+v);letI f:=Int.toNat g;letI e:=gd (decide (v=m1)) (∃(x:By),x=p/\h1/\True/\z/\False);letI c:=a_J (List.replicate f (0:UInt8)) 0 (List.take f []);letI b:=List.length c;letI a:=br (decide (g<m1)) False (gd (decide (m1<g)&&decide (g<=Int.ofNat 140737488355328)) (∀(d:Nat),letI e1:=d*1<=d/\True;letI b1:=Nat.blt d 9223372036854775808;f<=d->d<9223372036854775808->gd (decide (m1<=v)&&decide (v<=Int.ofNat d)) (gd (decide (Int.ofNat n<=Int.ofNat d)) (br (Nat.ble (0+Nat.min k1 m) b) (∃(x:By),x=p/\h1/\True/\z/\gd (Nat.beq n (List.length x)) (gd b1 (q/\k/\(∃(r:n1),a_J c 0 h=x++r)/\e1))) (gd (Nat.beq 0 b&&(Nat.ble (0+d) d&&true)) (∃(x:By),x=p/\h1/\True/\z/\gd (Nat.beq n (List.length x)) (gd b1 (q/\k/\(∃(r:n1),c++h=x++r)/\e1))))))));br u e (br u e (br t (gd (t&&true) (gd t (br (Nat.ble (0+Nat.min k1 g1) s) (∃(x:By),x=p/\h1/\True/\z/\gd (Nat.beq k1 (List.length x)) (q/\k/\(∃(r:n1),a_J w 0 a1=x++r)/\f1)) (gd (Nat.beq 0 s&&true) (∃(x:By),x=p/\h1/\True/\z/\gd (Nat.beq k1 (List.length x)) (q/\k/\(∃(r:n1),w++a1=x++r)/\f1)))))) (br u e (br (decide (m1>IntKind.wrap .i64 (Int.ofNat 9223372036854775807-d1))) (gd (Syms.gn 7 0) False) (a/\a)))))
theorem q_G(T:TD):TabOk Tryz.prog (wnU T):=by
 refine⟨fun f s h=>?_,fun f s h=>?_⟩
 ·cases h
 ·unfold wnU at h
  simp only at h
  split at h
  ·cases h;exact q_a
  ·cases h
theorem H_J(T:TD)(p:By)(h:0<p.length/\p.length<=a_i):wnR T p:=by
 unfold wnR
 obtain⟨h1,h3⟩:=h
 simp only[a_i] at h3
 have e0:IntKind.wrap IntKind.i64 (Int.ofNat 0)=Int.ofNat 0:=ar
 have e1:IntKind.wrap IntKind.i64 (Int.ofNat p.length)=Int.ofNat p.length:=a_o ab ab
 have tn:∀n:Nat,Int.toNat (Int.ofNat n)=n:=fun n=>rfl
 have tk:List.take p.length p=p:=List.take_length
 have e2:IntKind.wrap IntKind.i64 (Int.ofNat 0+Int.ofNat p.length)=Int.ofNat p.length:=ah
 have e3:IntKind.wrap IntKind.i64 (Int.ofNat 9223372036854775807-Int.ofNat p.length)=Int.ofNat 9223372036854775807-Int.ofNat p.length:=a_o ab ab
 try simp only[List.drop_zero,List.take_nil,Nat.add_zero,Nat.sub_zero,Nat.zero_add,tn,tk,e1,e2,e3]
 try simp only[List.drop_zero,Nat.add_zero,Nat.sub_zero,Nat.zero_add,tn,tk,sj2,a_e,and_true,true_and,forall_const,exists_eq_left,List.length_append,List.length_replicate,a_U,Int.ofNat_eq_natCast,List.length_take,Bool.not_true,Bool.not_false,g_e]
 repeat' (first|done|omega|exact rfl|exact trivial|assumption|(exfalso;omega)|intro _|exact⟨[],(List.append_nil _).symm⟩|exact wnL ac|exact G_Y ac ac|exact G_Z (Nat.le_refl _)|refine And.intro ?_ ?_)
theorem f_L:a_t Tryz.prog 342:=⟨Tryz.f342,aa,rfl,aa⟩
theorem v_G(T:TD):(wnS T).Body Tryz.prog 342/\(wnS T).BodyD Tryz.prog 342:=by
 refine a_c (fn:=Tryz.f342) (b:=a_b Tryz.f342) (LT:=fun _=>[]) a_l (q_G T) 1000 (fun a ha=>LTok.nil) aa aa ?_
 exact fun a ha=>Ho.of (wnR T a) aa (H_J T a ha)
def xtR(T:TD)(i:Nat)(j:Nat):Prop:=
 letI s:=T.tx i j;letI q:=List UInt8;letI p:=Int.ofNat 0;letI n:=True/\True;letI h:=a_f T=a_f T;letI g:=True/\n;letI e:=Value.int .i64 p;letI f:=Value.int .i64 (Int.ofNat 1);letI d:=Value.int IntKind.i8 p;letI c:=e=e;letI a:=d=d;h/\True/\∀(x:Unit),True->h/\((∀(b:UInt8),b∈s->UInt8.toNat b≠60/\UInt8.toNat b≠62)/\List.length s<=70368744177664)/\s=s/\∀(x:q),letI m:=List.length x;x=s->gd (Nat.ble m 140737488355328) (h/\(WT x/\m<=70368744177664)/\0+m<=m/\List.take m x=x/\∀(x_1:q),letI k:=List.length x_1;x_1=x->h/\(0<k/\k<=70368744177664)/\x_1=x_1/\c/\a/\∀(x:q),x=x_1->∃(x_2:By),x_2=s/\h/\True/\(g/\(((((g/\n)/\n)/\n)/\n)/\True)/\True)/\f=f/\gd (Nat.beq (List.length x) (List.length x_2)) (c/\a/\(∃(r:q),x=x_2++r)/\True))
theorem v_H(T:TD):TabOk Tryz.prog (xtU T):=by
 refine⟨fun f s h=>?_,fun f s h=>?_⟩
 ·unfold xtU at h
  simp only at h
  split at h
  ·cases h;exact a_d q_D (v_B T).1
  ·cases h;exact a_d q_E (v_C T).1
  ·cases h;exact a_d q_F (v_F T).1
  ·cases h;exact a_d f_L (v_G T).1
  ·cases h
 ·cases h
theorem H_K(T:TD)(i j:Nat)(h:WT (T.tx i j)/\0<(T.tx i j).length/\(T.tx i j).length<=2147483647):xtR T i j:=by
 unfold xtR
 obtain⟨h1,h2,h3⟩:=h
 simp only[sj3,forall_eq,eq_self,implies_true,List.take_length,sj2,a_e,sj0]
 exact fun _ _=>⟨⟨fun b hb=>by have:=h1 b hb;unfold wc at this;omega,ac⟩,ac,⟨h1,ac⟩,Nat.le_refl _,⟨h2,ac⟩,[],an⟩
theorem q_H:a_t Tryz.prog 81:=⟨Tryz.f81,aa,rfl,aa⟩
theorem B_O(T:TD):(xtS T).Body Tryz.prog 81/\(xtS T).BodyD Tryz.prog 81:=by
 refine a_c (fn:=Tryz.f81) (b:=a_b Tryz.f81) (LT:=fun _=>[]) a_l (v_H T) 1000 (fun a ha=>LTok.nil) aa aa ?_
 exact fun a ha=>Ho.of (xtR T a.1 a.2) aa (H_K T a.1 a.2 ha)
def B_P(T:TD)(j:Nat):Prop:=
 letI t:=Int.ofNat 0;letI s:=True/\True;letI q:=a_f (TD.wh T true);letI p:=True/\s;letI m:=Value.int .i64 t;letI n:=Value.int .i64 (Int.ofNat 1);letI k:=Value.int IntKind.i8 t;letI h:=q=q;letI f:=m=m;letI g:=n=n;letI e:=k=k;letI d:=TD.mk T.R T.2 true T.4 T.pad T.keep T.span T.promote T.pres T.skip T.role T.12 T.13 T.14 T.15 T.oP T.oK T.oM;letI c:=d.tx 0 j;letI b:=List.length c;letI a:=p/\(((((p/\s)/\s)/\s)/\s)/\True)/\True;h/\True/\∀(x:Unit),True->br (TD.hasT d 0 j) (h/\(WT c/\0<b/\b<=2147483647)/\gd (Nat.beq j j&&true) (f/\e/\∀(x:List UInt8),x=c->∃(x_1:By),x_1=c/\h/\True/\a/\g/\gd (Nat.beq (List.length x) (List.length x_1)) (f/\e/\(∃(r:List UInt8),x=x_1++r)/\True))) (∃(x:By),x=c/\h/\True/\a/\g/\False)
def B_Q(T:TD)(j:Nat):Prop:=
 letI t:=Int.ofNat 0;letI s:=True/\True;letI q:=a_f (TD.wh T false);letI p:=True/\s;letI m:=Value.int .i64 t;letI n:=Value.int .i64 (Int.ofNat 1);letI k:=Value.int IntKind.i8 t;letI h:=q=q;letI f:=m=m;letI g:=n=n;letI e:=k=k;letI d:=TD.mk T.R T.2 false T.4 T.pad T.keep T.span T.promote T.pres T.skip T.role T.12 T.13 T.14 T.15 T.oP T.oK T.oM;letI c:=d.tx 0 j;letI b:=List.length c;letI a:=p/\(((((p/\s)/\s)/\s)/\s)/\True)/\True;h/\True/\∀(x:Unit),True->br (TD.hasT d 0 j) (h/\(WT c/\0<b/\b<=2147483647)/\gd (Nat.beq j j&&true) (f/\e/\∀(x:List UInt8),x=c->∃(x_1:By),x_1=c/\h/\True/\a/\g/\gd (Nat.beq (List.length x) (List.length x_1)) (f/\e/\(∃(r:List UInt8),x=x_1++r)/\True))) (∃(x:By),x=c/\h/\True/\a/\g/\False)
def B_R(T:TD)(i:Nat)(j:Nat):Prop:=
 letI s:=i+1;letI q:=Int.ofNat 0;letI p:=True/\True;letI n:=T.tx s j;letI m:=a_f T=a_f T;letI k:=True/\p;letI f:=List.length n;letI g:=Value.int .i64 q;letI h:=Value.int .i64 (Int.ofNat 1);letI e:=Value.int IntKind.i8 q;letI c:=g=g;letI d:=h=h;letI b:=e=e;letI a:=k/\(((((k/\p)/\p)/\p)/\p)/\True)/\True;m/\True/\∀(x:Unit),True->br (TD.hasT T s j) (m/\(WT n/\0<f/\f<=2147483647)/\gd (Nat.beq s s&&Nat.beq j j&&true) (c/\b/\∀(x:List UInt8),x=n->∃(x_1:By),x_1=n/\m/\True/\a/\d/\gd (Nat.beq (List.length x) (List.length x_1)) (c/\b/\(∃(r:List UInt8),x=x_1++r)/\True))) (∃(x:By),x=n/\m/\True/\a/\d/\False)
theorem v_I(T:TD):TabOk Tryz.prog (xdU T):=by
 refine⟨fun f s h=>?_,fun f s h=>?_⟩
 ·unfold xdU at h
  simp only at h
  split at h
  ·cases h;exact a_d d_8 (h_q T).1
  ·cases h;exact a_d q_H (B_O T).1
  ·cases h
 ·cases h
theorem B_S(T:TD)(j:Nat)(h:T.hasT 0 j=true/\WT (T.tx 0 j)/\0<(T.tx 0 j).length/\(T.tx 0 j).length<=2147483647):B_P T j:=by
 unfold B_P
 obtain⟨h,h1,h2,h3⟩:=h
 simp only[TD.hasT,TD.wh] at h⊢
 simp only[sj3,h,eq_self,implies_true,Bool.true_eq_false,false_implies,true_implies,forall_eq,sj2,a_e,sj0]
 exact fun _=>⟨⟨h1,h2,h3⟩,[],an⟩
theorem B_T(T:TD)(j:Nat)(h:T.hasT 0 j=true/\WT (T.tx 0 j)/\0<(T.tx 0 j).length/\(T.tx 0 j).length<=2147483647):B_Q T j:=by
 unfold B_Q
 obtain⟨h,h1,h2,h3⟩:=h
 simp only[TD.hasT,TD.wh] at h⊢
 simp only[sj3,h,eq_self,implies_true,Bool.true_eq_false,false_implies,true_implies,forall_eq,sj2,a_e,sj0]
 exact fun _=>⟨⟨h1,h2,h3⟩,[],an⟩
theorem B_U(T:TD)(i j:Nat)(h:T.hasT (i+1) j=true/\WT (T.tx (i+1) j)/\0<(T.tx (i+1) j).length/\(T.tx (i+1) j).length<=2147483647):B_R T i j:=by
 unfold B_R
 obtain⟨h,h1,h2,h3⟩:=h
 simp only[TD.hasT,TD.wh] at h⊢
 simp only[sj3,h,eq_self,implies_true,Bool.true_eq_false,false_implies,true_implies,forall_eq,sj2,a_e,sj0]
 exact fun _=>⟨⟨h1,h2,h3⟩,[],an⟩
theorem e_a:a_t Tryz.prog 59:=⟨Tryz.f59,aa,rfl,aa⟩
theorem B_V(T:TD):(xdS T).Body Tryz.prog 59/\(xdS T).BodyD Tryz.prog 59:=by
 refine a_c (fn:=Tryz.f59) (b:=a_b Tryz.f59) (LT:=fun _=>[]) a_l (v_I T) 1000 (fun a ha=>LTok.nil) aa aa ?_
 intro a ha
 obtain⟨i,j⟩:=a
 cases i with
 |succ i=>exact Ho.of (B_R T i j) aa (B_U T i j ha)
 |zero=>
  cases hh:T.hd with
  |true=>
   obtain⟨T',rfl⟩:∃T':TD,T=T'.wh true:=⟨T,ag⟩
   exact Ho.of (B_P T' j) aa (B_S T' j ha)
  |false=>
   obtain⟨T',rfl⟩:∃T':TD,T=T'.wh false:=⟨T,ag⟩
   exact Ho.of (B_Q T' j) aa (B_T T' j ha)
def B_W(T:TD)(j:Nat):Prop:=
 letI h:=Int.ofNat 0;letI g:=True/\True;letI f:=a_f (TD.wh T true);letI e:=True/\g;letI c:=Value.int .i64 (Int.ofNat 1);letI d:=Value.int .i64 h;letI b:=Value.int IntKind.i8 h;letI a:=f=f;a/\True/\∀(x:Unit),True->br (TD.hasT (TD.mk T.R T.2 true T.4 T.pad T.keep T.span T.promote T.pres T.skip T.role T.12 T.13 T.14 T.15 T.oP T.oK T.oM) 0 j) False (∃(x:Unit),True/\a/\True/\(e/\((((e/\g)/\g)/\g)/\g)/\True)/\c=c/\d=d/\b=b/\True)
def B_X(T:TD)(j:Nat):Prop:=
 letI h:=Int.ofNat 0;letI g:=True/\True;letI f:=a_f (TD.wh T false);letI e:=True/\g;letI c:=Value.int .i64 (Int.ofNat 1);letI d:=Value.int .i64 h;letI b:=Value.int IntKind.i8 h;letI a:=f=f;a/\True/\∀(x:Unit),True->br (TD.hasT (TD.mk T.R T.2 false T.4 T.pad T.keep T.span T.promote T.pres T.skip T.role T.12 T.13 T.14 T.15 T.oP T.oK T.oM) 0 j) False (∃(x:Unit),True/\a/\True/\(e/\((((e/\g)/\g)/\g)/\g)/\True)/\c=c/\d=d/\b=b/\True)
def B_Y(T:TD)(i:Nat)(j:Nat):Prop:=
 letI g:=Int.ofNat 0;letI f:=True/\True;letI e:=a_f T=a_f T;letI d:=True/\f;letI b:=Value.int .i64 (Int.ofNat 1);letI c:=Value.int .i64 g;letI a:=Value.int IntKind.i8 g;e/\True/\∀(x:Unit),True->br (TD.hasT T (i+1) j) False (∃(x:Unit),True/\e/\True/\(d/\((((d/\f)/\f)/\f)/\f)/\True)/\b=b/\c=c/\a=a/\True)
theorem q_I(T:TD):TabOk Tryz.prog (xeU T):=by
 refine⟨fun f s h=>?_,fun f s h=>?_⟩
 ·unfold xeU at h
  simp only at h
  split at h
  ·cases h;exact a_d d_8 (h_q T).1
  ·cases h
 ·cases h
theorem B_Z(T:TD)(j:Nat)(h:T.hasT 0 j=false):B_W T j:=by
 unfold B_W
 simp only[TD.hasT,TD.wh] at h⊢
 simp only[sj3,h,eq_self,implies_true,Bool.false_eq_true,false_implies,true_implies,sj2,a_e,sj0]
theorem B_0(T:TD)(j:Nat)(h:T.hasT 0 j=false):B_X T j:=by
 unfold B_X
 simp only[TD.hasT,TD.wh] at h⊢
 simp only[sj3,h,eq_self,implies_true,Bool.false_eq_true,false_implies,true_implies,sj2,a_e,sj0]
theorem B_1(T:TD)(i j:Nat)(h:T.hasT (i+1) j=false):B_Y T i j:=by
 unfold B_Y
 simp only[TD.hasT,TD.wh] at h⊢
 simp only[sj3,h,eq_self,implies_true,Bool.false_eq_true,false_implies,true_implies,sj2,a_e,sj0]
theorem B_2(T:TD):(xeS T).Body Tryz.prog 59/\(xeS T).BodyD Tryz.prog 59:=by
 refine a_c (fn:=Tryz.f59) (b:=a_b Tryz.f59) (LT:=fun _=>[]) a_l (q_I T) 1000 (fun a ha=>LTok.nil) aa aa ?_
 intro a ha
 obtain⟨i,j⟩:=a
 cases i with
 |succ i=>exact Ho.of (B_Y T i j) aa (B_1 T i j ha)
 |zero=>
  cases hh:T.hd with
  |true=>
   obtain⟨T',rfl⟩:∃T':TD,T=T'.wh true:=⟨T,ag⟩
   exact Ho.of (B_W T' j) aa (B_Z T' j ha)
  |false=>
   obtain⟨T',rfl⟩:∃T':TD,T=T'.wh false:=⟨T,ag⟩
   exact Ho.of (B_X T' j) aa (B_0 T' j ha)
def B_3(T:TD)(m:By)(k:Nat):Prop:=
 letI p:=Int.ofNat 1;letI q:=Int.ofNat 0;letI n:=List.length m;letI h:=a_f T=a_f T;letI f:=Int.ofNat k-p;letI g:=Int.ofNat n;letI e:=Int.toNat f;letI d:=IntKind.wrap .i64 (f+p);letI c:=UInt8.toNat (List.getD m e (0:UInt8));letI b:=Int.ofNat c;letI a:=decide (q<=d)&&decide (d<=g);br (decide (f≥q)) (gd (decide (q<=f)&&decide (f<g)) (gd (Nat.blt e n) (br (decide (b≥Int.ofNat 128)) (gd a False) (gd (decide (b<Int.ofNat 256)) (gd (Syms.gn 2 c) (br (Int.ofNat (UInt8.toNat (Syms.gf 2 c))==q) (gd a (∃(x:List UInt8),x=trim m/\h/\List.take (Int.toNat d) m=x/\True)) (∃(j':Nat),trJ m j'/\j'<k/\h/\m=m/\Value.int .i64 (IntKind.wrap .i64 (f-p))=Value.int .i64 (Int.ofNat j'-p)/\True))))))) (∃(x:Unit),False/\h/\True)
def B_4(T:TD)(l:By)(i:Nat):Prop:=
 letI m:=List.length l;letI n:=List.drop i l;letI k:=a_f T=a_f T;letI h:=Int.ofNat m;letI g:=List.length n;letI f:=UInt8.toNat (List.getD l i (0:UInt8));letI e:=Value.int .i64 h;letI d:=decide (Int.ofNat i<h);letI c:=Int.ofNat f;letI b:=Int.ofNat g-Int.ofNat 1;letI a:=decide (Int.ofNat i<=h)&&decide (h<=h);br d (gd d (gd (Nat.blt i m) (br (decide (c≥Int.ofNat 128)) (gd a False) (gd (decide (c<Int.ofNat 256)) (gd (Syms.gn 2 f) (br (Int.ofNat (UInt8.toNat (Syms.gf 2 f))!=Int.ofNat 0) (∃(j':Nat),trK l j'/\m-j'<m-i/\k/\l=l/\l=l/\e=e/\Value.int .i64 (IntKind.wrap .i64 (Int.ofNat (i+1)))=Value.int .i64 (Int.ofNat j')/\True) (gd a (trJ n g/\(k/\n=n/\Value.int .i64 (IntKind.wrap .i64 b)=Value.int .i64 b/\True)/\(∀(x:List UInt8),x=trim n->∃(x_1:List UInt8),x_1=trim l/\k/\x=x_1/\True)/\∀(x:Unit),False->False)))))))) (∃(x:Unit),trim l=[]/\k/\True)
def trR(T:TD)(l:By):Prop:=
 letI d:=trim l;letI c:=a_f T=a_f T;letI b:=Value.int .i64 (Int.ofNat 0);letI a:=Value.int .i64 (Int.ofNat (List.length l));trK l 0/\(c/\l=l/\l=l/\a=a/\b=b/\True)/\(∀(x:Unit),d=[]->∃(x:By),x=d/\c/\True/\True/\x=[]/\True)/\∀(x:List UInt8),x=d->∃(x_1:By),x_1=d/\c/\True/\True/\x=x_1/\True
theorem n_0(T:TD):TabOk Tryz.prog (trU T):=by
 refine⟨fun f s h=>?_,fun f s h=>?_⟩
 ·unfold trU at h
  simp only at h
  split at h
  ·cases h;exact f_9
  ·cases h
 ·cases h
theorem B_5(T:TD)(m:By)(k:Nat)(hd:(∀b∈m,b.toNat<128)/\m.length<=a_i/\T.Ok)(h:trJ m k):B_3 T m k:=by
 unfold B_3
 obtain⟨h1,h2,h3⟩:=hd
 simp only[a_i] at h2
 obtain⟨k,rfl⟩:∃n,k=n+1:=⟨k-1,by have:=s_h h;omega⟩
 have hk:=h.1
 have e0:Int.ofNat (k+1)-Int.ofNat 1=Int.ofNat k:=ab
 have e1:IntKind.wrap IntKind.i64 (Int.ofNat k+Int.ofNat 1)=Int.ofNat (k+1):=ah
 have tn:∀n:Nat,Int.toNat (Int.ofNat n)=n:=fun n=>rfl
 have hb:(m.getD k 0).toNat<128:=h1 _ (b_a ac)
 have hg:=h3.g _ (show(m.getD k 0).toNat<256 by omega)
 simp only[e0,e1,tn]
 simp only[sj3,hg,b_F,b_P,sj2,a_e,sj0]
 exact⟨fun _=>⟨ac,ac,fun h=>ac,fun _=>⟨ac,fun e=>⟨ac,s_i h (s_f.2 e)⟩,fun e=>⟨k,y_j h (s_e.2 e),ac,congrArg _ (a_o ac ac)⟩⟩⟩,fun h=>absurd (Nat.zero_le _) h⟩
theorem B_6(T:TD)(m:By)(hd:(∀b∈m,b.toNat<128)/\m.length<=a_i/\T.Ok):(trI T m).Body Tryz.prog (sub (a_b Tryz.f162) [0,0,1,1,1,1,1,0,0,1,1,0,0,1,0,1]):=by
 refine LoopD.bodyH (root:=(a_b Tryz.f162)) [0,0,1,1,1,1,1,0,0,1,1,0,0,1,0,1] a_l (n_0 T) (LTok.nil) 1000 ?_
 exact fun i hi=>Ho.of (B_3 T m i) aa (B_5 T m i hd hi)
theorem B_7(T:TD)(l:By)(i:Nat)(hd:(∀b∈l,b.toNat<128)/\l.length<=a_i/\T.Ok)(h:trK l i):B_4 T l i:=by
 unfold B_4
 obtain⟨h1,h2,h3⟩:=hd
 simp only[a_i] at h2
 have hI:=h.1
 have e1:i<l.length->IntKind.wrap IntKind.i64 (Int.ofNat (i+1))=Int.ofNat (i+1):=fun h=>ae
 have e2:i<l.length->IntKind.wrap IntKind.i64 (Int.ofNat (l.drop i).length-Int.ofNat 1)=Int.ofNat (l.drop i).length-Int.ofNat 1:=fun h=>by rw[List.length_drop,a_o ab ab]
 have hb:i<l.length->(l.getD i 0).toNat<128:=fun h=>h1 _ (b_a h)
 have hg:=fun h:i<l.length=>h3.g _ (show(l.getD i 0).toNat<256 by have:=hb h;omega)
 simp only[sj3,x_v,y_m,sj2,a_e,sj0]
 exact⟨fun g=>⟨g,g,fun e=>by have:=hb g;omega,fun _=>⟨by have:=hb g;omega,hg g,fun e=>⟨i+1,y_i h g (s_e.2 e),ac,congrArg _ (e1 g)⟩,fun e=>⟨ac,y_k h g (s_f.2 e),congrArg _ (e2 g),fun x hx=>by rw[hx,y_l h g (s_f.2 e)],fun _ h=>h.elim⟩⟩⟩,fun g=>s_g h ac⟩
theorem B_8(T:TD)(l:By)(hd:(∀b∈l,b.toNat<128)/\l.length<=a_i/\T.Ok):(trD T l).Body Tryz.prog (sub (a_b Tryz.f162) [0,0,1,0,1]):=by
 refine LoopD.bodyHj (root:=(a_b Tryz.f162)) (LT:=fun i=>[([0,1,1,1,1,1,0,0,1,1,0,0,1,0,1],(trI T (l.drop i)).at (List.length (l.drop i)))]) [0,0,1,0,1] a_l (n_0 T) (fun i hi=>LTok.cons (fun fr H K hk=>LoopD.ok (B_6 T (l.drop i) ⟨fun b hb=>hd.1 b (List.mem_of_mem_drop hb),h_i hd.2.1,hd.2.2⟩) hk) (LTok.nil)) 1000 ?_
 exact fun i hi=>Ho.of (B_4 T l i) aa (B_7 T l i hd hi)
theorem H_L(T:TD)(l:By):trR T l:=by
 unfold trR
 try simp only[a_j,a_p,Bool.and_eq_true,sj5,a_m,a_e,sj4,sj8]
 repeat' (first|done|omega|exact rfl|exact trivial|assumption|exact y_h|exact()|intro _|refine⟨?_,?_⟩)
theorem q_J:a_t Tryz.prog 162:=⟨Tryz.f162,aa,rfl,aa⟩
theorem v_J(T:TD):(trS T).Body Tryz.prog 162/\(trS T).BodyD Tryz.prog 162:=by
 refine a_c (fn:=Tryz.f162) (b:=a_b Tryz.f162) (LT:=fun l=>[([0,1,0,1],(trD T l).at (0:Nat))]) a_l (n_0 T) 1000 (fun l ha=>LTok.cons (fun fr H K hk=>LoopD.ok (B_8 T l ha) hk) (LTok.nil)) aa aa ?_
 exact fun a ha=>Ho.of (trR T a) aa (H_L T a)
def v_K(T:TD)(l:By)(old:By)(c:UInt8)(r:By):Prop:=
 letI t:=c::r;letI s:=old=old;letI q:=List.length l;letI n:=a_f T=a_f T;letI p:=t=t;letI k:=List.length r+1;letI m:=q+1;letI h:=Int.ofNat q;letI g:=UInt8.toNat (List.getD l 0 (0:UInt8));letI f:=decide (Int.ofNat 0<h);letI e:=IntKind.wrap .i64 (Int.ofNat (0+List.length old));letI d:=decide (e<=h);letI b:=∃(j':Unit),True/\m<m/\n/\l=l/\s/\p/\False;letI a:=gd f (gd (Nat.blt 0 q) (gd (decide (Int.ofNat g<Int.ofNat 256)&&true&&true) (b\/∃(j':Nat×By),rpI l old t j'.fst j'.snd/\q-j'.fst<m/\n/\l=l/\s/\p/\gd (Nat.beq 1 (List.length j'.snd)) (Value.int .i64 (Int.ofNat 1)=Value.int .i64 (Int.ofNat j'.fst)/\(∃(r:List UInt8),[UInt8.ofNat g]=j'.snd++r)/\True))));br f (br d (gd (decide (Int.ofNat 0<=e)&&d) (br (eqL (List.drop 0 (List.take (Int.toNat e) l)) old) (gd (Nat.ble k 140737488355328) (b\/∃(j':Nat×By),rpI l old t j'.fst j'.snd/\q-j'.fst<m/\n/\l=l/\s/\p/\gd (Nat.beq k (List.length j'.snd)) (Value.int .i64 e=Value.int .i64 (Int.ofNat j'.fst)/\(∃(r_1:List UInt8),t=j'.snd++r_1)/\True))) a)) a) ((∃(x:Unit),True/\n/\rpF l old t=[]/\True)\/False)
def v_L(T:TD)(l:By)(old:By)(c:UInt8)(r:By)(i:Nat)(out:By):Prop:=
 letI y:=c::r;letI w:=old=old;letI v:=List.length l;letI s:=List.length out;letI t:=a_f T=a_f T;letI u:=y=y;letI q:=v-i;letI p:=s+1;letI n:=Int.ofNat v;letI m:=List.take s out;letI k:=s+List.length r+1;letI h:=UInt8.toNat (List.getD l i (0:UInt8));letI g:=Nat.ble s s;letI f:=decide (Int.ofNat i<n);letI e:=IntKind.wrap .i64 (Int.ofNat (i+List.length old));letI d:=decide (e<=n);letI b:=∃(j':Unit),True/\v+1<q/\t/\l=l/\w/\u/\False;letI a:=gd f (gd (Nat.blt i v) (gd (decide (Int.ofNat h<Int.ofNat 256)&&true&&true) (gd (g&&(Nat.ble p 140737488355328&&true)) (b\/∃(j':Nat×By),rpI l old y j'.fst j'.snd/\v-j'.fst<q/\t/\l=l/\w/\u/\gd (Nat.beq p (List.length j'.snd)) (Value.int .i64 (IntKind.wrap .i64 (Int.ofNat (i+1)))=Value.int .i64 (Int.ofNat j'.fst)/\(∃(r:List UInt8),m++[UInt8.ofNat h]=j'.snd++r)/\True)))));br f (br d (gd (decide (Int.ofNat i<=e)&&d) (br (eqL (List.drop i (List.take (Int.toNat e) l)) old) (gd (g&&(Nat.ble k 140737488355328&&true)) (b\/∃(j':Nat×By),rpI l old y j'.fst j'.snd/\v-j'.fst<q/\t/\l=l/\w/\u/\gd (Nat.beq k (List.length j'.snd)) (Value.int .i64 e=Value.int .i64 (Int.ofNat j'.fst)/\(∃(r_1:List UInt8),m++y=j'.snd++r_1)/\True))) a)) a) ((∃(x:Unit),True/\t/\0+s<=s/\m=rpF l old y/\True)\/False)
def rtR(T:TD)(l:By)(old:By)(c:UInt8)(r:By):Prop:=
 letI d:=a_f T=a_f T;letI b:=rpF l old (c::r);letI a:=Value.int .i64 (Int.ofNat 0);True/\(d/\l=l/\old=old/\c::r=c::r/\a=a/\True)/\∀(x:Unit),True->∃(x:By),x=b/\d/\True/\True/\b=x/\True
theorem s_O(T:TD)(l old:By)(c:UInt8)(r:By)(hd:0<old.length/\l.length<=a_i/\old.length<=a_i/\(c::r).length<=old.length):v_K T l old c r:=by
 unfold v_K
 obtain⟨h1,h2,h3,h4⟩:=hd
 simp only[a_i] at h2 h3
 have h:=y_g (l:=l) (old:=old) (new:=c::r)
 have hI:=h.1
 have hl:=h.2.1
 have tn:∀n:Nat,Int.toNat (Int.ofNat n)=n:=fun n=>rfl
 have tk:List.take ([]:By).length []=([]:By):=List.take_length
 have ofN:∀c:UInt8,UInt8.ofNat c.toNat=c:=fun c=>an
 have e1:IntKind.wrap IntKind.i64 (Int.ofNat old.length)=Int.ofNat old.length:=a_o ab ab
 have e2:l.length≥1->IntKind.wrap IntKind.i64 (Int.ofNat 1)=Int.ofNat 1:=fun h=>a_o ab ab
 have hb:∀i,(List.getD l i 0).toNat<256:=fun i=>(List.getD l i 0).toNat_lt
 have Y:=fun(g1:old.length<=l.length) (g2:eqL (List.drop 0 (List.take old.length l)) old=true)=>t_8 h (old:=old) ac h1 h4 aO
 have N1:=fun(g1:0<l.length) (g2:¬old.length<=l.length)=>p_n h (old:=old) g1 (fun g=>absurd g ac)
 have N2:=fun(g1:0<l.length) (g2:eqL (List.drop 0 (List.take old.length l)) old=false)=>p_n h (old:=old) g1 (fun g=>aO)
 simp only[Nat.zero_add,List.nil_append] at Y N1 N2
 simp only[List.length_cons] at h4
 simp only[Nat.zero_add,Nat.add_zero,e1,tn,tk,ofN]
 simp only[sj3,sj2,a_e,and_true,true_and,Int.ofNat_eq_natCast,and_false,exists_const,exists_false,false_or,List.length_cons,List.length_append,List.length_nil,or_false]
 refine⟨fun g1=>⟨fun g2=>⟨ac,fun g3=>⟨ac,?_⟩,fun g3=>⟨ac,ac,aC,?_⟩⟩,fun g2=>⟨ac,ac,aC,?_⟩⟩,fun g1=>?_⟩
 ·exact⟨(old.length,c::r),Y g2 g3,aM,an,rfl,⟨[],an⟩⟩
 ·exact⟨(1,[l.getD 0 0]),N2 g1 g3,aM,an,rfl,⟨[],an⟩⟩
 ·exact⟨(1,[l.getD 0 0]),N1 g1 ac,aM,an,rfl,⟨[],an⟩⟩
 ·exact(m_G h ac).symm
theorem s_P(T:TD)(l old:By)(c:UInt8)(r:By)(i:Nat)(out:By)(hd:0<old.length/\l.length<=a_i/\old.length<=a_i/\(c::r).length<=old.length)(h:rpI l old (c::r) i out):v_L T l old c r i out:=by
 unfold v_L
 obtain⟨h1,h2,h3,h4⟩:=hd
 simp only[a_i] at h2 h3
 have hI:=h.1
 have hl:=h.2.1
 have tn:∀n:Nat,Int.toNat (Int.ofNat n)=n:=fun n=>rfl
 have tk:List.take (out:By).length out=(out:By):=List.take_length
 have ofN:∀c:UInt8,UInt8.ofNat c.toNat=c:=fun c=>an
 have e1:IntKind.wrap IntKind.i64 (Int.ofNat (i+old.length))=Int.ofNat (i+old.length):=a_o ab ab
 have e2:l.length≥(i+1)->IntKind.wrap IntKind.i64 (Int.ofNat (i+1))=Int.ofNat (i+1):=fun h=>a_o ab ab
 have hb:∀i,(List.getD l i 0).toNat<256:=fun i=>(List.getD l i 0).toNat_lt
 have Y:=fun(g1:(i+old.length)<=l.length) (g2:eqL (List.drop i (List.take (i+old.length) l)) old=true)=>t_8 h (old:=old) ac h1 h4 aO
 have N1:=fun(g1:i<l.length) (g2:¬(i+old.length)<=l.length)=>p_n h (old:=old) g1 (fun g=>absurd g ac)
 have N2:=fun(g1:i<l.length) (g2:eqL (List.drop i (List.take (i+old.length) l)) old=false)=>p_n h (old:=old) g1 (fun g=>aO)
 simp only[List.length_cons] at h4
 simp only[Nat.zero_add,Nat.add_zero,e1,tn,tk,ofN]
 simp only[sj3,sj2,a_e,and_true,true_and,Int.ofNat_eq_natCast,and_false,exists_const,exists_false,false_or,List.length_cons,List.length_append,List.length_nil,or_false]
 refine⟨fun g1=>⟨fun g2=>⟨ac,fun g3=>⟨ac,?_⟩,fun g3=>⟨ac,ac,aC,?_⟩⟩,fun g2=>⟨ac,ac,aC,?_⟩⟩,fun g1=>?_⟩
 ·exact⟨(i+old.length,out++c::r),Y g2 g3,aM,by simp[Nat.add_assoc],rfl,⟨[],an⟩⟩
 ·exact⟨ac,(i+1,out++[l.getD i 0]),N2 g1 g3,aM,an,bI,⟨[],an⟩⟩
 ·exact⟨ac,(i+1,out++[l.getD i 0]),N1 g1 ac,aM,an,bI,⟨[],an⟩⟩
 ·exact⟨Nat.le_refl _,m_G h ac⟩
theorem B_9(T:TD)(l old:By)(c:UInt8)(r:By)(hd:0<old.length/\l.length<=a_i/\old.length<=a_i/\(c::r).length<=old.length):(rtD T l old c r).Body2 (z_o T l old c r) Tryz.prog (sub (a_b Tryz.f424) [0,0,1,0,1,1]):=by
 refine LoopD.bodyH2 (root:=(a_b Tryz.f424)) (LT:=[]) [0,0,1,0,1,1] a_l (a_y) (LTok.nil) 1000 ?_ ?_
 ·exact fun j hj=>Ho.of (v_K T l old c r) aa (s_O T l old c r hd)
 ·exact fun j hj=>Ho.of (v_L T l old c r j.1 j.2) aa (s_P T l old c r j.1 j.2 hd hj)
theorem C_a(T:TD)(l old:By)(c:UInt8)(r:By):rtR T l old c r:=by
 unfold rtR
 try simp only[a_j,a_p,Bool.and_eq_true,sj5,a_m,a_e,sj4,sj8]
 repeat' (first|done|omega|exact rfl|exact trivial|exact()|intro _|refine⟨?_,?_⟩)
theorem v_M:a_t Tryz.prog 424:=⟨Tryz.f424,aa,rfl,aa⟩
theorem C_b(T:TD):(rtS T).Body Tryz.prog 424/\(rtS T).BodyD Tryz.prog 424:=by
 refine a_c (fn:=Tryz.f424) (b:=a_b Tryz.f424) (LT:=fun⟨l,old,c,r⟩=>[([0,1,0,1,1],(rtD T l old c r).at ())]) a_l (a_y) 1000 (fun⟨l,old,c,r⟩ ha=>LTok.cons (fun fr H K hk=>LoopD.ok2 (B_9 T l old c r ha) hk) (LTok.nil)) aa aa ?_
 exact fun a ha=>Ho.of (rtR T a.1 a.2.1 a.2.2.1 a.2.2.2) aa (C_a T a.1 a.2.1 a.2.2.1 a.2.2.2)
end Tk

