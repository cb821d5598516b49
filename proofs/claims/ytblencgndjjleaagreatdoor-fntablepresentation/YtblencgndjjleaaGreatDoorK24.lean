/- Lemmas of this claim; the last text says what is proved. -/
import Derived.Test.YtblencgndjjleaaGreatDoorK23
set_option linter.all false
set_option maxRecDepth 1000000
namespace Tk
open Go Go.Sx Go.Proofs
open Q
variable [Syms]
def s_J(T:TD):Prop:=
 letI m:=true=true;letI k:=a_f (TD.wh T true);letI h:=k=k;letI g:=TD.mk T.R T.2 true T.4 T.pad T.keep T.span T.promote T.pres T.skip T.role T.12 T.13 T.14 T.15 T.oP T.oK T.oM;letI f:=g.R;letI e:=f+1;letI d:=e+1;letI c:=Nat.blt 1 f;letI b:=e<d;letI a:=∃(j':Unit),True/\d<d/\h/\False;h/\(m/\0<g.C 0)/\∀(x:Unit),True->br c (a\/(∃(j':Unit),m/\b/\h/\br c True False)\/(∃(j':Nat),letI n:=j'+1;(0<j'/\n<=f)/\f-j'<d/\h/\br (Nat.blt n f) (gd (Nat.beq 1 n&&true&&true) False) False)\/False) (a\/(∃(j':Unit),m/\b/\h/\br c False True)\/(∃(j':Nat),(0<j'/\j'+1<=f)/\f-j'<d/\h/\br (Nat.blt (j'+1) f) False False)\/False)
def s_K(T:TD):Prop:=
 letI m:=a_f (TD.wh T false);letI k:=fun(q:Nat)=>AVal.sp (SId.mk 4 q 0) 0;letI h:=m=m;letI g:=TD.mk T.R T.2 false T.4 T.pad T.keep T.span T.promote T.pres T.skip T.role T.12 T.13 T.14 T.15 T.oP T.oK T.oM;letI f:=g.R;letI e:=f+1;letI d:=e+1;letI c:=Nat.blt 1 f;letI b:=∃(j':Unit),True/\d<d/\h/\False;letI a:=∃(j':Unit),false=true/\e<d/\h/\br c False False;h/\Nat.le 1 (g.C 0)/\∀(x:Unit),True->br c (b\/a\/(∃(j':Nat),(0<j'/\j'<=f)/\f-j'<d/\h/\br (Nat.blt j' f) (gd (Nat.beq 1 j'&&true&&true) (gd (Nat.beq 1 j') (j'<=1/\SubF k k j' []/\True))) False)\/False) (b\/a\/(∃(j':Nat),(0<j'/\j'<=f)/\f-j'<d/\h/\br (Nat.blt j' f) False (gd (Nat.beq 1 j') (j'<=1/\SubF k k j' []/\True)))\/False)
def s_L(T:TD):Prop:=
 letI k:=a_f (TD.wh T true);letI h:=k=k;letI g:=fun(q:Nat)=>AVal.sp (SId.mk 4 (q+1) 0) 0;letI f:=TD.mk T.R T.2 true T.4 T.pad T.keep T.span T.promote T.pres T.skip T.role T.12 T.13 T.14 T.15 T.oP T.oK T.oM;letI e:=f.R;letI d:=e+1;letI c:=Nat.blt 1 e;letI b:=∃(j':Unit),True/\d+1<d/\h/\False;letI a:=∃(j':Unit),true=true/\d<d/\h/\br c False False;br c (h/\Nat.le 1 (f.C 1)/\∀(x:Unit),True->br (Nat.blt 2 e) (b\/a\/(∃(j':Nat),letI m:=j'+1;(0<j'/\m<=e)/\e-j'<d/\h/\br (Nat.blt m e) (gd (Nat.beq 2 m&&true&&true) (gd (Nat.beq 1 j') (j'<=1/\SubF g g j' []/\True))) False)\/False) (b\/a\/(∃(j':Nat),(0<j'/\j'+1<=e)/\e-j'<d/\h/\br (Nat.blt (j'+1) e) False (gd (Nat.beq 1 j') (j'<=1/\SubF g g j' []/\True)))\/False)) ((∃(x:Unit),True/\h/\e-1=0/\True)\/False)
def n_Y(T:TD)(c:Nat):Prop:=
 letI r:=c+1;letI n:=a_f (TD.wh T true);letI m:=n=n;letI k:=fun(q:Nat)=>AVal.sp (SId.mk 4 (q+1) 0) 0;letI h:=TD.mk T.R T.2 true T.4 T.pad T.keep T.span T.promote T.pres T.skip T.role T.12 T.13 T.14 T.15 T.oP T.oK T.oM;letI g:=SubF k k c [];letI f:=h.R;letI d:=f+1;letI e:=f-c;letI b:=∃(j':Unit),True/\d+1<e/\m/\False;letI a:=∃(j':Unit),true=true/\d<e/\m/\br (Nat.blt 1 f) False False;br (Nat.blt r f) (m/\(0<c/\c<=13/\0<h.C r)/\gd (Nat.beq r r&&true&&true) (gd (Nat.beq c c) (c<=c/\g/\∀(x:Nat),x=r->br (Nat.blt (r+1) f) (b\/a\/(∃(j':Nat),letI p:=j'+1;(0<j'/\p<=f)/\f-j'<e/\m/\br (Nat.blt p f) (gd (Nat.beq (r+1) p&&true&&true) (gd (Nat.beq x j') (j'<=x/\SubF k k j' []/\True))) False)\/False) (b\/a\/(∃(j':Nat),(0<j'/\j'+1<=f)/\f-j'<e/\m/\br (Nat.blt (j'+1) f) False (gd (Nat.beq x j') (j'<=x/\SubF k k j' []/\True)))\/False)))) ((∃(x:Unit),True/\m/\c=f-1/\c=c/\g/\True)\/False)
def n_Z(T:TD)(c:Nat):Prop:=
 letI r:=c+1;letI p:=a_f (TD.wh T false);letI n:=fun(q:Nat)=>AVal.sp (SId.mk 4 q 0) 0;letI m:=p=p;letI k:=SubF n n c [];letI h:=TD.mk T.R T.2 false T.4 T.pad T.keep T.span T.promote T.pres T.skip T.role T.12 T.13 T.14 T.15 T.oP T.oK T.oM;letI g:=h.R;letI e:=g+1;letI f:=g-c;letI d:=Nat.blt 1 g;letI b:=e<f;letI a:=∃(j':Unit),True/\e+1<f/\m/\False;br (Nat.blt c g) (m/\(0<c/\c<=13/\0<h.C c)/\gd (Nat.beq c c&&true&&true) (gd (Nat.beq c c) (c<=c/\k/\∀(x:Nat),x=r->br (Nat.blt r g) (a\/(∃(j':Unit),false=true/\b/\m/\br d (gd (Nat.beq r 1&&true&&true) False) False)\/(∃(j':Nat),(0<j'/\j'<=g)/\g-j'<f/\m/\br (Nat.blt j' g) (gd (Nat.beq r j'&&true&&true) (gd (Nat.beq x j') (j'<=x/\SubF n n j' []/\True))) False)\/False) (a\/(∃(j':Unit),false=true/\b/\m/\br d False False)\/(∃(j':Nat),(0<j'/\j'<=g)/\g-j'<f/\m/\br (Nat.blt j' g) False (gd (Nat.beq x j') (j'<=x/\SubF n n j' []/\True)))\/False)))) ((∃(x:Unit),True/\m/\c=g-0/\c=c/\k/\True)\/False)
def nyR(T:TD):Prop:=
 letI d:=T.R-hN T;letI c:=a_f T=a_f T;letI a:=fun(q:Nat)=>AVal.sp (SId.mk 4 (q+hN T) 0) 0;True/\(c/\br T.hd (br T.hd True False) (br T.hd False True))/\∀(x:Unit),True->∃(x:Unit),True/\c/\True/\(∀(i:Nat),letI b:=AVal.sp (SId.mk 4 (i+hN T) 0) 0;i<d->SubA 0 b b)/\d=d/\SubF a a d []/\True
theorem j_5(T:TD):TabOk Tryz.prog (nyU T):=by
 refine⟨fun f s h=>?_,fun f s h=>?_⟩
 ·unfold nyU at h
  simp only at h
  split at h
  ·cases h;exact c_X (a_d f_K (B_h T).1) (c_X (a_d f_K (B_p T).1) (c_X (a_d f_K (B_x T).1) (a_d f_K (v_t T).1)))
  ·cases h
 ·cases h
theorem v_u(T:TD)(hT:TD.Ok (T.wh true)):s_J T:=by
 unfold s_J
 have hr:=hT.r
 have hr2:=hT.r2
 have hc:=hT.c
 simp only[TD.wh,hN,cond_true,cond_false,a_j,a_p,Bool.and_eq_true,sj5,a_m,a_e,sj4,sj8,and_false,exists_false,false_or,or_false]
 try simp only[TD.wh] at hr hr2 hc
 repeat' (first|omega|exact fun _ _ _=>a_7|exact hc _ ac|exact Or.inl ⟨ac,fun h=>ac⟩|(right;refine⟨1,⟨ac,ac⟩,ac,?_⟩)|(right;refine⟨c+1,⟨ac,ac⟩,ac,?_⟩)|intro _|refine And.intro ?_ ?_)
theorem v_v(T:TD)(hT:TD.Ok (T.wh false)):s_K T:=by
 unfold s_K
 have hr:=hT.r
 have hr2:=hT.r2
 have hc:=hT.c
 simp only[TD.wh,hN,cond_true,cond_false,a_j,a_p,Bool.and_eq_true,sj5,a_m,a_e,sj4,sj8,and_false,exists_false,false_or,or_false]
 try simp only[TD.wh] at hr hr2 hc
 repeat' (first|omega|exact fun _ _ _=>a_7|exact hc _ ac|exact Or.inl ⟨ac,fun h=>ac⟩|(right;refine⟨1,⟨ac,ac⟩,ac,?_⟩)|(right;refine⟨c+1,⟨ac,ac⟩,ac,?_⟩)|intro _|refine And.intro ?_ ?_)
theorem v_w(T:TD)(hT:TD.Ok (T.wh true)):s_L T:=by
 unfold s_L
 have hr:=hT.r
 have hr2:=hT.r2
 have hc:=hT.c
 simp only[TD.wh,hN,cond_true,cond_false,a_j,a_p,Bool.and_eq_true,sj5,a_m,a_e,sj4,sj8,and_false,exists_false,false_or,or_false]
 try simp only[TD.wh] at hr hr2 hc
 repeat' (first|omega|exact fun _ _ _=>a_7|exact hc _ ac|exact Or.inl ⟨ac,fun h=>ac⟩|(right;refine⟨1,⟨ac,ac⟩,ac,?_⟩)|(right;refine⟨c+1,⟨ac,ac⟩,ac,?_⟩)|intro _|refine And.intro ?_ ?_)
theorem s_M(T:TD)(c:Nat)(hT:TD.Ok (T.wh true))(h:0<c/\c+1<=T.R):n_Y T c:=by
 unfold n_Y
 have hr:=hT.r
 have hr2:=hT.r2
 have hc:=hT.c
 simp only[TD.wh,hN,cond_true,cond_false,a_j,a_p,Bool.and_eq_true,sj5,a_m,a_e,sj4,sj8,and_false,exists_false,false_or,or_false]
 try simp only[TD.wh] at hr hr2 hc
 repeat' (first|omega|exact fun _ _ _=>a_7|exact hc _ ac|exact Or.inl ⟨ac,fun h=>ac⟩|(right;refine⟨1,⟨ac,ac⟩,ac,?_⟩)|(right;refine⟨c+1,⟨ac,ac⟩,ac,?_⟩)|intro _|refine And.intro ?_ ?_)
theorem s_N(T:TD)(c:Nat)(hT:TD.Ok (T.wh false))(h:0<c/\c<=T.R):n_Z T c:=by
 unfold n_Z
 have hr:=hT.r
 have hr2:=hT.r2
 have hc:=hT.c
 simp only[TD.wh,hN,cond_true,cond_false,a_j,a_p,Bool.and_eq_true,sj5,a_m,a_e,sj4,sj8,and_false,exists_false,false_or,or_false]
 try simp only[TD.wh] at hr hr2 hc
 repeat' (first|omega|exact fun _ _ _=>a_7|exact hc _ ac|exact Or.inl ⟨ac,fun h=>ac⟩|(right;refine⟨1,⟨ac,ac⟩,ac,?_⟩)|(right;refine⟨c+1,⟨ac,ac⟩,ac,?_⟩)|intro _|refine And.intro ?_ ?_)
theorem B_y(T:TD)(hT:T.Ok):(nyD T).Bodyn (G_7 T) Tryz.prog (sub (a_b Tryz.f435) [0,0,1,1,1]):=by
 refine List.forall_mem_cons.2 ⟨b_G (root:=(a_b Tryz.f435)) [0,0,1,1,1] a_l (j_5 T) (LTok.nil) 1000 ?_,List.forall_mem_cons.2 ⟨b_G (root:=(a_b Tryz.f435)) [0,0,1,1,1] a_l (j_5 T) (LTok.nil) 1000 ?_,List.forall_mem_cons.2 ⟨b_G (root:=(a_b Tryz.f435)) [0,0,1,1,1] a_l (j_5 T) (LTok.nil) 1000 ?_,fun _ h=>absurd h List.not_mem_nil⟩⟩⟩
 ·exact fun j hj=>by
   cases hh:T.hd with
   |true=>
    obtain⟨T',rfl⟩:∃T':TD,T=T'.wh true:=⟨T,ag⟩
    exact Ho.of (s_J T') aa (v_u T' hT)
   |false=>
    obtain⟨T',rfl⟩:∃T':TD,T=T'.wh false:=⟨T,ag⟩
    exact Ho.of (s_K T') aa (v_v T' hT)
 ·intro j hj
  obtain⟨T',rfl⟩:∃T':TD,T=T'.wh true:=⟨T,by cases T;have hj:_=true:=hj;simp only[TD.wh];simp only at hj;rw[hj]⟩
  exact Ho.of (s_L T') aa (v_w T' hT)
 ·exact fun j hj=>by
   cases hh:T.hd with
   |true=>
    obtain⟨T',rfl⟩:∃T':TD,T=T'.wh true:=⟨T,ag⟩
    exact Ho.of (n_Y T' j) aa (s_M T' j hT hj)
   |false=>
    obtain⟨T',rfl⟩:∃T':TD,T=T'.wh false:=⟨T,ag⟩
    exact Ho.of (n_Z T' j) aa (s_N T' j hT hj)
theorem H_F(T:TD)(hT:T.Ok):nyR T:=by
 unfold nyR
 try simp only[a_j,a_p,Bool.and_eq_true,sj5,a_m,a_e,sj4,sj8]
 repeat' (first|done|omega|exact rfl|exact trivial|exact a_7|exact fun _ _=>a_7|exact fun _ _ _=>a_7|(exfalso;simp_all;done)|intro _|refine⟨?_,?_⟩)
theorem B_z(T:TD):(nyS T).Body Tryz.prog 435/\(nyS T).BodyD Tryz.prog 435:=by
 refine a_c (fn:=Tryz.f435) (b:=a_b Tryz.f435) (LT:=fun _=>[([0,1,1,1],(nyD T).at ())]) a_l (j_5 T) 1000 (fun _ ha=>LTok.cons (fun fr H K hk=>LoopD.okn (B_y T ha) hk) (LTok.nil)) aa aa ?_
 exact fun a ha=>Ho.of (nyR T) aa (H_F T ha)
def nzR(T:TD):Prop:=
 letI e:=T.R-hN T;letI d:=a_f T=a_f T;letI b:=fun(q:Nat)=>AVal.sp (SId.mk 4 (q+hN T) 0) 0;letI a:=∀(x:Unit),True->∃(x:Unit),True/\d/\True/\(∀(i:Nat),letI c:=AVal.sp (SId.mk 4 (i+hN T) 0) 0;i<e->SubA 0 c c)/\e=e/\SubF b b e []/\True;d/\TD.Ok T/\br T.hd (br T.hd a False) (br T.hd False a)
theorem v_x(T:TD):TabOk Tryz.prog (nzU T):=by
 refine⟨fun f s h=>?_,fun f s h=>?_⟩
 ·unfold nzU at h
  simp only at h
  split at h
  ·cases h;exact a_d f_K (B_z T).1
  ·cases h
 ·cases h
theorem H_G(T:TD)(hT:T.Ok):nzR T:=by
 unfold nzR
 try simp only[a_j,a_p,Bool.and_eq_true,sj5,a_m,a_e,sj4,sj8]
 repeat' (first|done|omega|exact rfl|exact trivial|assumption|exact a_7|exact fun _ _=>a_7|exact fun _ _ _=>a_7|(exfalso;simp_all;done)|intro _|refine⟨?_,?_⟩)
theorem B_A(T:TD):(nzS T).Body Tryz.prog 435/\(nzS T).BodyD Tryz.prog 435:=by
 refine a_c (fn:=Tryz.f435) (b:=a_b Tryz.f435) (LT:=fun _=>[]) a_l (v_x T) 1000 (fun _ ha=>LTok.nil) aa aa ?_
 exact fun a ha=>Ho.of (nzR T) aa (H_G T ha)
def B_B(T:TD):Prop:=
 letI f:=a_f (TD.wh T true);letI d:=f=f;letI c:=fun(q:Nat)=>AVal.sp (SId.mk 4 (q+1) 0) 0;letI b:=TD.mk T.R T.2 true T.4 T.pad T.keep T.span T.promote T.pres T.skip T.role T.12 T.13 T.14 T.15 T.oP T.oK T.oM;letI a:=b.R-1;d/\TD.Ok b/\∀(x:Unit),True->∃(x:Unit),True/\d/\(∀(i:Nat),letI e:=AVal.sp (SId.mk 4 (i+1) 0) 0;i<a->SubA 0 e e)/\True/\a=a/\SubF c c a []/\True
def B_C(T:TD):Prop:=
 letI f:=a_f (TD.wh T false);letI d:=fun(q:Nat)=>AVal.sp (SId.mk 4 q 0) 0;letI c:=f=f;letI b:=TD.mk T.R T.2 false T.4 T.pad T.keep T.span T.promote T.pres T.skip T.role T.12 T.13 T.14 T.15 T.oP T.oK T.oM;letI a:=b.R-0;c/\TD.Ok b/\∀(x:Unit),True->∃(x:Unit),True/\c/\(∀(i:Nat),letI e:=AVal.sp (SId.mk 4 i 0) 0;i<a->SubA 0 e e)/\True/\a=a/\SubF d d a []/\True
theorem v_y(T:TD):TabOk Tryz.prog (nrU T):=by
 refine⟨fun f s h=>?_,fun f s h=>?_⟩
 ·unfold nrU at h
  simp only at h
  split at h
  ·cases h;exact a_d f_K (B_A T).1
  ·cases h
 ·cases h
theorem B_D(T:TD)(hT:TD.Ok (T.wh true)):B_B T:=by
 unfold B_B
 exact⟨rfl,hT,fun _ _=>⟨(),trivial,rfl,fun _ _=>a_7,trivial,rfl,fun _ _ _=>a_7,trivial⟩⟩
theorem B_E(T:TD)(hT:TD.Ok (T.wh false)):B_C T:=by
 unfold B_C
 exact⟨rfl,hT,fun _ _=>⟨(),trivial,rfl,fun _ _=>a_7,trivial,rfl,fun _ _ _=>a_7,trivial⟩⟩
theorem q_y:a_t Tryz.prog 421:=⟨Tryz.f421,aa,rfl,aa⟩
theorem v_z(T:TD):(nrS T).Body Tryz.prog 421/\(nrS T).BodyD Tryz.prog 421:=by
 refine a_c (fn:=Tryz.f421) (b:=a_b Tryz.f421) (LT:=fun _=>[]) a_l (v_y T) 1000 (fun _ ha=>LTok.nil) aa aa ?_
 intro a ha
 cases hh:T.hd with
 |true=>
  obtain⟨T',rfl⟩:∃T':TD,T=T'.wh true:=⟨T,ag⟩
  exact Ho.of (B_B T') aa (B_D T' ha)
 |false=>
  obtain⟨T',rfl⟩:∃T':TD,T=T'.wh false:=⟨T,ag⟩
  exact Ho.of (B_C T') aa (B_E T' ha)
def x_F(T:TD)(i:Nat):Prop:=
 letI t:=T.C i;letI r:=2*t;letI q:=Nat.beq i i;letI p:=a_f T=a_f T;letI n:=r<r;letI m:=p/\False;letI k:=q&&true&&true;letI h:=gd k True;letI g:=∃(j':Unit),True/\n/\m;letI f:=(∃(j':Unit),True/\0<r/\m)\/False;letI e:=∃(j':Nat),(0<j'/\j'<t)/\2*(t-j')<r/\m;letI d:=∃(j':Nat),Nat.le (j'+1) t/\2*(t-j')-1<r/\m;letI c:=d\/f;letI b:=g\/e\/d\/(∃(j':Unit),True/\0<r/\p/\gd (Nat.beq 1 t) (gd k (t=1/\h)))\/False;letI a:=br (TD.hasT T i 0) (g\/e\/(∃(j':Nat),letI s:=j'+1;Nat.le s t/\2*(t-j')-1<r/\p/\gd (q&&Nat.beq 0 j'&&true) (gd (Nat.beq 1 s) (gd k (s=1/\h))))\/f) (br (Nat.blt (0+1) t) ((∃(j':Unit),True/\n/\p/\gd (q&&false&&true) False)\/(∃(j':Nat),(0<j'/\j'<t)/\2*(t-j')<r/\p/\gd (q&&Nat.beq 1 j'&&true) (gd (Nat.beq 1 j') (gd k (j'=1/\h))))\/c) (br k b (br (Nat.blt (i+1) T.R) (g\/e\/c) b)));br (Nat.beq i 0&&T.hd) a a
def p_w(T:TD)(i:Nat)(j:Nat):Prop:=
 letI y:=j+1;letI z:=T.C i;letI v:=Nat.beq i i;letI t:=2*(z-j);letI u:=a_f T=a_f T;letI r:=0<t;letI p:=u/\False;letI m:=2*z<t;letI n:=v&&true&&true;letI k:=fun(q:Nat)=>AVal.sp (SId.mk 5 i q) 0;letI h:=∃(j':Unit),True/\m/\p;letI g:=(∃(j':Unit),True/\r/\p)\/False;letI f:=∃(j':Nat),(0<j'/\j'<z)/\2*(z-j')<t/\p;letI e:=∃(j':Nat),Nat.le (j'+1) z/\2*(z-j')-1<t/\p;letI d:=SubF k k j []/\gd (v&&Nat.beq j j&&true) True;letI c:=e\/g;letI b:=h\/f\/e\/(∃(j':Unit),True/\r/\u/\gd (Nat.beq y z) (gd n (z=y/\d)))\/False;letI a:=gd (Nat.beq j j&&(Nat.ble (y*8) 140737488355328&&(Nat.ble y 140737488355328&&true))) (br (TD.hasT T i j) (h\/f\/(∃(j':Nat),letI w:=j'+1;Nat.le w z/\2*(z-j')-1<t/\u/\gd (v&&Nat.beq j j'&&true) (gd (Nat.beq y w) (gd n (w=y/\d))))\/g) (br (Nat.blt y z) ((∃(j':Unit),True/\m/\u/\gd (v&&false&&true) False)\/(∃(j':Nat),letI s:=Nat.beq y j';(0<j'/\j'<z)/\2*(z-j')<t/\u/\gd (v&&s&&true) (gd s (gd n (j'=y/\d))))\/c) (br n b (br (Nat.blt (i+1) T.R) (h\/f\/c) b))));br (Nat.beq i 0&&T.hd) a a
def p_x(T:TD)(i:Nat)(j:Nat):Prop:=
 letI t:=j+1;letI u:=T.C i;letI s:=Nat.beq i i;letI r:=a_f T=a_f T;letI n:=2*(u-j)-1;letI m:=0<n;letI k:=r/\False;letI h:=s&&true&&true;letI g:=2*u<n;letI f:=fun(q:Nat)=>AVal.sp (SId.mk 5 i q) 0;letI e:=∃(j':Unit),True/\g/\k;letI d:=∃(j':Nat),(0<j'/\j'<u)/\2*(u-j')<n/\k;letI c:=∃(j':Nat),Nat.le (j'+1) u/\2*(u-j')-1<n/\k;letI b:=c\/(∃(j':Unit),True/\m/\k)\/False;letI a:=e\/d\/c\/(∃(j':Unit),True/\m/\r/\gd (Nat.beq t u) (gd h (u<=t/\SubF f f u []/\True)))\/False;br (Nat.blt t u) ((∃(j':Unit),True/\g/\r/\gd (s&&false&&true) False)\/(∃(j':Nat),letI p:=Nat.beq t j';(0<j'/\j'<u)/\2*(u-j')<n/\r/\gd (s&&p&&true) (gd p (gd h (j'<=t/\SubF f f j' []/\True))))\/b) (br h a (br (Nat.blt (i+1) T.R) (e\/d\/b) a))
def p_y(T:TD)(i:Nat):Prop:=
 letI b:=T.C i;letI a:=fun(q:Nat)=>AVal.sp (SId.mk 5 i q) 0;(∃(x:Unit),True/\a_f T=a_f T/\b=b/\b=b+0/\SubF a a b []/\True)\/False
def faR(T:TD)(i:Nat):Prop:=
 letI c:=a_f T=a_f T;letI a:=Nat.beq i i&&true&&true;True/\(c/\gd a (gd a True))/\∀(x:Unit),True->∃(x:Nat),x=i/\c/\(∀(i:Nat),letI b:=AVal.sp (SId.mk 5 x i) 0;i<T.C x->SubA 0 b b)/\True/\T.C i=T.C x/\SubF (fun(q:Nat)=>AVal.sp (SId.mk 5 i q) 0) (fun(q:Nat)=>AVal.sp (SId.mk 5 x q) 0) (T.C i) []/\True
theorem v_A(T:TD)(i:Nat)(hd:i<T.R/\0<T.C i/\T.C i<=12):x_F T i:=by
 unfold x_F
 obtain⟨h1,h2,h3⟩:=hd
 simp only[sj3,m_B,exists_eq_right,Nat.add_right_cancel_iff,Nat.lt_irrefl,Bool.and_eq_false_iff,Bool.true_eq_false,or_self,sj2,a_e,sj0]
 have sf:∀n,SubF (fun q=>AVal.sp {k:=5,i:=i,j:=q} 0) (fun q=>AVal.sp {k:=5,i:=i,j:=q} 0) n []:=fun n _ _ _=>a_7
 repeat' (first|exact sf _|omega|exact⟨0,ac,ac,ac,ac,ac⟩|exact⟨1,ac,ac,ac,ac,ac⟩|exact⟨j,ac,ac,ac,ac,ac,sf _⟩|exact⟨j+1,ac,ac,ac,ac,ac,sf _⟩|intro _|refine And.intro ?_ ?_)
theorem q_z(T:TD)(i j:Nat)(hd:i<T.R/\0<T.C i/\T.C i<=12)(h:0<j/\j<T.C i):p_w T i j:=by
 unfold p_w
 obtain⟨h1,h2,h3⟩:=hd
 simp only[sj3,m_B,exists_eq_right,Nat.add_right_cancel_iff,Nat.lt_irrefl,Bool.and_eq_false_iff,Bool.true_eq_false,or_self,sj2,a_e,sj0]
 have sf:∀n,SubF (fun q=>AVal.sp {k:=5,i:=i,j:=q} 0) (fun q=>AVal.sp {k:=5,i:=i,j:=q} 0) n []:=fun n _ _ _=>a_7
 repeat' (first|exact sf _|omega|exact⟨0,ac,ac,ac,ac,ac⟩|exact⟨1,ac,ac,ac,ac,ac⟩|exact⟨j,ac,ac,ac,ac,ac,sf _⟩|exact⟨j+1,ac,ac,ac,ac,ac,sf _⟩|intro _|refine And.intro ?_ ?_)
theorem q_A(T:TD)(i j:Nat)(hd:i<T.R/\0<T.C i/\T.C i<=12)(h:j<T.C i):p_x T i j:=by
 unfold p_x
 obtain⟨h1,h2,h3⟩:=hd
 simp only[sj3,m_B,exists_eq_right,Nat.add_right_cancel_iff,Nat.lt_irrefl,Bool.and_eq_false_iff,Bool.true_eq_false,or_self,sj2,a_e,sj0]
 have sf:∀n,SubF (fun q=>AVal.sp {k:=5,i:=i,j:=q} 0) (fun q=>AVal.sp {k:=5,i:=i,j:=q} 0) n []:=fun n _ _ _=>a_7
 repeat' (first|exact sf _|omega|exact⟨0,ac,ac,ac,ac,ac⟩|exact⟨1,ac,ac,ac,ac,ac⟩|exact⟨j,ac,ac,ac,ac,ac,sf _⟩|exact⟨j+1,ac,ac,ac,ac,ac,sf _⟩|intro _|refine And.intro ?_ ?_)
theorem q_B(T:TD)(i:Nat)(hd:i<T.R/\0<T.C i/\T.C i<=12):p_y T i:=by
 unfold p_y
 obtain⟨h1,h2,h3⟩:=hd
 simp only[sj3,m_B,exists_eq_right,Nat.add_right_cancel_iff,Nat.lt_irrefl,Bool.and_eq_false_iff,Bool.true_eq_false,or_self,sj2,a_e,sj0]
 have sf:∀n,SubF (fun q=>AVal.sp {k:=5,i:=i,j:=q} 0) (fun q=>AVal.sp {k:=5,i:=i,j:=q} 0) n []:=fun n _ _ _=>a_7
 repeat' (first|exact sf _|omega|exact⟨0,ac,ac,ac,ac,ac⟩|exact⟨1,ac,ac,ac,ac,ac⟩|exact⟨j,ac,ac,ac,ac,ac,sf _⟩|exact⟨j+1,ac,ac,ac,ac,ac,sf _⟩|intro _|refine And.intro ?_ ?_)
theorem B_F(T:TD)(i:Nat)(hd:i<T.R/\0<T.C i/\T.C i<=12):(faD T i).Bodyn (H_b T i) Tryz.prog (sub (a_b Tryz.f442) [0,0,0,1,1,1]):=by
 refine List.forall_mem_cons.2 ⟨b_G (root:=(a_b Tryz.f442)) [0,0,0,1,1,1] a_l (a_y) (LTok.nil) 1000 ?_,List.forall_mem_cons.2 ⟨b_G (root:=(a_b Tryz.f442)) [0,0,0,1,1,1] a_l (a_y) (LTok.nil) 1000 ?_,List.forall_mem_cons.2 ⟨b_G (root:=(a_b Tryz.f442)) [0,0,0,1,1,1] a_l (a_y) (LTok.nil) 1000 ?_,List.forall_mem_cons.2 ⟨b_G (root:=(a_b Tryz.f442)) [0,0,0,1,1,1] a_l (a_y) (LTok.nil) 1000 ?_,fun _ h=>absurd h List.not_mem_nil⟩⟩⟩⟩
 ·exact fun j hj=>Ho.of (x_F T i) aa (v_A T i hd)
 ·exact fun j hj=>Ho.of (p_w T i j) aa (q_z T i j hd hj)
 ·exact fun j hj=>Ho.of (p_x T i j) aa (q_A T i j hd hj)
 ·exact fun j hj=>Ho.of (p_y T i) aa (q_B T i hd)
theorem G_O(T:TD)(i:Nat):faR T i:=by
 unfold faR
 simp only[a_j,a_p,Bool.and_eq_true,a_k,and_true,true_and,implies_true,forall_const,exists_eq_left]
 exact⟨fun _ _=>a_7,fun _ _ _=>a_7⟩
theorem q_C:a_t Tryz.prog 442:=⟨Tryz.f442,aa,rfl,aa⟩
theorem B_G(T:TD):(faS T).Body Tryz.prog 442/\(faS T).BodyD Tryz.prog 442:=by
 refine a_c (fn:=Tryz.f442) (b:=a_b Tryz.f442) (LT:=fun i=>[([0,0,1,1,1],(faD T i).at ())]) a_l (a_y) 1000 (fun i ha=>LTok.cons (fun fr H K hk=>LoopD.okn (B_F T i ha) hk) (LTok.nil)) aa aa ?_
 exact fun a ha=>Ho.of (faR T a) aa (G_O T a)
def gtR(T:TD):Prop:=
 letI n:=True/\True;letI m:=Value.bool false;letI k:=[(42:UInt8),42];letI h:=[(96:UInt8),96,96];letI g:=[(97:UInt8),116,120];letI e:=Value.int .i64 (Int.ofNat 500);letI f:=[(42:UInt8),32,42,32,42];letI d:=Value.int .i64 (Int.ofNat 1000);letI c:=[(114:UInt8),101,110,100,101,114];letI b:=[(105:UInt8),110,108,105,110,101,100];letI a:=c=c;∃(x:Unit),True/\a_f T=a_f T/\True/\(n/\True/\((True/\True/\True/\True/\True/\True/\True/\True/\n)/\True)/\True)/\2=2/\e=e/\[(42:UInt8)]=[(42:UInt8)]/\k=k/\f=f/\[(45:UInt8)]=[(45:UInt8)]/\m=m/\h=h/\g=g/\b=b/\a/\a/\d=d/\True
theorem H_H(T:TD):gtR T:=by
 unfold gtR
 try simp only[a_j,a_p,Bool.and_eq_true,sj5,a_m,a_e,sj4,sj8]
 repeat' (first|done|omega|exact rfl|exact trivial|assumption|exact()|intro _|refine⟨?_,?_⟩)
theorem q_D:a_t Tryz.prog 88:=⟨Tryz.f88,aa,rfl,aa⟩
theorem v_B(T:TD):(gtS T).Body Tryz.prog 88/\(gtS T).BodyD Tryz.prog 88:=by
 refine a_c (fn:=Tryz.f88) (b:=a_b Tryz.f88) (LT:=fun _=>[]) a_l (e_T) 1000 (fun a ha=>LTok.nil) aa aa ?_
 exact fun a ha=>Ho.of (gtR T) aa (H_H T)
def B_H(T:TD)(l:By)(i:Nat):Prop:=
 letI t:=i+1;letI s:=List UInt8;letI p:=List.length l;letI q:=List.take i l;letI n:=a_f T=a_f T;letI k:=t+1+1+1;letI m:=p-i;letI g:=List.length q;letI h:=List.take i q;letI e:=UInt8.toNat (List.getD l i (0:UInt8));letI f:=Nat.ble i g;letI d:=decide (Int.ofNat i<Int.ofNat p);letI c:=Int.ofNat e;letI b:=Value.int .i64 (IntKind.wrap .i64 (Int.ofNat t));letI a:=f&&(Nat.ble k 140737488355328&&true);br d (gd d (br (c==Int.ofNat 60) (gd a (∃(j':Nat),Nat.le j' p/\p-j'<m/\n/\l=l/\gd (Nat.beq k j') (b=Value.int .i64 (Int.ofNat j')/\(∃(r:s),h++[(38:UInt8),108,116,59]=List.take j' l++r)/\True))) (br (c==Int.ofNat 62) (gd a (∃(j':Nat),Nat.le j' p/\p-j'<m/\n/\l=l/\gd (Nat.beq k j') (b=Value.int .i64 (Int.ofNat j')/\(∃(r:s),h++[(38:UInt8),103,116,59]=List.take j' l++r)/\True))) (gd d (gd (decide (c<Int.ofNat 256)&&true&&true) (gd (f&&(Nat.ble t 140737488355328&&true)) (∃(j':Nat),Nat.le j' p/\p-j'<m/\n/\l=l/\gd (Nat.beq t j') (b=Value.int .i64 (Int.ofNat j')/\(∃(r:s),h++[UInt8.ofNat e]=List.take j' l++r)/\True)))))))) (∃(x:Unit),True/\n/\0+i<=g/\List.take i (List.drop 0 q)=l/\True)
def zeR(T:TD)(l:By):Prop:=
 letI d:=List.length l;letI c:=a_f T=a_f T;letI b:=Int.ofNat 281474976710656;letI a:=Value.int .i64 (Int.ofNat 0);gd (decide (Int.ofNat d<=b)&&(decide (Int.ofNat (1*d)<=b)&&true)) (Nat.le 0 d/\(c/\l=l/\gd (Nat.blt d 9223372036854775808) (a=a/\(∃(r:List UInt8),[]=r)/\d*1<=d/\True))/\∀(x:Unit),True->∃(x:By),x=l/\c/\True/\True/\l=x/\True)
theorem B_I(T:TD)(l:By)(i:Nat)(hd:(∀b∈l,b.toNat≠60/\b.toNat≠62)/\l.length<=a_i)(hi:i<=l.length):B_H T l i:=by
 unfold B_H
 obtain⟨h1,h2⟩:=hd
 simp only[a_i] at h2
 have ofN:∀c:UInt8,UInt8.ofNat c.toNat=c:=fun c=>an
 have e1:i<l.length->IntKind.wrap IntKind.i64 (Int.ofNat (i+1))=Int.ofNat (i+1):=fun h=>ae
 simp only[sj3,b_F,b_P,ofN,sj2,a_e,sj0]
 exact⟨fun g=>⟨g,fun e=>absurd e (h1 _ (b_a g)).1,fun _=>⟨fun e=>absurd e (h1 _ (b_a g)).2,fun _=>⟨g,(l.getD i 0).toNat_lt,⟨af,ac⟩,i+1,Nat.succ_le_of_lt g,ac,rfl,congrArg _ (e1 g),[],by rw[List.take_of_length_le (l:=List.take i l) af,List.append_nil,h_j g]⟩⟩⟩,fun g=>⟨af,au⟩⟩
theorem B_J(T:TD)(l:By)(hd:(∀b∈l,b.toNat≠60/\b.toNat≠62)/\l.length<=a_i):(zeD T l).Body Tryz.prog (sub (a_b Tryz.f160) [0,0,1,0,1,1]):=by
 refine LoopD.bodyH (root:=(a_b Tryz.f160)) [0,0,1,0,1,1] a_l (a_y) (LTok.nil) 1000 ?_
 exact fun i hi=>Ho.of (B_H T l i) aa (B_I T l i hd hi)
theorem G_P(T:TD)(l:By)(h2:l.length<=a_i):zeR T l:=by
 unfold zeR
 simp only[a_i] at h2
 simp only[sj3,sj2,a_e,sj0]
 exact⟨⟨ac,ac⟩,Nat.zero_le _,⟨ac,⟨[],rfl⟩,ac⟩,fun _ _=>trivial⟩
theorem q_E:a_t Tryz.prog 160:=⟨Tryz.f160,aa,rfl,aa⟩
theorem v_C(T:TD):(zeS T).Body Tryz.prog 160/\(zeS T).BodyD Tryz.prog 160:=by
 refine a_c (fn:=Tryz.f160) (b:=a_b Tryz.f160) (LT:=fun l=>[([0,1,0,1,1],(zeD T l).at (0:Nat))]) a_l (a_y) 1000 (fun l ha=>LTok.cons (fun fr H K hk=>LoopD.ok (B_J T l ha) hk) (LTok.nil)) aa aa ?_
 exact fun a ha=>Ho.of (zeR T a) aa (G_P T a ha.2)
def drR(T:TD)(l:By)(b:UInt8):Prop:=
 letI e:=List.length l;letI d:=Value.int .i64 (Int.ofNat 1);letI c:=decide (Int.ofNat 0<Int.ofNat e);letI a:=Int.ofNat (UInt8.toNat (List.getD l 0 (0:UInt8)));br c (gd c (gd (Nat.blt 0 e) (br (decide (a<Int.ofNat 128)) (∃(x:UInt8),x=b/\a_f T=a_f T/\(True/\True)/\True/\Value.int IntKind.i32 (IntKind.wrap IntKind.i32 a)=Value.int IntKind.i32 (Int.ofNat (UInt8.toNat x))/\d=d/\True) False))) False
theorem v_D(T:TD):TabOk Tryz.prog (drU T):=by
 refine⟨fun f s h=>?_,fun f s h=>?_⟩
 ·unfold drU at h
  simp only at h
  split at h
  ·cases h;exact f_9
  ·cases h
 ·cases h
theorem H_I(T:TD)(l:By)(b:UInt8)(h:0<l.length/\b=l.getD 0 0/\b.toNat<128/\l.length<=a_i):drR T l b:=by
 unfold drR
 obtain⟨h1,rfl,h3,h4⟩:=h
 simp only[sj3,sj2,a_e,sj0]
 exact⟨fun _=>⟨h1,h1,fun _=>congrArg _ (t_9 ac ac),fun h=>h h3⟩,fun h=>h h1⟩
theorem v_E:a_t Tryz.prog 173:=⟨Tryz.f173,aa,rfl,aa⟩
theorem B_K(T:TD):(drS T).Body Tryz.prog 173/\(drS T).BodyD Tryz.prog 173:=by
 refine a_c (fn:=Tryz.f173) (b:=a_b Tryz.f173) (LT:=fun _=>[]) a_l (v_D T) 1000 (fun a ha=>LTok.nil) aa aa ?_
 exact fun a ha=>Ho.of (drR T a.1 a.2) aa (H_I T a.1 a.2 ha)
def B_L(T:TD)(l:By)(i:Nat):Prop:=
 letI c1:=i+1+1;letI b1:=List UInt8;letI y:=List.length l;letI z:=List.take i l;letI a1:=List.drop i l;letI w:=a_f T=a_f T;letI v:=y-i;letI s:=Int.ofNat y;letI t:=Nat.blt i y;letI p:=List.length z;letI q:=List.take i z;letI m:=UInt8.toNat (List.getD l i (0:UInt8));letI n:=Nat.ble i p;letI k:=decide (Int.ofNat i<s);letI h:=Int.ofNat m;letI g:=UInt8.ofNat m;letI f:=Value.int .i64 (IntKind.wrap .i64 (Int.ofNat (i+1)));letI e:=(a1,List.getD a1 0 (0:UInt8));letI c:=e.fst;letI d:=e.snd;letI b:=List.length c;letI a:=decide (h<Int.ofNat 256)&&true&&true;br k (gd k (gd t (br (h==Int.ofNat 0) (gd (n&&(Nat.ble (c1+1) 140737488355328&&true)) (∃(j':Nat),Nat.le j' y/\y-j'<v/\w/\l=l/\gd (Nat.beq (c1+1) j') (f=Value.int .i64 (Int.ofNat j')/\(∃(r:b1),q++[(239:UInt8),191,189]=List.take j' l++r)/\True))) (gd (decide (Int.ofNat i<=s)&&decide (s<=s)) (w/\(0<b/\d=List.getD c 0 (0:UInt8)/\UInt8.toNat d<128/\b<=70368744177664)/\a1=c/\∀(x:UInt8),letI u:=Int.ofNat (UInt8.toNat x);x=d->br (u==Int.ofNat 92||(u==Int.ofNat 42||(u==Int.ofNat 95||(u==Int.ofNat 45||(u==Int.ofNat 43||(u==Int.ofNat 46||(u==Int.ofNat 62||(u==Int.ofNat 124||(u==Int.ofNat 36||(u==Int.ofNat 35||(u==Int.ofNat 61||(u==Int.ofNat 91||(u==Int.ofNat 93||(u==Int.ofNat 40||(u==Int.ofNat 41||(u==Int.ofNat 33||(u==Int.ofNat 126||(u==Int.ofNat 96||(u==Int.ofNat 34||(u==Int.ofNat 39||false)))))))))))))))))))) (gd k (gd t (gd a (gd (n&&(Nat.ble c1 140737488355328&&true)) (∃(j':Nat),Nat.le j' y/\y-j'<v/\w/\l=l/\gd (Nat.beq c1 j') (f=Value.int .i64 (Int.ofNat j')/\(∃(r:b1),q++[(7:UInt8),g]=List.take j' l++r)/\True)))))) (gd k (gd t (gd a (gd (n&&(Nat.ble (i+1) 140737488355328&&true)) (∃(j':Nat),Nat.le j' y/\y-j'<v/\w/\l=l/\gd (Nat.beq (i+1) j') (f=Value.int .i64 (Int.ofNat j')/\(∃(r:b1),q++[g]=List.take j' l++r)/\True))))))))))) (∃(x:Unit),True/\w/\0+i<=p/\List.take i (List.drop 0 z)=l/\True)
theorem j_6(T:TD):TabOk Tryz.prog (esU T):=by
 refine⟨fun f s h=>?_,fun f s h=>?_⟩
 ·unfold esU at h
  simp only at h
  split at h
  ·cases h;exact a_d v_E (B_K T).1
  ·cases h
 ·cases h
theorem B_M(T:TD)(l:By)(i:Nat)(hd:WT l/\l.length<=a_i)(hi:i<=l.length):B_L T l i:=by
 unfold B_L
 obtain⟨h1,h2⟩:=hd
 simp only[a_i] at h2
 have ofN:∀c:UInt8,UInt8.ofNat c.toNat=c:=fun c=>an
 have e1:i<l.length->IntKind.wrap IntKind.i64 (Int.ofNat (i+1))=Int.ofNat (i+1):=fun h=>ae
 have hw:i<l.length->wc (l.getD i 0):=fun h=>h1 _ (b_a h)
 simp only[sj3,b_F,b_P,ofN,Bool.or_eq_true,Bool.false_eq_true,forall_eq,c_H,sj2,a_e,sj0]
 unfold wc at hw
 have fin:i<l.length->∃j',Nat.le j' l.length/\l.length-j'<l.length-i/\i+1=j'/\Value.int IntKind.i64 (IntKind.wrap IntKind.i64 ((i+1:Nat):Int))=Value.int IntKind.i64 (j':Nat)/\∃r,List.take i (List.take i l)++[List.getD l i 0]=List.take j' l++r:=fun g=>⟨i+1,Nat.succ_le_of_lt g,ac,rfl,congrArg _ (e1 g),[],az⟩
 exact⟨fun g=>⟨g,g,fun e=>absurd (hw g) ac,fun _=>⟨⟨ac,ac⟩,⟨aY,by have:=hw g;omega,h_i h2⟩,fun e=>absurd (hw g) ac,fun _=>⟨g,g,(l.getD i 0).toNat_lt,⟨aB,ac⟩,fin g⟩⟩⟩,fun g=>⟨aB,au⟩⟩
theorem B_N(T:TD)(l:By)(hd:WT l/\l.length<=a_i):(esD T l).Body Tryz.prog (sub (a_b Tryz.f476) [0,0,1,0,1,1,1]):=by
 refine LoopD.bodyH (root:=(a_b Tryz.f476)) [0,0,1,0,1,1,1] a_l (j_6 T) (LTok.nil) 1000 ?_
 exact fun i hi=>Ho.of (B_L T l i) aa (B_M T l i hd hi)
theorem q_F:a_t Tryz.prog 476:=⟨Tryz.f476,aa,rfl,aa⟩
theorem v_F(T:TD):(esS T).Body Tryz.prog 476/\(esS T).BodyD Tryz.prog 476:=by
 refine a_c (fn:=Tryz.f476) (b:=a_b Tryz.f476) (LT:=fun l=>[([0,1,0,1,1,1],(esD T l).at (0:Nat))]) a_l (j_6 T) 1000 (fun l ha=>LTok.cons (fun fr H K hk=>LoopD.ok (B_N T l ha) hk) (LTok.nil)) aa aa ?_
 exact fun a ha=>Ho.of (zeR T a) aa (G_P T a ha.2)
end Tk

