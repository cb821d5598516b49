/- Lemmas of this claim; the last text says what is proved. -/
import Derived.Test.YtblencgndjjleaaGreatDoorK15
set_option linter.all false
set_option maxRecDepth 1000000
namespace Tk
open Go Go.Sx Go.Proofs
variable [Syms]
def z_V(T:TD)(i:Nat)(j:Nat):Prop:=
 letI u:=ixD T i j;letI t:=u+1;letI r:=ixD T i (j+1);letI s:=a_f T=a_f T;letI n:=0+u+1;letI p:=t+1;letI q:=nfn T u;letI m:=List (Nat×AVal);letI f:=nfn T (Nat.succ u);letI e:=([]:List AVal)=([]:List AVal);letI d:=fun(k:Nat)=>AVal.sp (nfn T k) 0;letI c:=([]:m)=([]:m);letI b:=SubF d d u [];letI a:=Nat.beq 5 q.1&&(Nat.beq i q.2&&Nat.beq j q.3)&&true;gd (Nat.beq u (u+0)&&(Nat.ble (n+u+1+u+1+u+1+u+1+u+1+u+1+u+1) 140737488355328&&(Nat.ble t 140737488355328&&true))) (br (TD.hasT T i j) (gd (Nat.beq t t&&(Nat.ble (n+1+u+1+1+u+1+1+u+1+1+u+1+1+u+1+1+u+1+1+u+1+1) 140737488355328&&(Nat.ble p 140737488355328&&true))) (∃(x:Nat),x=r/\s/\True/\(True/\c/\e/\∀(i:Nat),letI g:=AVal.sp (nfn T i) 0;i<x->SubA 0 g g)/\gd (Nat.beq p x) (x=p/\b/\gd a (gd (Nat.beq 6 f.1&&(Nat.beq i f.2&&Nat.beq j f.3)&&true) True)))) (∃(x:Nat),x=r/\s/\True/\(True/\c/\e/\∀(i:Nat),letI h:=AVal.sp (nfn T i) 0;i<x->SubA 0 h h)/\gd (Nat.beq t x) (x=t/\b/\gd a True)))
def z_W(T:TD)(i:Nat)(k:Nat):Prop:=
 letI g:=T.C i;letI h:=k+1;letI f:=ixD T i k;letI b:=a_f T=a_f T;letI c:=ixD T i g;letI a:=fun(k:Nat)=>AVal.sp (nfn T k) 0;br (Nat.blt k g) (b/\(i<T.R/\k<g/\TD.Ok T)/\gd (Nat.beq i i&&Nat.beq k k&&true) (gd (Nat.beq f f) (f<=f/\SubF a a f []/\∀(x:Nat),x=ixD T i h->br (Nat.blt h g) (∃(j':Nat),letI d:=ixD T i j';Nat.le j' g/\g-j'<g-k/\b/\br (Nat.blt j' g) (gd (Nat.beq i i&&Nat.beq h j'&&true) (gd (Nat.beq x d) (d<=x/\SubF a a d []/\True))) False) (∃(j':Nat),letI e:=ixD T i j';Nat.le j' g/\g-j'<g-k/\b/\br (Nat.blt j' g) False (gd (Nat.beq x e) (e<=x/\SubF a a e []/\True)))))) (∃(x:Unit),True/\b/\gd (Nat.beq f c) (c<=f/\SubF a a c []/\True))
def z_X(T:TD)(i:Nat):Prop:=
 letI m:=T.C i;letI h:=ixR T i;letI g:=h+1;letI d:=a_f T=a_f T;letI e:=nfn T h;letI f:=ixD T i m;letI c:=List (Nat×AVal);letI a:=fun(k:Nat)=>AVal.sp (nfn T k) 0;gd (Nat.beq h (h+0)&&(Nat.ble (0+h+1+h+1+h+1+h+1+h+1+h+1+h+1+h+1) 140737488355328&&(Nat.ble g 140737488355328&&true))) (Nat.le 0 m/\(d/\br (Nat.blt 0 m) (gd (Nat.beq i i&&true&&true) (gd (Nat.beq g (ixD T i 0)) (ixD T i 0=g/\SubF a a h []/\gd (Nat.beq 4 e.1&&(Nat.beq i e.2&&Nat.beq 0 e.3)&&true) True))) False)/\∀(x:Unit),True->∃(x:Nat),x=ixR T (i+1)/\d/\True/\(True/\([]:c)=([]:c)/\([]:List AVal)=([]:List AVal)/\∀(i:Nat),letI b:=AVal.sp (nfn T i) 0;i<x->SubA 0 b b)/\gd (Nat.beq f x) (x<=f/\SubF a a x []/\True))
def z_Y(T:TD)(k:Nat):Prop:=
 letI g:=k+1;letI f:=ixR T k;letI c:=ixR T T.R;letI b:=a_f T=a_f T;letI a:=fun(k:Nat)=>AVal.sp (nfn T k) 0;br (Nat.blt k T.R) (b/\(k<T.R/\TD.Ok T)/\gd (Nat.beq k k&&true&&true) (gd (Nat.beq f f) (f<=f/\SubF a a f []/\∀(x:Nat),x=ixR T g->br (Nat.blt g T.R) (∃(j':Nat),letI d:=ixR T j';Nat.le j' T.R/\T.R-j'<T.R-k/\b/\br (Nat.blt j' T.R) (gd (Nat.beq g j'&&true&&true) (gd (Nat.beq x d) (d<=x/\SubF a a d []/\True))) False) (∃(j':Nat),letI e:=ixR T j';Nat.le j' T.R/\T.R-j'<T.R-k/\b/\br (Nat.blt j' T.R) False (gd (Nat.beq x e) (e<=x/\SubF a a e []/\True)))))) (∃(x:Unit),True/\b/\gd (Nat.beq f c) (c<=f/\SubF a a c []/\True))
def z_Z(T:TD):Prop:=
 letI e:=nfn T 2;letI d:=a_f T=a_f T;letI c:=List (Nat×AVal);letI a:=fun(k:Nat)=>AVal.sp (nfn T k) 0;Nat.le 0 T.R/\(d/\br (Nat.blt 0 T.R) (gd (Nat.beq 3 (ixR T 0)) (ixR T 0=3/\SubF a a 2 []/\gd (Nat.beq 3 e.1&&(Nat.beq 0 e.2&&Nat.beq 0 e.3)&&true) True)) False)/\∀(x:Unit),True->∃(x:Nat),x=nN T/\d/\True/\(True/\([]:c)=([]:c)/\([]:List AVal)=([]:List AVal)/\∀(i:Nat),letI b:=AVal.sp (nfn T i) 0;i<x->SubA 0 b b)/\gd (Nat.beq (ixR T T.R) x) (x<=ixR T T.R/\SubF a a x []/\True)
def z_0(T:TD):Prop:=
 letI e:=nfn T 1;letI d:=a_f T=a_f T;letI c:=List (Nat×AVal);letI a:=fun(k:Nat)=>AVal.sp (nfn T k) 0;d/\TD.Ok T/\2=2/\SubF a a 1 []/\gd (Nat.beq 2 e.1&&(Nat.beq 0 e.2&&Nat.beq 0 e.3)&&true) (∀(x:Nat),x=nN T->∃(x_1:Nat),x_1=nN T/\d/\True/\(True/\([]:c)=([]:c)/\([]:List AVal)=([]:List AVal)/\∀(i:Nat),letI b:=AVal.sp (nfn T i) 0;i<x_1->SubA 0 b b)/\gd (Nat.beq x x_1) (x_1<=x/\SubF a a x_1 []/\True))
def z_1(T:TD):Prop:=
 letI e:=nfn T 0;letI d:=a_f T=a_f T;letI c:=List (Nat×AVal);letI a:=fun(k:Nat)=>AVal.sp (nfn T k) 0;d/\TD.Ok T/\1=1/\gd (Nat.beq 1 e.1&&(Nat.beq 0 e.2&&Nat.beq 0 e.3)&&true) (∀(x:Nat),x=nN T->∃(x_1:Nat),x_1=nN T/\d/\True/\(True/\([]:c)=([]:c)/\([]:List AVal)=([]:List AVal)/\∀(i:Nat),letI b:=AVal.sp (nfn T i) 0;i<x_1->SubA 0 b b)/\gd (Nat.beq x x_1) (x_1<=x/\SubF a a x_1 []/\True))
theorem z_2(T:TD)(i j:Nat)(h:i<T.R/\j<T.C i/\T.Ok):z_V T i j:=by
 obtain⟨hi,hj,hT⟩:=h
 have hn:=hT.n
 have h0:=m_x (j:=j+1) hi hj
 have h1:=t_T hi hj
 have h2:T.hasT i j=true->nfn T (ixD T i j).succ=Tk.tx i j:=t_U hi hj
 unfold z_V
 try simp only[sj7,a_m,sj4,sj8]
 cases ht:T.hasT i j with
 |true=>
  have h3:=h2 ht
  have h4:=x_8 ht
  repeat' (first|done|omega|exact rfl|exact c_e|exact trivial|exact Nat.le_refl _|exact fun _ _=>a_7|(simp[h1,h3,Tk.td,Tk.tx];done)|intro _|refine⟨k+1,?_⟩|refine⟨?_,?_⟩)
 |false=>
  have h3:=h1
  have h4:=x_9 ht
  repeat' (first|done|omega|exact rfl|exact c_e|exact trivial|exact Nat.le_refl _|exact fun _ _=>a_7|(simp[h1,h3,Tk.td,Tk.tx];done)|intro _|refine⟨k+1,?_⟩|refine⟨?_,?_⟩)
theorem z_3(T:TD)(i k:Nat)(hi:i<T.R)(hT:T.Ok)(h:k<=T.C i):z_W T i k:=by
 unfold z_W
 have hk:T.C i<=k->k=T.C i:=fun _=>ac
 try simp only[sj7,a_m,sj4,sj8]
 repeat' (first|done|omega|exact rfl|exact c_e|exact trivial|exact Nat.le_refl _|exact fun _ _=>a_7|exact hT|(rw[hk ai])|intro _|refine⟨k+1,?_⟩|refine⟨?_,?_⟩)
theorem z_4(T:TD)(i:Nat)(h:i<T.R/\T.Ok):z_X T i:=by
 obtain⟨hi,hT⟩:=h
 have hn:=hT.n
 have h0:=p_0 (T:=T) (i:=i+1) ac
 have h5:=m_x (j:=0) hi ac
 have h6:=m_x (j:=T.C i) hi ac
 have h1:=t_S hi
 have h2:=t_V (T:=T) (i:=i)
 have h3:=x_7 (T:=T) (i:=i)
 have hc:=hT.c i hi
 unfold z_X
 try simp only[sj7,a_m,sj4,sj8]
 repeat' (first|done|omega|exact rfl|exact c_e|exact trivial|exact Nat.le_refl _|exact fun _ _=>a_7|(simp[h1,Tk.tr,tbd];done)|intro _|refine⟨k+1,?_⟩|refine⟨?_,?_⟩)
theorem z_5(T:TD)(hT:T.Ok)(k:Nat)(h:k<=T.R):z_Y T k:=by
 unfold z_Y
 have hk:T.R<=k->k=T.R:=fun _=>ac
 try simp only[sj7,a_m,sj4,sj8]
 repeat' (first|done|omega|exact rfl|exact c_e|exact trivial|exact Nat.le_refl _|exact fun _ _=>a_7|exact hT|(rw[hk ai])|intro _|refine⟨k+1,?_⟩|refine⟨?_,?_⟩)
theorem z_6(T:TD)(hT:T.Ok):z_Z T:=by
 have hr:=hT.r
 have h1:=y_a (T:=T)
 unfold z_Z
 try simp only[sj7,a_m,sj4,sj8]
 repeat' (first|done|omega|exact rfl|exact c_e|exact trivial|exact Nat.le_refl _|exact fun _ _=>a_7|(simp[h1,Tk.tr,tbd];done)|intro _|refine⟨k+1,?_⟩|refine⟨?_,?_⟩)
theorem z_7(T:TD)(hT:T.Ok):z_0 T:=by
 have hn:=hT.n
 have h1:=t_X (T:=T)
 unfold z_0
 try simp only[sj7,a_m,sj4,sj8]
 repeat' (first|done|omega|exact rfl|exact c_e|exact trivial|exact Nat.le_refl _|exact fun _ _=>a_7|exact hT|(simp[h1,tbl];done)|intro _|refine⟨k+1,?_⟩|refine⟨?_,?_⟩)
theorem z_8(T:TD)(hT:T.Ok):z_1 T:=by
 have hn:=hT.n
 have h1:=t_W (T:=T)
 unfold z_1
 try simp only[sj7,a_m,sj4,sj8]
 repeat' (first|done|omega|exact rfl|exact c_e|exact trivial|exact Nat.le_refl _|exact fun _ _=>a_7|exact hT|(simp[h1,doc];done)|intro _|refine⟨k+1,?_⟩|refine⟨?_,?_⟩)
theorem i_D:a_t Tryz.prog 316:=⟨Tryz.f316,aa,rfl,aa⟩
theorem z_9(T:TD):(y_U T).Body Tryz.prog 316/\(y_U T).BodyD Tryz.prog 316:=by
 refine a_c (fn:=Tryz.f316) (b:=a_b Tryz.f316) (LT:=fun _=>[]) a_l a_y 1000 (fun _ _=>LTok.nil) aa aa ?_
 exact fun a ha=>Ho.of (z_V T a.1 a.2) aa (z_2 T a.1 a.2 ha)
theorem g_l(T:TD):TabOk Tryz.prog (n_d T):=by
 refine⟨fun f s h=>?_,fun f s h=>am⟩
 unfold n_d at h
 simp only at h
 split at h
 ·cases h;exact a_d i_D (z_9 T).1
 ·cases h
theorem u_O(T:TD)(i:Nat)(hi:i<T.R)(hT:T.Ok):(u_s T i).Body Tryz.prog (sub (a_b Tryz.f316) [0,0,1,1]):=
 LoopD.bodyH (root:=a_b Tryz.f316) [0,0,1,1] a_l (g_l T) LTok.nil 1000 (fun k hk=>Ho.of (z_W T i k) aa (z_3 T i k hi hT hk))
theorem A_a(T:TD):(y_V T).Body Tryz.prog 316/\(y_V T).BodyD Tryz.prog 316:=by
 refine a_c (fn:=Tryz.f316) (b:=a_b Tryz.f316) (LT:=fun i=>[([0,1,1],(u_s T i).at (0:Nat))]) a_l (g_l T) 1000 (fun i h=>LTok.cons (fun fr H K hk=>LoopD.ok (u_O T i h.1 h.2) hk) LTok.nil) aa aa ?_
 exact fun i hi=>Ho.of (z_X T i) aa (z_4 T i hi)
theorem g_m(T:TD):TabOk Tryz.prog (n_e T):=by
 refine⟨fun f s h=>?_,fun f s h=>am⟩
 unfold n_e at h
 simp only at h
 split at h
 ·cases h;exact a_d i_D (A_a T).1
 ·cases h
theorem u_P(T:TD)(hT:T.Ok):(u_t T).Body Tryz.prog (sub (a_b Tryz.f316) [0,0,1,1]):=
 LoopD.bodyH (root:=a_b Tryz.f316) [0,0,1,1] a_l (g_m T) LTok.nil 1000 (fun k hk=>Ho.of (z_Y T k) aa (z_5 T hT k hk))
theorem A_b(T:TD):(y_W T).Body Tryz.prog 316/\(y_W T).BodyD Tryz.prog 316:=by
 refine a_c (fn:=Tryz.f316) (b:=a_b Tryz.f316) (LT:=fun _=>[([0,1,1],(u_t T).at (0:Nat))]) a_l (g_m T) 1000 (fun _ hT=>LTok.cons (fun fr H K hk=>LoopD.ok (u_P T hT) hk) LTok.nil) aa aa ?_
 exact fun _ hT=>Ho.of (z_Z T) aa (z_6 T hT)
theorem k_M(T:TD):TabOk Tryz.prog (n_f T):=by
 refine⟨fun f s h=>?_,fun f s h=>am⟩
 unfold n_f at h
 simp only at h
 split at h
 ·cases h;exact a_d i_D (A_b T).1
 ·cases h
theorem A_c(T:TD):(y_X T).Body Tryz.prog 316/\(y_X T).BodyD Tryz.prog 316:=by
 refine a_c (fn:=Tryz.f316) (b:=a_b Tryz.f316) (LT:=fun _=>[]) a_l (k_M T) 1000 (fun _ _=>LTok.nil) aa aa ?_
 exact fun _ hT=>Ho.of (z_0 T) aa (z_7 T hT)
theorem k_N(T:TD):TabOk Tryz.prog (n_g T):=by
 refine⟨fun f s h=>?_,fun f s h=>am⟩
 unfold n_g at h
 simp only at h
 split at h
 ·cases h;exact a_d i_D (A_c T).1
 ·cases h
theorem A_d(T:TD):(y_Y T).Body Tryz.prog 316/\(y_Y T).BodyD Tryz.prog 316:=by
 refine a_c (fn:=Tryz.f316) (b:=a_b Tryz.f316) (LT:=fun _=>[]) a_l (k_N T) 1000 (fun _ _=>LTok.nil) aa aa ?_
 exact fun _ hT=>Ho.of (z_1 T) aa (z_8 T hT)
theorem k_O(T:TD):TabOk Tryz.prog (n_h T):=by
 refine⟨fun f s h=>?_,fun f s h=>am⟩
 unfold n_h at h
 simp only at h
 split at h
 ·cases h;exact a_d i_D (A_d T).1
 ·cases h
def alR(T:TD):Prop:=
 letI c:=a_f T=a_f T;letI a:=fun(k:Nat)=>AVal.sp (nfn T k) 0;c/\TD.Ok T/\∀(x:Nat),x=nN T->∃(x_1:Unit),True/\c/\(∀(i:Nat),letI b:=AVal.sp (nfn T i) 0;i<nN T->SubA 0 b b)/\True/\x=nN T/\x=x/\SubF a a x []/\True
theorem H_p(T:TD)(hT:T.Ok):alR T:=by
 unfold alR
 have hr:=hT.r
 have hn:=hT.n
 have h0:=t_W (T:=T)
 have h1:=t_X (T:=T)
 try simp only[a_j,a_p,Bool.and_eq_true,sj5,a_m,sj4,sj8]
 repeat' (first|done|omega|exact rfl|exact c_e|exact trivial|exact hT|exact fun _ _=>a_7|(simp[h0,h1,doc,tbl];done)|exact()|intro _|refine⟨?_,?_⟩)
theorem q_l:a_t Tryz.prog 260:=⟨Tryz.f260,aa,rfl,aa⟩
theorem u_Q(T:TD)(hT:T.Ok):(alS T).Body Tryz.prog 260/\(alS T).BodyD Tryz.prog 260:=by
 refine a_c (fn:=Tryz.f260) (b:=a_b Tryz.f260) (LT:=fun _=>[]) a_l (k_O T) 1000 (fun a ha=>LTok.nil) aa aa ?_
 exact fun a ha=>Ho.of (alR T) aa (H_p T ha)
def e_C(T:TD):Prop:=
 ∃(x:Unit),True/\a_f T=a_f T/\True/\True/\Value.bool false=Value.bool false/\True
def p_r(T:TD)(i:Nat):Prop:=
 ∃(x:Unit),True/\a_f T=a_f T/\True/\True/\Value.bool false=Value.bool false/\True
def s_u(T:TD)(i:Nat)(j:Nat):Prop:=
 letI d:=Value.bool false;letI c:=Nat.beq i 0&&T.hd;letI b:=∃(x:Unit),True/\a_f T=a_f T/\True/\True/\d=d/\True;letI a:=br c b b;br c a a
def p_s(T:TD)(i:Nat)(j:Nat):Prop:=
 ∃(x:Unit),True/\a_f T=a_f T/\True/\True/\Value.bool false=Value.bool false/\True
theorem e_t(T:TD):e_C T:=by
 unfold e_C
 try simp only[a_j,a_p,Bool.and_eq_true,sj5,a_m,sj4,sj8]
 repeat' (first|done|omega|exact rfl|exact trivial|assumption|exact()|intro _|refine⟨?_,?_⟩)
theorem q_m(T:TD)(i:Nat):p_r T i:=by
 unfold p_r
 try simp only[a_j,a_p,Bool.and_eq_true,sj5,a_m,sj4,sj8]
 repeat' (first|done|omega|exact rfl|exact trivial|assumption|exact()|intro _|refine⟨?_,?_⟩)
theorem u_R(T:TD)(i j:Nat):s_u T i j:=by
 unfold s_u
 try simp only[a_j,a_p,Bool.and_eq_true,sj5,a_m,sj4,sj8]
 repeat' (first|done|omega|exact rfl|exact trivial|assumption|exact()|intro _|refine⟨?_,?_⟩)
theorem q_n(T:TD)(i j:Nat):p_s T i j:=by
 unfold p_s
 try simp only[a_j,a_p,Bool.and_eq_true,sj5,a_m,sj4,sj8]
 repeat' (first|done|omega|exact rfl|exact trivial|assumption|exact()|intro _|refine⟨?_,?_⟩)
theorem q_o:a_t Tryz.prog 261:=⟨Tryz.f261,aa,rfl,aa⟩
theorem A_e(T:TD):(haS T).Body Tryz.prog 261/\(haS T).BodyD Tryz.prog 261:=by
 refine a_c (fn:=Tryz.f261) (b:=a_b Tryz.f261) (LT:=fun _=>[]) a_l (a_y) 1000 (fun a ha=>LTok.nil) aa aa ?_
 intro a ha
 rcases ha with h|h|h|⟨i,hi,h⟩|⟨i,j,hi,hj,h⟩|⟨i,j,hi,hj,h⟩<;>subst h
 ·exact Ho.of (e_C T) aa (e_t T)
 ·exact Ho.of (e_C T) aa (e_t T)
 ·exact Ho.of (e_C T) aa (e_t T)
 ·exact Ho.of (p_r T i) aa (q_m T i)
 ·exact Ho.of (s_u T i j) aa (u_R T i j)
 ·exact Ho.of (p_s T i j) aa (q_n T i j)
def x_B(T:TD)(k:Nat):Prop:=
 letI f:=nfn T k;letI e:=a_f T=a_f T;letI d:=Int.ofNat (nN T);letI c:=Value.int .i64 d;letI b:=fun(k:Nat)=>AVal.sp (nfn T k) 0;letI a:=decide (Int.ofNat k<d);br a (gd a (gd (Nat.blt k (nN T)) (e/\TD.Val T f/\gd (Nat.beq f.1 f.1&&(Nat.beq f.2 f.2&&Nat.beq f.3 f.3)&&true) (∀(x:Unit),True->∃(j':Nat),Nat.le j' (nN T)/\nN T-j'<nN T-k/\e/\nN T=nN T/\SubF b b (nN T) []/\c=c/\Value.int .i64 (IntKind.wrap .i64 (Int.ofNat (k+1)))=Value.int .i64 (Int.ofNat j')/\True)))) (∃(x:Unit),True/\e/\True)
def rrR(T:TD):Prop:=
 letI d:=a_f T=a_f T;letI c:=Value.int .i64 (Int.ofNat 0);letI b:=Value.int .i64 (Int.ofNat (nN T));letI a:=fun(k:Nat)=>AVal.sp (nfn T k) 0;d/\TD.Ok T/\∀(x:Unit),True->Nat.le 0 (nN T)/\(d/\nN T=nN T/\SubF a a (nN T) []/\b=b/\c=c/\True)/\∀(x:Unit),True->∃(x:Unit),True/\d/\True/\True/\True
theorem q_p(T:TD)(hT:T.Ok):TabOk Tryz.prog (rrU T):=by
 refine⟨fun f s h=>?_,fun f s h=>am⟩
 unfold rrU at h
 simp only at h
 split at h
 ·cases h;exact a_d q_l (u_Q T hT).1
 ·cases h;exact a_d q_o (A_e T).1
 ·cases h
theorem u_S(T:TD)(k:Nat)(hT:T.Ok)(hk:k<=nN T):x_B T k:=by
 unfold x_B
 have hn:=hT.n
 simp only[ltI,x_u,a_j,a_p,Bool.and_eq_true,a_k,a_z,and_true,true_and,implies_true,forall_const,Nat.le_eq]
 refine⟨fun h=>⟨h,h,r_Y k,k+1,ac,ac,c_e,?_⟩,fun _=>⟨(),trivial⟩⟩
 rw[m_y ac]
theorem A_f(T:TD)(hT:T.Ok):(rrD T).Body Tryz.prog (sub (a_b Tryz.f217) [0,0,1]):=by
 refine LoopD.bodyH (root:=(a_b Tryz.f217)) [0,0,1] a_l (q_p T hT) LTok.nil 1000 ?_
 exact fun k hk=>Ho.of (x_B T k) aa (u_S T k hT hk)
theorem G_N(T:TD)(hT:T.Ok):rrR T:=by
 unfold rrR
 try simp only[a_j,a_p,Bool.and_eq_true,sj5,a_m,sj4,sj8]
 repeat' (first|done|omega|exact rfl|exact trivial|exact c_e|assumption|exact()|intro _|refine⟨?_,?_⟩)
theorem q_q:a_t Tryz.prog 217:=⟨Tryz.f217,aa,rfl,aa⟩
theorem A_g(T:TD)(hT:T.Ok):(rrS T).Body Tryz.prog 217/\(rrS T).BodyD Tryz.prog 217:=by
 refine a_c (fn:=Tryz.f217) (b:=a_b Tryz.f217) (LT:=fun _=>[([0,1],(rrD T).at (0:Nat))]) a_l (q_p T hT) 1000 (fun a ha=>LTok.cons (fun fr H K hk=>LoopD.ok (A_f T hT) hk) (LTok.nil)) aa aa ?_
 exact fun a ha=>Ho.of (rrR T) aa (G_N T ha)
def s_v(T:TD)(i:Nat)(j:Nat):Prop:=
 letI b:=Value.bool false;letI a:=∃(x:Unit),True/\a_f T=a_f T/\True/\True/\b=b/\True;br (Nat.beq i 0&&T.hd) a a
theorem u_T(T:TD)(i j:Nat):s_v T i j:=by
 unfold s_v
 try simp only[a_j,a_p,Bool.and_eq_true,sj5,a_m,sj4,sj8]
 repeat' (first|done|omega|exact rfl|exact trivial|assumption|exact()|intro _|refine⟨?_,?_⟩)
theorem A_h(T:TD):(hbS T).Body Tryz.prog 261/\(hbS T).BodyD Tryz.prog 261:=by
 refine a_c (fn:=Tryz.f261) (b:=a_b Tryz.f261) (LT:=fun _=>[]) a_l (a_y) 1000 (fun a ha=>LTok.nil) aa aa ?_
 intro a ha
 rcases ha with h|h|h|⟨i,hi,h⟩|⟨i,j,hi,hj,h⟩|⟨i,j,hi,hj,h⟩<;>subst h
 ·exact Ho.of (e_C T) aa (e_t T)
 ·exact Ho.of (e_C T) aa (e_t T)
 ·exact Ho.of (e_C T) aa (e_t T)
 ·exact Ho.of (p_r T i) aa (q_m T i)
 ·exact Ho.of (s_v T i j) aa (u_T T i j)
 ·exact Ho.of (p_s T i j) aa (q_n T i j)
theorem q_r(T:TD)(hT:T.Ok):TabOk Tryz.prog (rsU T):=by
 refine⟨fun f s h=>?_,fun f s h=>am⟩
 unfold rsU at h
 simp only at h
 split at h
 ·cases h;exact a_d q_l (u_Q T hT).1
 ·cases h;exact a_d q_o (A_h T).1
 ·cases h
theorem A_i(T:TD)(hT:T.Ok):(rsD T).Body Tryz.prog (sub (a_b Tryz.f217) [0,0,1]):=by
 refine LoopD.bodyH (root:=(a_b Tryz.f217)) [0,0,1] a_l (q_r T hT) LTok.nil 1000 ?_
 exact fun k hk=>Ho.of (x_B T k) aa (u_S T k hT hk)
theorem A_j(T:TD)(hT:T.Ok):(rsS T).Body Tryz.prog 217/\(rsS T).BodyD Tryz.prog 217:=by
 refine a_c (fn:=Tryz.f217) (b:=a_b Tryz.f217) (LT:=fun _=>[([0,1],(rsD T).at (0:Nat))]) a_l (q_r T hT) 1000 (fun a ha=>LTok.cons (fun fr H K hk=>LoopD.ok (A_i T hT) hk) (LTok.nil)) aa aa ?_
 exact fun a ha=>Ho.of (rrR T) aa (G_N T ha)
def g_n(T:TD):Prop:=
 ∃(j':SId×Bool),TD.SdE T j'/\TD.mu T j'<TD.mu T (SId.mk 1 0 0,false)/\a_f T=a_f T/\br j'.snd False (gd (Nat.beq 2 j'.fst.1&&(Nat.beq 0 j'.fst.2&&Nat.beq 0 j'.fst.3)&&true) True)
def g_o(T:TD):Prop:=
 ∃(j':SId×Bool),TD.SdE T j'/\TD.mu T j'<TD.mu T (SId.mk 2 0 0,false)/\a_f T=a_f T/\br j'.snd False (gd (Nat.beq 3 j'.fst.1&&(Nat.beq 0 j'.fst.2&&Nat.beq 0 j'.fst.3)&&true) True)
def g_p(T:TD):Prop:=
 ∃(j':SId×Bool),TD.SdE T j'/\TD.mu T j'<TD.mu T (SId.mk 3 0 0,false)/\a_f T=a_f T/\br j'.snd False (gd (Nat.beq 4 j'.fst.1&&(Nat.beq 0 j'.fst.2&&Nat.beq 0 j'.fst.3)&&true) True)
def k_P(T:TD)(i:Nat):Prop:=
 ∃(j':SId×Bool),TD.SdE T j'/\TD.mu T j'<TD.mu T (SId.mk 4 i 0,false)/\a_f T=a_f T/\br j'.snd False (gd (Nat.beq 5 j'.fst.1&&(Nat.beq i j'.fst.2&&Nat.beq 0 j'.fst.3)&&true) True)
def p_t(T:TD)(i:Nat)(j:Nat):Prop:=
 letI g:=SId×Bool;letI f:=a_f T=a_f T;letI e:=Nat.beq i 0&&T.hd;letI d:=TD.mu T (SId.mk 5 i j,false);letI c:=br (Nat.blt (j+1) (T.C i)) (∃(j':g),TD.SdE T j'/\TD.mu T j'<d/\f/\br j'.snd False (gd (Nat.beq 5 j'.fst.1&&(Nat.beq i j'.fst.2&&Nat.beq (j+1) j'.fst.3)&&true) True)) (br (Nat.blt (i+1) T.R) (∃(j':g),TD.SdE T j'/\TD.mu T j'<d/\f/\br j'.snd False (gd (Nat.beq 4 j'.fst.1&&(Nat.beq (i+1) j'.fst.2&&Nat.beq 0 j'.fst.3)&&true) True)) (∃(j':g),TD.SdE T j'/\TD.mu T j'<d/\f/\br j'.snd True False));letI b:=br (TD.hasT T i j) c c;letI a:=br e b b;br e a a
def c_I(T:TD)(x:SId):Prop:=
 ∃(x:Unit),True/\a_f T=a_f T/\True
def g_q(T:TD):Prop:=
 letI a:=a_f T=a_f T;TD.SdE T (SId.mk 1 0 0,false)/\(a/\True)/\∀(x:Unit),True->∃(x:Unit),True/\a/\True/\True/\True
theorem h_r(T:TD):g_n T:=by
 unfold g_n
 try simp only[a_j,Bool.and_eq_true,sj5,sj9]
 repeat' (first|done|(refine d_t (p_4) rfl ?_;exact nxs)|exact rfl|exact trivial|omega|intro _|refine⟨?_,?_⟩)
theorem h_s(T:TD):g_o T:=by
 unfold g_o
 try simp only[a_j,Bool.and_eq_true,sj5,sj9]
 repeat' (first|done|(refine d_t (p_5) rfl ?_;exact nxs)|exact rfl|exact trivial|omega|intro _|refine⟨?_,?_⟩)
theorem h_t(T:TD)(h:0<T.R):g_p T:=by
 unfold g_p
 try simp only[a_j,Bool.and_eq_true,sj5,sj9]
 repeat' (first|done|(refine d_t (m_A h) rfl ?_;exact nxs)|exact rfl|exact trivial|omega|intro _|refine⟨?_,?_⟩)
theorem j_3(T:TD)(i:Nat)(h:i<T.R)(hc:0<T.C i):k_P T i:=by
 unfold k_P
 try simp only[a_j,Bool.and_eq_true,sj5,sj9]
 repeat' (first|done|(refine d_t (r_Z h hc) rfl ?_;exact nxs)|exact rfl|exact trivial|omega|intro _|refine⟨?_,?_⟩)
theorem q_s(T:TD)(i j:Nat)(h:i<T.R)(hc:j<T.C i):p_t T i j:=by
 unfold p_t
 try simp only[a_j,Bool.and_eq_true,sj5,sj9]
 repeat' (first|done|(refine d_t (g_b h ac) rfl ?_;exact nxs)|(refine d_t (g_c ac hc) rfl ?_;exact nxs)|(refine d_t (g_d h hc) rfl ?_;exact nxs)|exact rfl|exact trivial|omega|intro _|refine⟨?_,?_⟩)
theorem f_q(T:TD)(x:SId):c_I T x:=by
 unfold c_I
 repeat' (first|done|exact rfl|exact trivial|exact()|refine⟨?_,?_⟩)
theorem h_u(T:TD):g_q T:=by
 unfold g_q
 try simp only[a_j,Bool.and_eq_true,a_k,and_true,true_and]
 repeat' (first|done|exact rfl|exact trivial|exact()|exact T.sd0|exact T.sdE0|intro _|(apply Exists.intro (doc,false))|refine⟨?_,?_⟩)
theorem H_q(T:TD)(hT:T.Ok):(maD T).Body Tryz.prog (sub (a_b Tryz.f219) [0,0,1]):=by
 refine LoopD.bodyH (root:=a_b Tryz.f219) [0,0,1] a_l (a_y) LTok.nil 1000 ?_
 rintro⟨x,e⟩ hj
 cases e with
 |true=>exact Ho.of (c_I T x) aa (f_q T x)
 |false=>
  have hv:T.Val x:=(hj rfl).1
  rcases hv with h|h|h|⟨i,hi,h⟩|⟨i,k,hi,hk,h⟩|⟨i,k,hi,hk,h⟩<;>subst h
  ·exact Ho.of (g_n T) aa (h_r T)
  ·exact Ho.of (g_o T) aa (h_s T)
  ·exact Ho.of (g_p T) aa (h_t T hT.1)
  ·exact Ho.of (k_P T i) aa (j_3 T i hi (hT.2 i hi))
  ·exact Ho.of (p_t T i k) aa (q_s T i k hi hk)
  ·exact absurd rfl (hj rfl).2
theorem q_t:a_t Tryz.prog 219:=⟨Tryz.f219,aa,rfl,aa⟩
theorem A_k(T:TD)(hT:T.Ok):(maS T).Body Tryz.prog 219/\(maS T).BodyD Tryz.prog 219:=by
 refine a_c (fn:=Tryz.f219) (b:=a_b Tryz.f219) (LT:=fun _=>[([0,1],(maD T).at (doc,false))]) a_l (a_y) 1000 (fun _ _=>LTok.cons (fun fr H K hk=>LoopD.ok (H_q T hT) hk) LTok.nil) aa aa ?_
 exact fun _ _=>Ho.of (g_q T) aa (h_u T)
def p_u(T:TD)(i:Nat)(j:Nat):Prop:=
 letI e:=SId×Bool;letI d:=a_f T=a_f T;letI c:=TD.mu T (SId.mk 5 i j,false);letI b:=br (Nat.blt (j+1) (T.C i)) (∃(j':e),TD.SdE T j'/\TD.mu T j'<c/\d/\br j'.snd False (gd (Nat.beq 5 j'.fst.1&&(Nat.beq i j'.fst.2&&Nat.beq (j+1) j'.fst.3)&&true) True)) (br (Nat.blt (i+1) T.R) (∃(j':e),TD.SdE T j'/\TD.mu T j'<c/\d/\br j'.snd False (gd (Nat.beq 4 j'.fst.1&&(Nat.beq (i+1) j'.fst.2&&Nat.beq 0 j'.fst.3)&&true) True)) (∃(j':e),TD.SdE T j'/\TD.mu T j'<c/\d/\br j'.snd True False));letI a:=br (TD.hasT T i j) b b;br (Nat.beq i 0&&T.hd) a a
theorem q_u(T:TD)(i j:Nat)(h:i<T.R)(hc:j<T.C i):p_u T i j:=by
 unfold p_u
 try simp only[a_j,Bool.and_eq_true,sj5,sj9]
 repeat' (first|done|(refine d_t (g_b h ac) rfl ?_;exact nxs)|(refine d_t (g_c ac hc) rfl ?_;exact nxs)|(refine d_t (g_d h hc) rfl ?_;exact nxs)|exact rfl|exact trivial|omega|intro _|refine⟨?_,?_⟩)
theorem H_r(T:TD)(hT:T.Ok):(mbD T).Body Tryz.prog (sub (a_b Tryz.f219) [0,0,1]):=by
 refine LoopD.bodyH (root:=a_b Tryz.f219) [0,0,1] a_l (a_y) LTok.nil 1000 ?_
 rintro⟨x,e⟩ hj
 cases e with
 |true=>exact Ho.of (c_I T x) aa (f_q T x)
 |false=>
  have hv:T.Val x:=(hj rfl).1
  rcases hv with h|h|h|⟨i,hi,h⟩|⟨i,k,hi,hk,h⟩|⟨i,k,hi,hk,h⟩<;>subst h
  ·exact Ho.of (g_n T) aa (h_r T)
  ·exact Ho.of (g_o T) aa (h_s T)
  ·exact Ho.of (g_p T) aa (h_t T hT.1)
  ·exact Ho.of (k_P T i) aa (j_3 T i hi (hT.2 i hi))
  ·exact Ho.of (p_u T i k) aa (q_u T i k hi hk)
  ·exact absurd rfl (hj rfl).2
theorem A_l(T:TD)(hT:T.Ok):(mbS T).Body Tryz.prog 219/\(mbS T).BodyD Tryz.prog 219:=by
 refine a_c (fn:=Tryz.f219) (b:=a_b Tryz.f219) (LT:=fun _=>[([0,1],(mbD T).at (doc,false))]) a_l (a_y) 1000 (fun _ _=>LTok.cons (fun fr H K hk=>LoopD.ok (H_r T hT) hk) LTok.nil) aa aa ?_
 exact fun _ _=>Ho.of (g_q T) aa (h_u T)
end Tk

