/- Lemmas of this claim; the last text says what is proved. -/
import Derived.Test.YtblencgndjjleaaGreatDoorK19
import Derived.Test.YtblencgndjjleaaGreatDoorK18
set_option linter.all false
set_option maxRecDepth 1000000
namespace Tk
open Go Go.Sx Go.Proofs
variable [Syms]
def n_F(T:TD):Prop:=
 ∃(j':SId×Bool),TD.Sd T j'/\TD.mu T j'<TD.mu T (SId.mk 1 0 0,false)/\a_f T=a_f T/\br j'.snd False (gd (Nat.beq 2 j'.fst.1&&(Nat.beq 0 j'.fst.2&&Nat.beq 0 j'.fst.3)&&true) True)
def n_G(T:TD):Prop:=
 ∃(j':SId×Bool),TD.Sd T j'/\TD.mu T j'<TD.mu T (SId.mk 2 0 0,false)/\a_f T=a_f T/\br j'.snd False (gd (Nat.beq 3 j'.fst.1&&(Nat.beq 0 j'.fst.2&&Nat.beq 0 j'.fst.3)&&true) True)
def n_H(T:TD):Prop:=
 ∃(j':SId×Bool),TD.Sd T j'/\TD.mu T j'<TD.mu T (SId.mk 3 0 0,false)/\a_f T=a_f T/\br j'.snd False (gd (Nat.beq 4 j'.fst.1&&(Nat.beq 0 j'.fst.2&&Nat.beq 0 j'.fst.3)&&true) True)
def s_w(T:TD)(i:Nat):Prop:=
 ∃(j':SId×Bool),TD.Sd T j'/\TD.mu T j'<TD.mu T (SId.mk 4 i 0,false)/\a_f T=a_f T/\br j'.snd False (gd (Nat.beq 5 j'.fst.1&&(Nat.beq i j'.fst.2&&Nat.beq 0 j'.fst.3)&&true) True)
def s_x(T:TD)(i:Nat)(j:Nat):Prop:=
 letI d:=SId×Bool;letI c:=a_f T=a_f T;letI b:=TD.mu T (SId.mk 5 i j,false);letI a:=br (TD.hasT T i j) (∃(j':d),TD.Sd T j'/\TD.mu T j'<b/\c/\br j'.snd False (gd (Nat.beq 6 j'.fst.1&&(Nat.beq i j'.fst.2&&Nat.beq j j'.fst.3)&&true) True)) (br (Nat.blt (j+1) (T.C i)) (∃(j':d),TD.Sd T j'/\TD.mu T j'<b/\c/\br j'.snd False (gd (Nat.beq 5 j'.fst.1&&(Nat.beq i j'.fst.2&&Nat.beq (j+1) j'.fst.3)&&true) True)) (br (Nat.blt (i+1) T.R) (∃(j':d),TD.Sd T j'/\TD.mu T j'<b/\c/\br j'.snd False (gd (Nat.beq 4 j'.fst.1&&(Nat.beq (i+1) j'.fst.2&&Nat.beq 0 j'.fst.3)&&true) True)) (∃(j':d),TD.Sd T j'/\TD.mu T j'<b/\c/\br j'.snd True False)));br (Nat.beq i 0&&T.hd) a a
def s_y(T:TD)(i:Nat)(j:Nat):Prop:=
 letI c:=SId×Bool;letI b:=a_f T=a_f T;letI a:=TD.mu T (SId.mk 6 i j,false);br (Nat.blt (j+1) (T.C i)) (∃(j':c),TD.Sd T j'/\TD.mu T j'<a/\b/\br j'.snd False (gd (Nat.beq 5 j'.fst.1&&(Nat.beq i j'.fst.2&&Nat.beq (j+1) j'.fst.3)&&true) True)) (br (Nat.blt (i+1) T.R) (∃(j':c),TD.Sd T j'/\TD.mu T j'<a/\b/\br j'.snd False (gd (Nat.beq 4 j'.fst.1&&(Nat.beq (i+1) j'.fst.2&&Nat.beq 0 j'.fst.3)&&true) True)) (∃(j':c),TD.Sd T j'/\TD.mu T j'<a/\b/\br j'.snd True False))
def n_I(T:TD):Prop:=
 letI a:=a_f T=a_f T;TD.Sd T (SId.mk 1 0 0,false)/\(a/\True)/\∀(x:Unit),True->∃(x:Unit),True/\a/\True/\True/\True
theorem s_z(T:TD):n_F T:=by
 unfold n_F
 try simp only[a_j,Bool.and_eq_true,sj5,sj9]
 repeat' (first|done|(refine c_9 (p_4) ?_;exact nxs)|exact rfl|exact trivial|omega|intro _|refine⟨?_,?_⟩)
theorem s_A(T:TD):n_G T:=by
 unfold n_G
 try simp only[a_j,Bool.and_eq_true,sj5,sj9]
 repeat' (first|done|(refine c_9 (p_5) ?_;exact nxs)|exact rfl|exact trivial|omega|intro _|refine⟨?_,?_⟩)
theorem s_B(T:TD)(h:0<T.R):n_H T:=by
 unfold n_H
 try simp only[a_j,Bool.and_eq_true,sj5,sj9]
 repeat' (first|done|(refine c_9 (m_A h) ?_;exact nxs)|exact rfl|exact trivial|omega|intro _|refine⟨?_,?_⟩)
theorem u_U(T:TD)(i:Nat)(h:i<T.R)(hc:0<T.C i):s_w T i:=by
 unfold s_w
 try simp only[a_j,Bool.and_eq_true,sj5,sj9]
 repeat' (first|done|(refine c_9 (r_Z h hc) ?_;exact nxs)|exact rfl|exact trivial|omega|intro _|refine⟨?_,?_⟩)
theorem u_V(T:TD)(i j:Nat)(h:i<T.R)(hc:j<T.C i):s_x T i j:=by
 unfold s_x
 try simp only[a_j,Bool.and_eq_true,sj5,sj9]
 repeat' (first|done|(refine c_9 (p_h h hc) ?_;exact nxs)|(refine c_9 (g_b h ac) ?_;exact nxs)|(refine c_9 (g_c ac hc) ?_;exact nxs)|(refine c_9 (g_d h hc) ?_;exact nxs)|exact rfl|exact trivial|omega|intro _|refine⟨?_,?_⟩)
theorem u_W(T:TD)(i j:Nat)(h:i<T.R)(hc:j<T.C i):s_y T i j:=by
 unfold s_y
 try simp only[a_j,Bool.and_eq_true,sj5,sj9]
 repeat' (first|done|(refine c_9 (p_6 h ac) ?_;exact nxs)|(refine c_9 (p_7 ac hc) ?_;exact nxs)|(refine c_9 (p_8 h hc) ?_;exact nxs)|exact rfl|exact trivial|omega|intro _|refine⟨?_,?_⟩)
theorem s_C(T:TD):n_I T:=by
 unfold n_I
 try simp only[a_j,Bool.and_eq_true,a_k,and_true,true_and]
 repeat' (first|done|exact rfl|exact trivial|exact()|exact T.sd0|exact T.sdE0|intro _|(apply Exists.intro (doc,false))|refine⟨?_,?_⟩)
theorem H_s(T:TD)(hT:T.Ok):(reD T).Body Tryz.prog (sub (a_b Tryz.f221) [0,0,1]):=by
 refine LoopD.bodyH (root:=a_b Tryz.f221) [0,0,1] a_l (a_y) LTok.nil 1000 ?_
 rintro⟨x,e⟩ hj
 cases e with
 |true=>exact Ho.of (c_I T x) aa (f_q T x)
 |false=>
  have hv:T.Val x:=hj rfl
  rcases hv with h|h|h|⟨i,hi,h⟩|⟨i,k,hi,hk,h⟩|⟨i,k,hi,hk,h⟩<;>subst h
  ·exact Ho.of (n_F T) aa (s_z T)
  ·exact Ho.of (n_G T) aa (s_A T)
  ·exact Ho.of (n_H T) aa (s_B T hT.1)
  ·exact Ho.of (s_w T i) aa (u_U T i hi (hT.2 i hi))
  ·exact Ho.of (s_x T i k) aa (u_V T i k hi hk)
  ·exact Ho.of (s_y T i k) aa (u_W T i k hi hk)
theorem u_X:a_t Tryz.prog 221:=⟨Tryz.f221,aa,rfl,aa⟩
theorem A_m(T:TD)(hT:T.Ok):(reS T).Body Tryz.prog 221/\(reS T).BodyD Tryz.prog 221:=by
 refine a_c (fn:=Tryz.f221) (b:=a_b Tryz.f221) (LT:=fun _=>[([0,1],(reD T).at (doc,false))]) a_l (a_y) 1000 (fun _ _=>LTok.cons (fun fr H K hk=>LoopD.ok (H_s T hT) hk) LTok.nil) aa aa ?_
 exact fun _ _=>Ho.of (n_I T) aa (s_C T)
theorem c_j:a_t Tryz.prog 270:=⟨Tryz.f270,aa,rfl,aa⟩
theorem A_n(T:TD):(y_Z T).Body Tryz.prog 270/\(y_Z T).BodyD Tryz.prog 270:=by
 refine a_c (fn:=Tryz.f270) (b:=a_b Tryz.f270) (LT:=fun _=>[]) a_l a_y 1000 (fun _ _=>LTok.nil) aa aa ?_
 exact fun a _=>Ho.of (o_K T a.1 a.2) aa (n_C T a.1 a.2)
theorem g_r(T:TD):TabOk Tryz.prog (n_i T):=by
 refine⟨fun f s h=>?_,fun f s h=>am⟩
 unfold n_i at h
 simp only at h
 split at h
 ·cases h;exact a_d c_j (A_n T).1
 ·cases h
theorem u_Y(T:TD)(i:Nat):(u_u T i).Body Tryz.prog (sub (a_b Tryz.f270) [0,0,1,1]):=
 LoopD.bodyH (root:=a_b Tryz.f270) [0,0,1,1] a_l (g_r T) LTok.nil 1000 (fun k hk=>Ho.of (s_s T i k) aa (n_D T i k hk))
theorem A_o(T:TD):(y_0 T).Body Tryz.prog 270/\(y_0 T).BodyD Tryz.prog 270:=by
 refine a_c (fn:=Tryz.f270) (b:=a_b Tryz.f270) (LT:=fun i=>[([0,1,1],(u_u T i).at (0:Nat))]) a_l (g_r T) 1000 (fun i _=>LTok.cons (fun fr H K hk=>LoopD.ok (u_Y T i) hk) LTok.nil) aa aa ?_
 exact fun i hi=>Ho.of (q_j T i) aa (k_G T i hi)
theorem g_s(T:TD):TabOk Tryz.prog (n_j T):=by
 refine⟨fun f s h=>?_,fun f s h=>am⟩
 unfold n_j at h
 simp only at h
 split at h
 ·cases h;exact a_d c_j (A_o T).1
 ·cases h
theorem u_Z(T:TD)(hT:T.Ok):(u_v T).Body Tryz.prog (sub (a_b Tryz.f270) [0,0,1,1]):=
 LoopD.bodyH (root:=a_b Tryz.f270) [0,0,1,1] a_l (g_s T) LTok.nil 1000 (fun k hk=>Ho.of (s_t T k) aa (n_E T hT k hk))
theorem A_p(T:TD):(y_1 T).Body Tryz.prog 270/\(y_1 T).BodyD Tryz.prog 270:=by
 refine a_c (fn:=Tryz.f270) (b:=a_b Tryz.f270) (LT:=fun _=>[([0,1,1],(u_v T).at (0:Nat))]) a_l (g_s T) 1000 (fun _ hT=>LTok.cons (fun fr H K hk=>LoopD.ok (u_Z T hT) hk) LTok.nil) aa aa ?_
 exact fun _ hT=>Ho.of (q_k T) aa (k_H T hT)
theorem k_Q(T:TD):TabOk Tryz.prog (n_k T):=by
 refine⟨fun f s h=>?_,fun f s h=>am⟩
 unfold n_k at h
 simp only at h
 split at h
 ·cases h;exact a_d c_j (A_p T).1
 ·cases h
theorem A_q(T:TD):(y_2 T).Body Tryz.prog 270/\(y_2 T).BodyD Tryz.prog 270:=by
 refine a_c (fn:=Tryz.f270) (b:=a_b Tryz.f270) (LT:=fun _=>[]) a_l (k_Q T) 1000 (fun _ _=>LTok.nil) aa aa ?_
 exact fun _ hT=>Ho.of (e_W T) aa (d_9 T hT)
theorem k_R(T:TD):TabOk Tryz.prog (n_l T):=by
 refine⟨fun f s h=>?_,fun f s h=>am⟩
 unfold n_l at h
 simp only at h
 split at h
 ·cases h;exact a_d c_j (A_q T).1
 ·cases h
theorem A_r(T:TD):(y_3 T).Body Tryz.prog 270/\(y_3 T).BodyD Tryz.prog 270:=by
 refine a_c (fn:=Tryz.f270) (b:=a_b Tryz.f270) (LT:=fun _=>[]) a_l (k_R T) 1000 (fun _ _=>LTok.nil) aa aa ?_
 exact fun _ hT=>Ho.of (e_W T) aa (d_9 T hT)
theorem u_0(T:TD)(hT:T.Ok):TabOk Tryz.prog (wcU T):=by
 refine⟨fun f s h=>?_,fun f s h=>am⟩
 unfold wcU at h
 simp only at h
 split at h
 ·cases h;exact a_d c_j (A_r T).1
 ·cases h
theorem A_s(T:TD)(hT:T.Ok):e_W T:=by
 unfold e_W
 try simp only[a_j,a_p,Bool.and_eq_true,sj5,a_m,sj4,sj8]
 repeat' (first|done|omega|exact rfl|exact trivial|assumption|exact()|intro _|refine⟨?_,?_⟩)
theorem n_J:a_t Tryz.prog 222:=⟨Tryz.f222,aa,rfl,aa⟩
theorem A_t(T:TD)(hT:T.Ok):(wcS T).Body Tryz.prog 222/\(wcS T).BodyD Tryz.prog 222:=by
 refine a_c (fn:=Tryz.f222) (b:=a_b Tryz.f222) (LT:=fun _=>[]) a_l (u_0 T hT) 1000 (fun a ha=>LTok.nil) aa aa ?_
 exact fun a ha=>Ho.of (e_W T) aa (A_s T ha)
def x_C(T:TD)(i:Nat)(j:Nat):Prop:=
 letI d:=Nat.beq i 0&&T.hd;letI c:=∃(x:Unit),True/\a_f T=a_f T/\True/\True/\True;letI b:=br (TD.hasT T i j) c c;letI a:=br d b b;br d a a
theorem u_1(T:TD)(i j:Nat):x_C T i j:=by
 unfold x_C
 simp only[sj7,sj4,imp_self]
theorem A_u(T:TD):(y_4 T).Body Tryz.prog 270/\(y_4 T).BodyD Tryz.prog 270:=by
 refine a_c (fn:=Tryz.f270) (b:=a_b Tryz.f270) (LT:=fun _=>[]) a_l a_y 1000 (fun _ _=>LTok.nil) aa aa ?_
 exact fun a _=>Ho.of (x_C T a.1 a.2) aa (u_1 T a.1 a.2)
theorem g_t(T:TD):TabOk Tryz.prog (n_m T):=by
 refine⟨fun f s h=>?_,fun f s h=>am⟩
 unfold n_m at h
 simp only at h
 split at h
 ·cases h;exact a_d c_j (A_u T).1
 ·cases h
theorem u_2(T:TD)(i:Nat):(u_w T i).Body Tryz.prog (sub (a_b Tryz.f270) [0,0,1,1]):=
 LoopD.bodyH (root:=a_b Tryz.f270) [0,0,1,1] a_l (g_t T) LTok.nil 1000 (fun k hk=>Ho.of (s_s T i k) aa (n_D T i k hk))
theorem A_v(T:TD):(y_5 T).Body Tryz.prog 270/\(y_5 T).BodyD Tryz.prog 270:=by
 refine a_c (fn:=Tryz.f270) (b:=a_b Tryz.f270) (LT:=fun i=>[([0,1,1],(u_w T i).at (0:Nat))]) a_l (g_t T) 1000 (fun i _=>LTok.cons (fun fr H K hk=>LoopD.ok (u_2 T i) hk) LTok.nil) aa aa ?_
 exact fun i hi=>Ho.of (q_j T i) aa (k_G T i hi)
theorem g_u(T:TD):TabOk Tryz.prog (n_n T):=by
 refine⟨fun f s h=>?_,fun f s h=>am⟩
 unfold n_n at h
 simp only at h
 split at h
 ·cases h;exact a_d c_j (A_v T).1
 ·cases h
theorem u_3(T:TD)(hT:T.Ok):(u_x T).Body Tryz.prog (sub (a_b Tryz.f270) [0,0,1,1]):=
 LoopD.bodyH (root:=a_b Tryz.f270) [0,0,1,1] a_l (g_u T) LTok.nil 1000 (fun k hk=>Ho.of (s_t T k) aa (n_E T hT k hk))
theorem A_w(T:TD):(y_6 T).Body Tryz.prog 270/\(y_6 T).BodyD Tryz.prog 270:=by
 refine a_c (fn:=Tryz.f270) (b:=a_b Tryz.f270) (LT:=fun _=>[([0,1,1],(u_x T).at (0:Nat))]) a_l (g_u T) 1000 (fun _ hT=>LTok.cons (fun fr H K hk=>LoopD.ok (u_3 T hT) hk) LTok.nil) aa aa ?_
 exact fun _ hT=>Ho.of (q_k T) aa (k_H T hT)
theorem k_S(T:TD):TabOk Tryz.prog (n_o T):=by
 refine⟨fun f s h=>?_,fun f s h=>am⟩
 unfold n_o at h
 simp only at h
 split at h
 ·cases h;exact a_d c_j (A_w T).1
 ·cases h
theorem A_x(T:TD):(y_7 T).Body Tryz.prog 270/\(y_7 T).BodyD Tryz.prog 270:=by
 refine a_c (fn:=Tryz.f270) (b:=a_b Tryz.f270) (LT:=fun _=>[]) a_l (k_S T) 1000 (fun _ _=>LTok.nil) aa aa ?_
 exact fun _ hT=>Ho.of (e_W T) aa (d_9 T hT)
theorem k_T(T:TD):TabOk Tryz.prog (n_p T):=by
 refine⟨fun f s h=>?_,fun f s h=>am⟩
 unfold n_p at h
 simp only at h
 split at h
 ·cases h;exact a_d c_j (A_x T).1
 ·cases h
theorem A_y(T:TD):(y_8 T).Body Tryz.prog 270/\(y_8 T).BodyD Tryz.prog 270:=by
 refine a_c (fn:=Tryz.f270) (b:=a_b Tryz.f270) (LT:=fun _=>[]) a_l (k_T T) 1000 (fun _ _=>LTok.nil) aa aa ?_
 exact fun _ hT=>Ho.of (e_W T) aa (d_9 T hT)
theorem u_4(T:TD)(hT:T.Ok):TabOk Tryz.prog (wbU T):=by
 refine⟨fun f s h=>?_,fun f s h=>am⟩
 unfold wbU at h
 simp only at h
 split at h
 ·cases h;exact a_d c_j (A_y T).1
 ·cases h
theorem A_z(T:TD)(hT:T.Ok):(wbS T).Body Tryz.prog 222/\(wbS T).BodyD Tryz.prog 222:=by
 refine a_c (fn:=Tryz.f222) (b:=a_b Tryz.f222) (LT:=fun _=>[]) a_l (u_4 T hT) 1000 (fun a ha=>LTok.nil) aa aa ?_
 exact fun a ha=>Ho.of (e_W T) aa (A_s T ha)
theorem A_A(T:TD):(y_9 T).Body Tryz.prog 270/\(y_9 T).BodyD Tryz.prog 270:=by
 refine a_c (fn:=Tryz.f270) (b:=a_b Tryz.f270) (LT:=fun _=>[]) a_l a_y 1000 (fun _ _=>LTok.nil) aa aa ?_
 exact fun a _=>Ho.of (o_K T a.1 a.2) aa (n_C T a.1 a.2)
theorem g_v(T:TD):TabOk Tryz.prog (n_q T):=by
 refine⟨fun f s h=>?_,fun f s h=>am⟩
 unfold n_q at h
 simp only at h
 split at h
 ·cases h;exact a_d c_j (A_A T).1
 ·cases h
theorem u_5(T:TD)(i:Nat):(u_y T i).Body Tryz.prog (sub (a_b Tryz.f270) [0,0,1,1]):=
 LoopD.bodyH (root:=a_b Tryz.f270) [0,0,1,1] a_l (g_v T) LTok.nil 1000 (fun k hk=>Ho.of (s_s T i k) aa (n_D T i k hk))
theorem A_B(T:TD):(z_a T).Body Tryz.prog 270/\(z_a T).BodyD Tryz.prog 270:=by
 refine a_c (fn:=Tryz.f270) (b:=a_b Tryz.f270) (LT:=fun i=>[([0,1,1],(u_y T i).at (0:Nat))]) a_l (g_v T) 1000 (fun i _=>LTok.cons (fun fr H K hk=>LoopD.ok (u_5 T i) hk) LTok.nil) aa aa ?_
 exact fun i hi=>Ho.of (q_j T i) aa (k_G T i hi)
theorem g_w(T:TD):TabOk Tryz.prog (n_r T):=by
 refine⟨fun f s h=>?_,fun f s h=>am⟩
 unfold n_r at h
 simp only at h
 split at h
 ·cases h;exact a_d c_j (A_B T).1
 ·cases h
theorem u_6(T:TD)(hT:T.Ok):(u_z T).Body Tryz.prog (sub (a_b Tryz.f270) [0,0,1,1]):=
 LoopD.bodyH (root:=a_b Tryz.f270) [0,0,1,1] a_l (g_w T) LTok.nil 1000 (fun k hk=>Ho.of (s_t T k) aa (n_E T hT k hk))
theorem A_C(T:TD):(z_b T).Body Tryz.prog 270/\(z_b T).BodyD Tryz.prog 270:=by
 refine a_c (fn:=Tryz.f270) (b:=a_b Tryz.f270) (LT:=fun _=>[([0,1,1],(u_z T).at (0:Nat))]) a_l (g_w T) 1000 (fun _ hT=>LTok.cons (fun fr H K hk=>LoopD.ok (u_6 T hT) hk) LTok.nil) aa aa ?_
 exact fun _ hT=>Ho.of (q_k T) aa (k_H T hT)
theorem k_U(T:TD):TabOk Tryz.prog (n_s T):=by
 refine⟨fun f s h=>?_,fun f s h=>am⟩
 unfold n_s at h
 simp only at h
 split at h
 ·cases h;exact a_d c_j (A_C T).1
 ·cases h
theorem A_D(T:TD):(z_c T).Body Tryz.prog 270/\(z_c T).BodyD Tryz.prog 270:=by
 refine a_c (fn:=Tryz.f270) (b:=a_b Tryz.f270) (LT:=fun _=>[]) a_l (k_U T) 1000 (fun _ _=>LTok.nil) aa aa ?_
 exact fun _ hT=>Ho.of (e_W T) aa (d_9 T hT)
theorem k_V(T:TD):TabOk Tryz.prog (n_t T):=by
 refine⟨fun f s h=>?_,fun f s h=>am⟩
 unfold n_t at h
 simp only at h
 split at h
 ·cases h;exact a_d c_j (A_D T).1
 ·cases h
theorem A_E(T:TD):(z_d T).Body Tryz.prog 270/\(z_d T).BodyD Tryz.prog 270:=by
 refine a_c (fn:=Tryz.f270) (b:=a_b Tryz.f270) (LT:=fun _=>[]) a_l (k_V T) 1000 (fun _ _=>LTok.nil) aa aa ?_
 exact fun _ hT=>Ho.of (e_W T) aa (d_9 T hT)
theorem u_7(T:TD)(hT:T.Ok):TabOk Tryz.prog (wlU T):=by
 refine⟨fun f s h=>?_,fun f s h=>am⟩
 unfold wlU at h
 simp only at h
 split at h
 ·cases h;exact a_d c_j (A_E T).1
 ·cases h
theorem A_F(T:TD)(hT:T.Ok):(wlS T).Body Tryz.prog 222/\(wlS T).BodyD Tryz.prog 222:=by
 refine a_c (fn:=Tryz.f222) (b:=a_b Tryz.f222) (LT:=fun _=>[]) a_l (u_7 T hT) 1000 (fun a ha=>LTok.nil) aa aa ?_
 exact fun a ha=>Ho.of (e_W T) aa (A_s T ha)
theorem H_t(T:TD)(hT:T.Ok):(asD T).Body Tryz.prog (sub (a_b Tryz.f225) [0,0,1]):=by
 refine LoopD.bodyH (root:=a_b Tryz.f225) [0,0,1] a_l (a_y) LTok.nil 1000 ?_
 rintro⟨x,e⟩ hj
 cases e with
 |true=>exact Ho.of (c_I T x) aa (f_q T x)
 |false=>
  have hv:T.Val x:=(hj rfl).1
  rcases hv with h|h|h|⟨i,hi,h⟩|⟨i,k,hi,hk,h⟩|⟨i,k,hi,hk,h⟩<;>subst h
  ·exact Ho.of (g_n T) aa (h_r T)
  ·exact Ho.of (g_o T) aa (h_s T)
  ·exact Ho.of (g_p T) aa (h_t T hT.1)
  ·exact Ho.of (k_P T i) aa (j_3 T i hi (hT.2 i hi))
  ·exact Ho.of (p_t T i k) aa (q_s T i k hi hk)
  ·exact absurd rfl (hj rfl).2
theorem u_8:a_t Tryz.prog 225:=⟨Tryz.f225,aa,rfl,aa⟩
theorem A_G(T:TD)(hT:T.Ok):(asS T).Body Tryz.prog 225/\(asS T).BodyD Tryz.prog 225:=by
 refine a_c (fn:=Tryz.f225) (b:=a_b Tryz.f225) (LT:=fun _=>[([0,1],(asD T).at (doc,false))]) a_l (a_y) 1000 (fun _ _=>LTok.cons (fun fr H K hk=>LoopD.ok (H_t T hT) hk) LTok.nil) aa aa ?_
 exact fun _ _=>Ho.of (g_q T) aa (h_u T)
def A_H(T:TD)(i:Nat)(k:Nat):Prop:=
 letI m:=T.C i;letI n:=k+1;letI h:=a_f T=a_f T;letI g:=Value.bool false;letI f:=AVal.lit g;letI e:=g=g;letI d:=fun(j:Nat)=>[AVal.sp (SId.mk 5 i j) 0,f,f,AVal.ptr 0 0,AVal.ptr 1 0];letI c:=PinF 2 d;letI b:=d=d;letI a:=b/\c/\gd (Nat.beq i i&&Nat.beq k k&&true) (e/\e/\True);br (Nat.blt k m) (br (Nat.blt n m) (∃(j':Nat),Nat.le j' m/\m-j'<m-k/\h/\e/\e/\br (Nat.blt j' m) (gd (Nat.beq i i&&Nat.beq n j'&&true) (j'=n/\a)) False) (∃(j':Nat),Nat.le j' m/\m-j'<m-k/\h/\e/\e/\br (Nat.blt j' m) False (j'=n/\a))) (∃(x:Unit),True/\h/\k=m/\b/\c/\True)
def A_I(T:TD)(i:Nat):Prop:=
 letI d:=a_f T=a_f T;letI c:=Value.bool false;letI b:=c=c;letI a:=AHeap.mk (Tr.node (some (ABlk.row [AVal.top] 131 (ATot.n 1))) (Tr.node (some (ABlk.row [AVal.fn (Fn.func 279) [] [AVal.ptr 0 0,AVal.ptr 1 0]] 357 (ATot.n 1))) Tr.nil Tr.nil) Tr.nil) 2 [] [0,1] (a_f T);Nat.le 0 (T.C i)/\(d/\b/\b/\br (Nat.blt 0 (T.C i)) (gd (Nat.beq i i&&true&&true) (0=0/\True)) False)/\∀(x:Unit),True->(∀(k:Nat),k<T.C i->d/\True/\gd (Nat.beq i i&&Nat.beq k k&&true) (b/\b/\∀(x:Unit),True->a=a))/\∃(x:Unit),True/\d/\True/\True/\True
def A_J(T:TD)(k:Nat):Prop:=
 letI m:=k+1;letI h:=a_f T=a_f T;letI g:=Value.bool false;letI f:=AVal.lit g;letI e:=g=g;letI d:=fun(j:Nat)=>[AVal.sp (SId.mk 4 j 0) 0,f,f,AVal.ptr 0 0,AVal.ptr 1 0];letI c:=PinF 2 d;letI b:=d=d;letI a:=b/\c/\gd (Nat.beq k k&&true&&true) (e/\e/\True);br (Nat.blt k T.R) (br (Nat.blt m T.R) (∃(j':Nat),Nat.le j' T.R/\T.R-j'<T.R-k/\h/\e/\e/\br (Nat.blt j' T.R) (gd (Nat.beq m j'&&true&&true) (j'=m/\a)) False) (∃(j':Nat),Nat.le j' T.R/\T.R-j'<T.R-k/\h/\e/\e/\br (Nat.blt j' T.R) False (j'=m/\a))) (∃(x:Unit),True/\h/\k=T.R/\b/\c/\True)
def A_K(T:TD):Prop:=
 letI d:=a_f T=a_f T;letI c:=Value.bool false;letI b:=c=c;letI a:=AHeap.mk (Tr.node (some (ABlk.row [AVal.top] 131 (ATot.n 1))) (Tr.node (some (ABlk.row [AVal.fn (Fn.func 279) [] [AVal.ptr 0 0,AVal.ptr 1 0]] 357 (ATot.n 1))) Tr.nil Tr.nil) Tr.nil) 2 [] [0,1] (a_f T);Nat.le 0 T.R/\(d/\b/\b/\br (Nat.blt 0 T.R) (0=0/\True) False)/\∀(x:Unit),True->(∀(k:Nat),k<T.R->d/\Nat.le 1 (T.C k)/\gd (Nat.beq k k&&true&&true) (b/\b/\∀(x:Unit),True->a=a))/\∃(x:Unit),True/\d/\True/\True/\True
def x_D(T:TD):Prop:=
 letI c:=a_f T=a_f T;letI b:=Value.bool false;letI a:=b=b;c/\TD.Ok T/\a/\a/\∀(x:Unit),True->∃(x:Unit),True/\c/\True/\True/\True
theorem q_v(f:Nat->SId):PinF 2 (fun j=>d_u (.sp (f j) 0)):=fun k=>.cons a_7 (.cons (a_g rfl) (.cons (a_g rfl) (.cons (SubA.ptr ac) (.cons (SubA.ptr ac) .nil))))
theorem A_L(T:TD)(i k:Nat)(h:k<=T.C i):A_H T i k:=by
 unfold A_H
 try simp only[sj7,sj4,imp_self]
 have hp:=q_v (fun j=>⟨5,i,j⟩)
 repeat' (first|done|omega|exact rfl|exact hp|exact trivial|intro _|refine⟨k+1,?_⟩|refine⟨?_,?_⟩)
theorem A_M(T:TD)(i:Nat)(h:0<T.C i):A_I T i:=by
 unfold A_I
 try simp only[sj7,sj4,imp_self,Nat.zero_le,h]
 repeat' (first|done|omega|exact rfl|exact trivial|intro _|refine⟨?_,?_⟩)
theorem A_N(T:TD)(hT:T.Ok)(k:Nat)(h:k<=T.R):A_J T k:=by
 have hC:=hT.2 k
 unfold A_J
 try simp only[sj7,sj4,imp_self]
 have hp:=q_v (fun j=>⟨4,j,0⟩)
 repeat' (first|done|omega|exact rfl|exact hp|exact trivial|intro _|refine⟨k+1,?_⟩|refine⟨?_,?_⟩)
theorem A_O(T:TD)(hT:T.Ok):A_K T:=by
 have hR:=hT.1
 unfold A_K
 try simp only[sj7,sj4,imp_self,Nat.zero_le,hR]
 repeat' (first|done|omega|exact rfl|exact trivial|exact fun k hk=>hT.2 k hk|intro _|refine⟨?_,?_⟩)
theorem u_9(T:TD)(hT:T.Ok):x_D T:=by
 have hR:=hT.1
 unfold x_D
 try simp only[sj7,sj4,imp_self,Nat.zero_le,hR]
 repeat' (first|done|omega|exact rfl|exact trivial|exact hT|assumption|intro _|refine⟨?_,?_⟩)
theorem i_E:a_t Tryz.prog 279:=⟨Tryz.f279,aa,rfl,aa⟩
theorem A_P(T:TD):(z_e T).Body Tryz.prog 279/\(z_e T).BodyD Tryz.prog 279:=by
 refine a_c (fn:=Tryz.f279) (b:=a_b Tryz.f279) (LT:=fun _=>[]) a_l a_y 1000 (fun _ _=>LTok.nil) aa aa ?_
 exact fun a _=>Ho.of (o_K T a.1 a.2) aa (n_C T a.1 a.2)
theorem g_x(T:TD):TabOk Tryz.prog (n_u T):=by
 refine⟨fun f s h=>am,fun f s h=>?_⟩
 unfold n_u at h
 simp only at h
 split at h
 ·cases h;exact c_n i_E (A_P T).2
 ·cases h
theorem v_a(T:TD)(i:Nat):(u_A T i).Body Tryz.prog (sub (a_b Tryz.f279) [0,0,1,1,1,1,1,1]):=
 LoopD.bodyH (root:=a_b Tryz.f279) [0,0,1,1,1,1,1,1] a_l (g_x T) LTok.nil 1000 (fun k hk=>Ho.of (A_H T i k) aa (A_L T i k hk))
theorem A_Q(T:TD):(z_f T).Body Tryz.prog 279/\(z_f T).BodyD Tryz.prog 279:=by
 refine a_c (fn:=Tryz.f279) (b:=a_b Tryz.f279) (LT:=fun i=>[([0,1,1,1,1,1,1],(u_A T i).at (0:Nat))]) a_l (g_x T) 1000 (fun i _=>LTok.cons (fun fr H K hk=>LoopD.ok (v_a T i) hk) LTok.nil) aa aa ?_
 exact fun i hi=>Ho.of (A_I T i) aa (A_M T i hi)
theorem g_y(T:TD):TabOk Tryz.prog (n_v T):=by
 refine⟨fun f s h=>am,fun f s h=>?_⟩
 unfold n_v at h
 simp only at h
 split at h
 ·cases h;exact c_n i_E (A_Q T).2
 ·cases h
theorem v_b(T:TD)(hT:T.Ok):(u_B T).Body Tryz.prog (sub (a_b Tryz.f279) [0,0,1,1,1,1,1,1]):=
 LoopD.bodyH (root:=a_b Tryz.f279) [0,0,1,1,1,1,1,1] a_l (g_y T) LTok.nil 1000 (fun k hk=>Ho.of (A_J T k) aa (A_N T hT k hk))
theorem A_R(T:TD):(z_g T).Body Tryz.prog 279/\(z_g T).BodyD Tryz.prog 279:=by
 refine a_c (fn:=Tryz.f279) (b:=a_b Tryz.f279) (LT:=fun _=>[([0,1,1,1,1,1,1],(u_B T).at (0:Nat))]) a_l (g_y T) 1000 (fun _ hT=>LTok.cons (fun fr H K hk=>LoopD.ok (v_b T hT) hk) LTok.nil) aa aa ?_
 exact fun _ hT=>Ho.of (A_K T) aa (A_O T hT)
theorem k_W(T:TD):TabOk Tryz.prog (n_w T):=by
 refine⟨fun f s h=>am,fun f s h=>?_⟩
 unfold n_w at h
 simp only at h
 split at h
 ·cases h;exact c_n i_E (A_R T).2
 ·cases h
theorem A_S(T:TD):(z_h T).Body Tryz.prog 279/\(z_h T).BodyD Tryz.prog 279:=by
 refine a_c (fn:=Tryz.f279) (b:=a_b Tryz.f279) (LT:=fun _=>[]) a_l (k_W T) 1000 (fun _ _=>LTok.nil) aa aa ?_
 exact fun _ hT=>Ho.of (x_D T) aa (u_9 T hT)
theorem k_X(T:TD):TabOk Tryz.prog (n_x T):=by
 refine⟨fun f s h=>am,fun f s h=>?_⟩
 unfold n_x at h
 simp only at h
 split at h
 ·cases h;exact c_n i_E (A_S T).2
 ·cases h
theorem A_T(T:TD):(z_i T).Body Tryz.prog 279/\(z_i T).BodyD Tryz.prog 279:=by
 refine a_c (fn:=Tryz.f279) (b:=a_b Tryz.f279) (LT:=fun _=>[]) a_l (k_X T) 1000 (fun _ _=>LTok.nil) aa aa ?_
 exact fun _ hT=>Ho.of (x_D T) aa (u_9 T hT)
end Tk

