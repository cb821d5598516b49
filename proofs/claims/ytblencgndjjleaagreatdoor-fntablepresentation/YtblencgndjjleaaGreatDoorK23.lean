/- Lemmas of this claim; the last text says what is proved. -/
import Derived.Test.YtblencgndjjleaaGreatDoorK22
import Derived.Test.YtblencgndjjleaaGreatDoorK16
set_option linter.all false
set_option maxRecDepth 1000000
namespace Tk
open Go Go.Sx Go.Proofs
variable [Syms]
def hcR(T:TD):Prop:=
 letI b:=a_f T=a_f T;letI a:=Value.nilFunc=Value.nilFunc;b/\TD.Ok T/\a/\a/\∀(x:Unit),True->∃(x:Unit),True/\b/\True/\True/\True
theorem v_o(T:TD)(hT:T.Ok):TabOk Tryz.prog (hcU T):=by
 refine⟨fun f s h=>?_,fun f s h=>am⟩
 unfold hcU at h
 simp only at h
 split at h
 ·cases h;exact a_d v_n (A_5 T hT).1
 ·cases h
theorem H_z(T:TD)(hT:T.Ok):hcR T:=by
 unfold hcR
 try simp only[a_j,a_p,Bool.and_eq_true,sj5,a_m,sj4,sj8]
 repeat' (first|done|omega|exact rfl|exact trivial|assumption|exact()|intro _|refine⟨?_,?_⟩)
theorem v_p:a_t Tryz.prog 145:=⟨Tryz.f145,aa,rfl,aa⟩
theorem A_6(T:TD)(hT:T.Ok):(hrS T).Body Tryz.prog 145/\(hrS T).BodyD Tryz.prog 145:=by
 refine a_c (fn:=Tryz.f145) (b:=a_b Tryz.f145) (LT:=fun _=>[]) a_l (v_o T hT) 1000 (fun a ha=>LTok.nil) aa aa ?_
 exact fun a ha=>Ho.of (hcR T) aa (H_z T ha)
theorem H_A(T:TD)(hT:T.Ok):(leD T).Body Tryz.prog (sub (a_b Tryz.f196) [0,0,1]):=by
 refine LoopD.bodyH (root:=a_b Tryz.f196) [0,0,1] a_l (a_y) LTok.nil 1000 ?_
 rintro⟨x,e⟩ hj
 cases e with
 |true=>exact Ho.of (c_I T x) aa (f_q T x)
 |false=>
  have hv:T.Val x:=(hj rfl).1
  rcases hv with h|h|h|⟨i,hi,h⟩|⟨i,k,hi,hk,h⟩|⟨i,k,hi,hk,h⟩<;>subst h
  ·exact Ho.of (g_n T) aa (h_r T)
  ·exact Ho.of (g_o T) aa (h_s T)
  ·exact Ho.of (g_p T) aa (h_t T hT.1)
  ·exact Ho.of (k_P T i) aa (j_3 T i hi (hT.2 i hi))
  ·exact Ho.of (p_u T i k) aa (q_u T i k hi hk)
  ·exact absurd rfl (hj rfl).2
theorem v_q:a_t Tryz.prog 196:=⟨Tryz.f196,aa,rfl,aa⟩
theorem A_7(T:TD)(hT:T.Ok):(reS T).Body Tryz.prog 196/\(reS T).BodyD Tryz.prog 196:=by
 refine a_c (fn:=Tryz.f196) (b:=a_b Tryz.f196) (LT:=fun _=>[([0,1],(leD T).at (doc,false))]) a_l (a_y) 1000 (fun _ _=>LTok.cons (fun fr H K hk=>LoopD.ok (H_A T hT) hk) LTok.nil) aa aa ?_
 exact fun _ _=>Ho.of (g_q T) aa (h_u T)
end Tk
namespace Tk
open Go Go.Sx Go.Proofs
open Q
variable [Syms]
def e_u(T:TD):Prop:=
 ∃(j':SId×Bool),(j'.snd=false->j'.1=SId.mk 3 0 0\/(∃(i:Nat),i<T.R/\j'.1=SId.mk 4 i 0)\/(∃(i:Nat),∃(k:Nat),i<T.R/\k<T.C i/\j'.1=SId.mk 5 i k)\/∃(i:Nat),∃(k:Nat),i<T.R/\k<T.C i/\j'.1=SId.mk 6 i k)/\TD.mu T j'<TD.mu T (SId.mk 3 0 0,false)/\a_f T=a_f T/\br j'.snd False (gd (Nat.beq 4 j'.fst.1&&(Nat.beq 0 j'.fst.2&&Nat.beq 0 j'.fst.3)&&true) True)
def g_B(T:TD)(i:Nat):Prop:=
 ∃(j':SId×Bool),(j'.snd=false->j'.1=SId.mk 3 0 0\/(∃(i:Nat),i<T.R/\j'.1=SId.mk 4 i 0)\/(∃(i:Nat),∃(k:Nat),i<T.R/\k<T.C i/\j'.1=SId.mk 5 i k)\/∃(i:Nat),∃(k:Nat),i<T.R/\k<T.C i/\j'.1=SId.mk 6 i k)/\TD.mu T j'<TD.mu T (SId.mk 4 i 0,false)/\a_f T=a_f T/\br j'.snd False (gd (Nat.beq 5 j'.fst.1&&(Nat.beq i j'.fst.2&&Nat.beq 0 j'.fst.3)&&true) True)
def j_4(T:TD)(i:Nat)(j:Nat):Prop:=
 letI e:=SId×Bool;letI d:=SId.mk 3 0 0;letI c:=a_f T=a_f T;letI b:=TD.mu T (SId.mk 5 i j,false);letI a:=br (TD.hasT T i j) (∃(j':e),(j'.snd=false->j'.1=d\/(∃(i:Nat),i<T.R/\j'.1=SId.mk 4 i 0)\/(∃(i:Nat),∃(k:Nat),i<T.R/\k<T.C i/\j'.1=SId.mk 5 i k)\/∃(i:Nat),∃(k:Nat),i<T.R/\k<T.C i/\j'.1=SId.mk 6 i k)/\TD.mu T j'<b/\c/\br j'.snd False (gd (Nat.beq 6 j'.fst.1&&(Nat.beq i j'.fst.2&&Nat.beq j j'.fst.3)&&true) True)) (br (Nat.blt (j+1) (T.C i)) (∃(j':e),(j'.snd=false->j'.1=d\/(∃(i:Nat),i<T.R/\j'.1=SId.mk 4 i 0)\/(∃(i:Nat),∃(k:Nat),i<T.R/\k<T.C i/\j'.1=SId.mk 5 i k)\/∃(i:Nat),∃(k:Nat),i<T.R/\k<T.C i/\j'.1=SId.mk 6 i k)/\TD.mu T j'<b/\c/\br j'.snd False (gd (Nat.beq 5 j'.fst.1&&(Nat.beq i j'.fst.2&&Nat.beq (j+1) j'.fst.3)&&true) True)) (br (Nat.blt (i+1) T.R) (∃(j':e),(j'.snd=false->j'.1=d\/(∃(i:Nat),i<T.R/\j'.1=SId.mk 4 i 0)\/(∃(i:Nat),∃(k:Nat),i<T.R/\k<T.C i/\j'.1=SId.mk 5 i k)\/∃(i:Nat),∃(k:Nat),i<T.R/\k<T.C i/\j'.1=SId.mk 6 i k)/\TD.mu T j'<b/\c/\br j'.snd False (gd (Nat.beq 4 j'.fst.1&&(Nat.beq (i+1) j'.fst.2&&Nat.beq 0 j'.fst.3)&&true) True)) (∃(j':e),(j'.snd=false->j'.1=d\/(∃(i:Nat),i<T.R/\j'.1=SId.mk 4 i 0)\/(∃(i:Nat),∃(k:Nat),i<T.R/\k<T.C i/\j'.1=SId.mk 5 i k)\/∃(i:Nat),∃(k:Nat),i<T.R/\k<T.C i/\j'.1=SId.mk 6 i k)/\TD.mu T j'<b/\c/\br j'.snd True False)));br (Nat.beq i 0&&T.hd) a a
def g_C(T:TD)(i:Nat)(j:Nat):Prop:=
 letI d:=SId×Bool;letI c:=SId.mk 3 0 0;letI b:=a_f T=a_f T;letI a:=TD.mu T (SId.mk 6 i j,false);br (Nat.blt (j+1) (T.C i)) (∃(j':d),(j'.snd=false->j'.1=c\/(∃(i:Nat),i<T.R/\j'.1=SId.mk 4 i 0)\/(∃(i:Nat),∃(k:Nat),i<T.R/\k<T.C i/\j'.1=SId.mk 5 i k)\/∃(i:Nat),∃(k:Nat),i<T.R/\k<T.C i/\j'.1=SId.mk 6 i k)/\TD.mu T j'<a/\b/\br j'.snd False (gd (Nat.beq 5 j'.fst.1&&(Nat.beq i j'.fst.2&&Nat.beq (j+1) j'.fst.3)&&true) True)) (br (Nat.blt (i+1) T.R) (∃(j':d),(j'.snd=false->j'.1=c\/(∃(i:Nat),i<T.R/\j'.1=SId.mk 4 i 0)\/(∃(i:Nat),∃(k:Nat),i<T.R/\k<T.C i/\j'.1=SId.mk 5 i k)\/∃(i:Nat),∃(k:Nat),i<T.R/\k<T.C i/\j'.1=SId.mk 6 i k)/\TD.mu T j'<a/\b/\br j'.snd False (gd (Nat.beq 4 j'.fst.1&&(Nat.beq (i+1) j'.fst.2&&Nat.beq 0 j'.fst.3)&&true) True)) (∃(j':d),(j'.snd=false->j'.1=c\/(∃(i:Nat),i<T.R/\j'.1=SId.mk 4 i 0)\/(∃(i:Nat),∃(k:Nat),i<T.R/\k<T.C i/\j'.1=SId.mk 5 i k)\/∃(i:Nat),∃(k:Nat),i<T.R/\k<T.C i/\j'.1=SId.mk 6 i k)/\TD.mu T j'<a/\b/\br j'.snd True False))
def f3R(T:TD):Prop:=
 letI b:=SId.mk 3 0 0;letI a:=a_f T=a_f T;(false=false->b=b\/(∃(i:Nat),i<T.R/\b=SId.mk 4 i 0)\/(∃(i:Nat),∃(k:Nat),i<T.R/\k<T.C i/\b=SId.mk 5 i k)\/∃(i:Nat),∃(k:Nat),i<T.R/\k<T.C i/\b=SId.mk 6 i k)/\(a/\True)/\∀(x:Unit),True->∃(x:Unit),True/\a/\True/\True/\True
theorem e_X(T:TD)(h:0<T.R):e_u T:=by
 unfold e_u
 try simp only[p_9,sj5,sj9,false_implies,true_implies]
 repeat' (first|done|(refine b_V (m_A h) (TD.sdTr h) ?_;simp[a_j,a_p,b_S,doc,tbl,tbd,Tk.tr,Tk.td,Tk.tx];done)|exact rfl|exact trivial|omega|exact TD.sdT0|exact Or.inl trivial|exact Or.inl rfl|exact()|intro _|refine⟨?_,?_⟩)
theorem h_H(T:TD)(i:Nat)(h:i<T.R)(hc:0<T.C i):g_B T i:=by
 unfold g_B
 try simp only[p_9,sj5,sj9,false_implies,true_implies]
 repeat' (first|done|(refine b_V (r_Z h hc) (TD.sdTd h hc) ?_;simp[a_j,a_p,b_S,doc,tbl,tbd,Tk.tr,Tk.td,Tk.tx];done)|exact rfl|exact trivial|omega|exact TD.sdT0|exact Or.inl trivial|exact Or.inl rfl|exact()|intro _|refine⟨?_,?_⟩)
theorem n_W(T:TD)(i j:Nat)(h:i<T.R)(hc:j<T.C i):j_4 T i j:=by
 unfold j_4
 try simp only[p_9,sj5,sj9,false_implies,true_implies]
 repeat' (first|done|(refine b_V (p_h h hc) (TD.sdTx h hc) ?_;simp[a_j,a_p,b_S,doc,tbl,tbd,Tk.tr,Tk.td,Tk.tx];done)|(refine b_V (g_b h ac) (TD.sdTd h ac) ?_;simp[a_j,a_p,b_S,doc,tbl,tbd,Tk.tr,Tk.td,Tk.tx];done)|(refine b_V (g_c ac hc) (TD.sdTr ac) ?_;simp[a_j,a_p,b_S,doc,tbl,tbd,Tk.tr,Tk.td,Tk.tx];done)|(refine b_V (g_d h hc) (TD.sdTe) ?_;simp[a_j,a_p,b_S,doc,tbl,tbd,Tk.tr,Tk.td,Tk.tx];done)|exact rfl|exact trivial|omega|exact TD.sdT0|exact Or.inl trivial|exact Or.inl rfl|exact()|intro _|refine⟨?_,?_⟩)
theorem h_I(T:TD)(i j:Nat)(h:i<T.R)(hc:j<T.C i):g_C T i j:=by
 unfold g_C
 try simp only[p_9,sj5,sj9,false_implies,true_implies]
 repeat' (first|done|(refine b_V (p_6 h ac) (TD.sdTd h ac) ?_;simp[a_j,a_p,b_S,doc,tbl,tbd,Tk.tr,Tk.td,Tk.tx];done)|(refine b_V (p_7 ac hc) (TD.sdTr ac) ?_;simp[a_j,a_p,b_S,doc,tbl,tbd,Tk.tr,Tk.td,Tk.tx];done)|(refine b_V (p_8 h hc) (TD.sdTe) ?_;simp[a_j,a_p,b_S,doc,tbl,tbd,Tk.tr,Tk.td,Tk.tx];done)|exact rfl|exact trivial|omega|exact TD.sdT0|exact Or.inl trivial|exact Or.inl rfl|exact()|intro _|refine⟨?_,?_⟩)
theorem e_Y(T:TD)(x:SId):c_I T x:=by
 unfold c_I
 try simp only[p_9,sj5,sj9,false_implies,true_implies]
 repeat' (first|done|done|exact rfl|exact trivial|omega|exact TD.sdT0|exact Or.inl trivial|exact Or.inl rfl|exact()|intro _|refine⟨?_,?_⟩)
theorem A_8(T:TD)(hT:T.Ok):(f3D T).Body Tryz.prog (sub (a_b Tryz.f429) [0,0,0,1,1,1]):=by
 refine LoopD.bodyH (root:=(a_b Tryz.f429)) [0,0,0,1,1,1] a_l (a_y) (LTok.nil) 1000 ?_
 rintro⟨x,e⟩ hj
 cases e with
 |true=>exact Ho.of (c_I T x) aa (e_Y T x)
 |false=>
  have hv:=hj rfl
  rcases hv with h|⟨i,hi,h⟩|⟨i,k,hi,hk,h⟩|⟨i,k,hi,hk,h⟩<;>simp only at h<;>subst h
  ·exact Ho.of (e_u T) aa (e_X T hT.1)
  ·exact Ho.of (g_B T i) aa (h_H T i hi (hT.2 i hi))
  ·exact Ho.of (j_4 T i k) aa (n_W T i k hi hk)
  ·exact Ho.of (g_C T i k) aa (h_I T i k hi hk)
theorem x_E(T:TD):f3R T:=by
 unfold f3R
 try simp only[p_9,sj5,sj9,false_implies,true_implies]
 repeat' (first|done|done|exact rfl|exact trivial|omega|exact TD.sdT0|exact Or.inl trivial|exact Or.inl rfl|exact()|intro _|refine⟨?_,?_⟩)
theorem f_J:a_t Tryz.prog 429:=⟨Tryz.f429,aa,rfl,aa⟩
theorem s_H(T:TD):(f3S T).Body Tryz.prog 429/\(f3S T).BodyD Tryz.prog 429:=by
 refine a_c (fn:=Tryz.f429) (b:=a_b Tryz.f429) (LT:=fun _=>[([0,0,1,1,1],(f3D T).at (tbd,false))]) a_l (a_y) 1000 (fun _ ha=>LTok.cons (fun fr H K hk=>LoopD.ok (A_8 T ha) hk) (LTok.nil)) aa aa ?_
 exact fun a ha=>Ho.of (f3R T) aa (x_E T)
theorem A_9(T:TD)(hT:T.Ok):(f5D T).Body Tryz.prog (sub (a_b Tryz.f429) [0,0,0,1,1,1]):=by
 refine LoopD.bodyH (root:=(a_b Tryz.f429)) [0,0,0,1,1,1] a_l (a_y) (LTok.nil) 1000 ?_
 rintro⟨x,e⟩ hj
 cases e with
 |true=>exact Ho.of (c_I T x) aa (e_Y T x)
 |false=>
  have hv:=hj rfl
  rcases hv with h|⟨i,hi,h⟩|⟨i,k,hi,hk,h⟩|⟨i,k,hi,hk,h⟩<;>simp only at h<;>subst h
  ·exact Ho.of (e_u T) aa (e_X T hT.1)
  ·exact Ho.of (g_B T i) aa (h_H T i hi (hT.2 i hi))
  ·exact Ho.of (j_4 T i k) aa (n_W T i k hi hk)
  ·exact Ho.of (g_C T i k) aa (h_I T i k hi hk)
theorem B_a(T:TD):(f5S T).Body Tryz.prog 429/\(f5S T).BodyD Tryz.prog 429:=by
 refine a_c (fn:=Tryz.f429) (b:=a_b Tryz.f429) (LT:=fun _=>[([0,0,1,1,1],(f5D T).at (tbd,false))]) a_l (a_y) 1000 (fun _ ha=>LTok.cons (fun fr H K hk=>LoopD.ok (A_9 T ha) hk) (LTok.nil)) aa aa ?_
 exact fun a ha=>Ho.of (f3R T) aa (x_E T)
def n_X(T:TD)(i:Nat)(j:Nat):Prop:=
 letI d:=SId×Bool;letI c:=SId.mk 3 0 0;letI b:=a_f T=a_f T;letI a:=TD.mu T (SId.mk 5 i j,false);br (Nat.beq i 0&&T.hd) False (br (TD.hasT T i j) (∃(j':d),(j'.snd=false->j'.1=c\/(∃(i:Nat),i<T.R/\j'.1=SId.mk 4 i 0)\/(∃(i:Nat),∃(k:Nat),i<T.R/\k<T.C i/\j'.1=SId.mk 5 i k)\/∃(i:Nat),∃(k:Nat),i<T.R/\k<T.C i/\j'.1=SId.mk 6 i k)/\TD.mu T j'<a/\b/\br j'.snd False (gd (Nat.beq 6 j'.fst.1&&(Nat.beq i j'.fst.2&&Nat.beq j j'.fst.3)&&true) True)) (br (Nat.blt (j+1) (T.C i)) (∃(j':d),(j'.snd=false->j'.1=c\/(∃(i:Nat),i<T.R/\j'.1=SId.mk 4 i 0)\/(∃(i:Nat),∃(k:Nat),i<T.R/\k<T.C i/\j'.1=SId.mk 5 i k)\/∃(i:Nat),∃(k:Nat),i<T.R/\k<T.C i/\j'.1=SId.mk 6 i k)/\TD.mu T j'<a/\b/\br j'.snd False (gd (Nat.beq 5 j'.fst.1&&(Nat.beq i j'.fst.2&&Nat.beq (j+1) j'.fst.3)&&true) True)) (br (Nat.blt (i+1) T.R) (∃(j':d),(j'.snd=false->j'.1=c\/(∃(i:Nat),i<T.R/\j'.1=SId.mk 4 i 0)\/(∃(i:Nat),∃(k:Nat),i<T.R/\k<T.C i/\j'.1=SId.mk 5 i k)\/∃(i:Nat),∃(k:Nat),i<T.R/\k<T.C i/\j'.1=SId.mk 6 i k)/\TD.mu T j'<a/\b/\br j'.snd False (gd (Nat.beq 4 j'.fst.1&&(Nat.beq (i+1) j'.fst.2&&Nat.beq 0 j'.fst.3)&&true) True)) (∃(j':d),(j'.snd=false->j'.1=c\/(∃(i:Nat),i<T.R/\j'.1=SId.mk 4 i 0)\/(∃(i:Nat),∃(k:Nat),i<T.R/\k<T.C i/\j'.1=SId.mk 5 i k)\/∃(i:Nat),∃(k:Nat),i<T.R/\k<T.C i/\j'.1=SId.mk 6 i k)/\TD.mu T j'<a/\b/\br j'.snd True False))))
theorem s_I(T:TD)(i j:Nat)(h:i<T.R)(hc:j<T.C i)(hh:T.hd=false):n_X T i j:=by
 unfold n_X
 simp only[hh,Bool.and_false,Bool.false_eq_true]
 try simp only[p_9,sj5,sj9,false_implies,true_implies]
 repeat' (first|done|(refine b_V (p_h h hc) (TD.sdTx h hc) ?_;simp[a_j,a_p,b_S,doc,tbl,tbd,Tk.tr,Tk.td,Tk.tx];done)|(refine b_V (g_b h ac) (TD.sdTd h ac) ?_;simp[a_j,a_p,b_S,doc,tbl,tbd,Tk.tr,Tk.td,Tk.tx];done)|(refine b_V (g_c ac hc) (TD.sdTr ac) ?_;simp[a_j,a_p,b_S,doc,tbl,tbd,Tk.tr,Tk.td,Tk.tx];done)|(refine b_V (g_d h hc) (TD.sdTe) ?_;simp[a_j,a_p,b_S,doc,tbl,tbd,Tk.tr,Tk.td,Tk.tx];done)|exact rfl|exact trivial|omega|exact TD.sdT0|exact Or.inl trivial|exact Or.inl rfl|exact()|intro _|refine⟨?_,?_⟩)
theorem B_b(T:TD)(hT:T.Ok/\T.hd=false):(f7D T).Body Tryz.prog (sub (a_b Tryz.f429) [0,0,0,1,1,1]):=by
 refine LoopD.bodyH (root:=(a_b Tryz.f429)) [0,0,0,1,1,1] a_l (a_y) (LTok.nil) 1000 ?_
 obtain⟨hT,hh⟩:=hT
 rintro⟨x,e⟩ hj
 cases e with
 |true=>exact Ho.of (c_I T x) aa (e_Y T x)
 |false=>
  have hv:=hj rfl
  rcases hv with h|⟨i,hi,h⟩|⟨i,k,hi,hk,h⟩|⟨i,k,hi,hk,h⟩<;>simp only at h<;>subst h
  ·exact Ho.of (e_u T) aa (e_X T hT.1)
  ·exact Ho.of (g_B T i) aa (h_H T i hi (hT.2 i hi))
  ·exact Ho.of (n_X T i k) aa (s_I T i k hi hk hh)
  ·exact Ho.of (g_C T i k) aa (h_I T i k hi hk)
theorem B_c(T:TD):(f7S T).Body Tryz.prog 429/\(f7S T).BodyD Tryz.prog 429:=by
 refine a_c (fn:=Tryz.f429) (b:=a_b Tryz.f429) (LT:=fun _=>[([0,0,1,1,1],(f7D T).at (tbd,false))]) a_l (a_y) 1000 (fun _ ha=>LTok.cons (fun fr H K hk=>LoopD.ok (B_b T ha) hk) (LTok.nil)) aa aa ?_
 exact fun a ha=>Ho.of (f3R T) aa (x_E T)
def f8R(T:TD):Prop:=
 ∃(x:Unit),True/\a_f (TD.wh T true)=a_f (TD.wh T true)/\True/\True/\True
theorem H_B(T:TD):f8R T:=by
 unfold f8R
 try simp only[a_j,a_p,Bool.and_eq_true,sj5,a_m,a_e,sj4,sj8]
 repeat' (first|done|omega|exact rfl|exact trivial|assumption|exact()|intro _|refine⟨?_,?_⟩)
theorem B_d(T:TD):(f8S T).Body Tryz.prog 429/\(f8S T).BodyD Tryz.prog 429:=by
 refine a_c (fn:=Tryz.f429) (b:=a_b Tryz.f429) (LT:=fun _=>[]) a_l (a_y) 1000 (fun a ha=>LTok.nil) aa aa ?_
 intro a ha
 obtain⟨T',rfl⟩:∃T':TD,T=T'.wh true:=⟨T,by cases T;simp only[TD.wh] at ha⊢;have ha:_=true:=ha;rw[←ha]⟩
 exact Ho.of (f8R T') aa (H_B T')
def shR(T:TD):Prop:=
 letI b:=True/\True;letI a:=a_f T=a_f T;a/\TD.Ok T/\∀(x:Unit),True->br T.hd (a/\T.hd=true/\∀(x:Unit),True->∃(x:Unit),True/\a/\b/\True/\br T.hd True False) (a/\(TD.Ok T/\T.hd=false)/\∀(x:Unit),True->∃(x:Unit),True/\a/\b/\True/\br T.hd False True)
theorem v_r(T:TD):TabOk Tryz.prog (shU T):=by
 refine⟨fun f s h=>?_,fun f s h=>?_⟩
 ·unfold shU at h
  simp only at h
  split at h
  ·cases h;exact c_X (a_d f_J (s_H T).1) (c_X (a_d f_J (B_a T).1) (d_a (a_d f_J (B_d T).1) (a_d f_J (B_c T).1)))
  ·cases h
 ·cases h
theorem H_C(T:TD)(ok:T.Ok):shR T:=by
 unfold shR
 try simp only[a_j,a_p,Bool.and_eq_true,sj5,a_m,a_e,sj4,sj8]
 exact⟨ok,fun h=>⟨h,fun h2=>by rw[h] at h2;cases h2⟩,fun h=>⟨⟨ok,h⟩,fun h2=>by rw[h] at h2;cases h2⟩⟩
theorem q_x:a_t Tryz.prog 420:=⟨Tryz.f420,aa,rfl,aa⟩
theorem v_s(T:TD):(shS T).Body Tryz.prog 420/\(shS T).BodyD Tryz.prog 420:=by
 refine a_c (fn:=Tryz.f420) (b:=a_b Tryz.f420) (LT:=fun _=>[]) a_l (v_r T) 1000 (fun a ha=>LTok.nil) aa aa ?_
 exact fun a ha=>Ho.of (shR T) aa (H_C T ha)
theorem H_D(T:TD)(i j:Nat):o_K T i j:=by
 unfold o_K
 try simp only[a_j,a_p,Bool.and_eq_true,sj5,a_m,a_e,sj4,sj8]
 repeat' (first|done|omega|exact rfl|exact trivial|assumption|exact()|intro _|refine⟨?_,?_⟩)
theorem f_K:a_t Tryz.prog 435:=⟨Tryz.f435,aa,rfl,aa⟩
theorem v_t(T:TD):(ntS T).Body Tryz.prog 435/\(ntS T).BodyD Tryz.prog 435:=by
 refine a_c (fn:=Tryz.f435) (b:=a_b Tryz.f435) (LT:=fun _=>[]) a_l (a_y) 1000 (fun a ha=>LTok.nil) aa aa ?_
 exact fun a ha=>Ho.of (o_K T a.1 a.2) aa (H_D T a.1 a.2)
def B_e(T:TD)(i:Nat)(k:Nat):Prop:=
 letI c:=T.C i;letI b:=a_f T=a_f T;letI a:=br T.hd (br T.hd True False) (br T.hd False True);br (Nat.blt k c) (b/\True/\gd (Nat.beq i i&&Nat.beq k k&&true) (∀(x:Unit),True->br (Nat.blt (k+1) c) (∃(j':Nat),Nat.le j' c/\c-j'<c-k/\b/\br (Nat.blt j' c) (gd (Nat.beq i i&&Nat.beq (k+1) j'&&true) a) False) (∃(j':Nat),Nat.le j' c/\c-j'<c-k/\b/\br (Nat.blt j' c) False a))) (∃(x:Unit),True/\b/\a)
def nuR(T:TD):Prop:=
 letI c:=a_f (TD.wh T true);letI b:=c=c;letI a:=(TD.mk T.R T.2 true T.4 T.pad T.keep T.span T.promote T.pres T.skip T.role T.12 T.13 T.14 T.15 T.oP T.oK T.oM).C 0;Nat.le 0 a/\(b/\br (Nat.blt 0 a) True False)/\∀(x:Unit),True->∃(x:Unit),True/\b/\True/\True/\True
theorem g_D(T:TD):TabOk Tryz.prog (nuU T):=by
 refine⟨fun f s h=>?_,fun f s h=>?_⟩
 ·unfold nuU at h
  simp only at h
  split at h
  ·cases h;exact a_d f_K (v_t T).1
  ·cases h
 ·cases h
theorem B_f(T:TD)(i:Nat)(k:Nat)(h:k<=T.C i):B_e T i k:=by
 unfold B_e
 try simp only[a_j,a_p,Bool.and_eq_true,sj5,a_m,a_e,sj4,sj8]
 repeat' (first|done|omega|exact rfl|exact trivial|assumption|exact()|(exfalso;omega)|(exfalso;simp_all;done)|exact fun _ _ _=>a_7|refine⟨k+1,ac,ac,?_⟩|exact⟨(),trivial,rfl,trivial⟩|intro _|refine⟨?_,?_⟩)
theorem B_g(T:TD)(i:Nat):(nuD T i).Body Tryz.prog (sub (a_b Tryz.f435) [0,0,1,1,1]):=by
 refine LoopD.bodyH (root:=(a_b Tryz.f435)) [0,0,1,1,1] a_l (g_D T) (LTok.nil) 1000 ?_
 exact fun k hk=>Ho.of (B_e T i k) aa (B_f T i k hk)
theorem H_E(T:TD)(ha:0<T.C 0):nuR T:=by
 unfold nuR
 try simp only[a_j,a_p,Bool.and_eq_true,sj5,a_m,a_e,sj4,sj8]
 repeat' (first|done|omega|exact rfl|exact trivial|assumption|exact()|intro _|refine⟨?_,?_⟩)
theorem B_h(T:TD):(nuS T).Body Tryz.prog 435/\(nuS T).BodyD Tryz.prog 435:=by
 refine a_c (fn:=Tryz.f435) (b:=a_b Tryz.f435) (LT:=fun _=>[([0,1,1,1],(nuD T 0).at (0:Nat))]) a_l (g_D T) 1000 (fun _ ha=>LTok.cons (fun fr H K hk=>LoopD.ok (B_g T 0) hk) (LTok.nil)) aa aa ?_
 rintro a ⟨ha,hc⟩
 obtain⟨T',rfl⟩:∃T':TD,T=T'.wh true:=⟨T,by cases T;simp only[TD.wh] at ha⊢;rw[ha]⟩
 exact Ho.of (nuR T') aa (H_E T' hc)
def B_i(T:TD)(i:Nat)(k:Nat):Prop:=
 letI e:=T.C i;letI d:=a_f T=a_f T;letI c:=fun(q:Nat)=>AVal.sp (SId.mk 4 (q+hN T) 0) 0;letI b:=1<=1/\SubF c c 1 []/\True;letI a:=br T.hd (br T.hd b False) (br T.hd False b);br (Nat.blt k e) (d/\True/\gd (Nat.beq i i&&Nat.beq k k&&true) (∀(x:Unit),True->br (Nat.blt (k+1) e) (∃(j':Nat),Nat.le j' e/\e-j'<e-k/\d/\br (Nat.blt j' e) (gd (Nat.beq i i&&Nat.beq (k+1) j'&&true) a) False) (∃(j':Nat),Nat.le j' e/\e-j'<e-k/\d/\br (Nat.blt j' e) False a))) (∃(x:Unit),True/\d/\a)
def B_j(T:TD):Prop:=
 letI f:=List (Nat×AVal);letI e:=a_f (TD.wh T true);letI c:=e=e;letI b:=fun(q:Nat)=>AVal.sp (SId.mk 4 (q+1) 0) 0;letI a:=(TD.mk T.R T.2 true T.4 T.pad T.keep T.span T.promote T.pres T.skip T.role T.12 T.13 T.14 T.15 T.oP T.oK T.oM).C 1;Nat.le 0 a/\(c/\br (Nat.blt 0 a) (1=1/\True) False)/\∀(x:Unit),True->∃(x:Unit),True/\c/\True/\(True/\([]:f)=([]:f)/\([]:List AVal)=([]:List AVal)/\∀(i:Nat),letI d:=AVal.sp (SId.mk 4 (i+1) 0) 0;i<1->SubA 0 d d)/\1<=1/\SubF b b 1 []/\True
def B_k(T:TD):Prop:=
 letI f:=List (Nat×AVal);letI e:=a_f (TD.wh T false);letI c:=fun(q:Nat)=>AVal.sp (SId.mk 4 q 0) 0;letI b:=e=e;letI a:=(TD.mk T.R T.2 false T.4 T.pad T.keep T.span T.promote T.pres T.skip T.role T.12 T.13 T.14 T.15 T.oP T.oK T.oM).C 0;Nat.le 0 a/\(b/\br (Nat.blt 0 a) (1=1/\True) False)/\∀(x:Unit),True->∃(x:Unit),True/\b/\True/\(True/\([]:f)=([]:f)/\([]:List AVal)=([]:List AVal)/\∀(i:Nat),letI d:=AVal.sp (SId.mk 4 i 0) 0;i<1->SubA 0 d d)/\1<=1/\SubF c c 1 []/\True
theorem B_l(T:TD)(i:Nat)(k:Nat)(h:k<=T.C i):B_i T i k:=by
 unfold B_i
 try simp only[a_j,a_p,Bool.and_eq_true,sj5,a_m,a_e,sj4,sj8]
 repeat' (first|done|omega|exact rfl|exact trivial|assumption|exact()|(exfalso;omega)|(exfalso;simp_all;done)|exact fun _ _ _=>a_7|refine⟨k+1,ac,ac,?_⟩|exact⟨(),trivial,rfl,trivial⟩|intro _|refine⟨?_,?_⟩)
theorem B_m(T:TD)(i:Nat):(nvD T i).Body Tryz.prog (sub (a_b Tryz.f435) [0,0,1,1,1]):=by
 refine LoopD.bodyH (root:=(a_b Tryz.f435)) [0,0,1,1,1] a_l (g_D T) (LTok.nil) 1000 ?_
 exact fun k hk=>Ho.of (B_i T i k) aa (B_l T i k hk)
theorem B_n(T:TD)(ha:0<T.C 1):B_j T:=by
 unfold B_j
 obtain ha:=ha
 simp only[TD.wh,a_j,a_p,Bool.and_eq_true,sj5,a_m,a_e,sj4,sj8]
 repeat' (first|done|omega|exact rfl|exact trivial|assumption|exact()|(exfalso;omega)|exact a_7|exact fun _ _ _=>a_7|intro _|refine⟨?_,?_⟩)
theorem B_o(T:TD)(ha:0<T.C 0):B_k T:=by
 unfold B_k
 obtain ha:=ha
 simp only[TD.wh,a_j,a_p,Bool.and_eq_true,sj5,a_m,a_e,sj4,sj8]
 repeat' (first|done|omega|exact rfl|exact trivial|assumption|exact()|(exfalso;omega)|exact a_7|exact fun _ _ _=>a_7|intro _|refine⟨?_,?_⟩)
theorem B_p(T:TD):(nvS T).Body Tryz.prog 435/\(nvS T).BodyD Tryz.prog 435:=by
 refine a_c (fn:=Tryz.f435) (b:=a_b Tryz.f435) (LT:=fun _=>[([0,1,1,1],(nvD T (hN T)).at (0:Nat))]) a_l (g_D T) 1000 (fun _ ha=>LTok.cons (fun fr H K hk=>LoopD.ok (B_m T (hN T)) hk) (LTok.nil)) aa aa ?_
 intro a ha
 cases hh:T.hd with
 |true=>
  obtain⟨T',rfl⟩:∃T':TD,T=T'.wh true:=⟨T,ag⟩
  exact Ho.of (B_j T') aa (B_n T' ha)
 |false=>
  obtain⟨T',rfl⟩:∃T':TD,T=T'.wh false:=⟨T,ag⟩
  exact Ho.of (B_k T') aa (B_o T' ha)
def B_q(T:TD)(i:Nat)(n:Nat)(k:Nat):Prop:=
 letI e:=T.C i;letI d:=a_f T=a_f T;letI c:=fun(q:Nat)=>AVal.sp (SId.mk 4 (q+hN T) 0) 0;letI b:=gd (Nat.beq n n) (n<=n/\SubF c c n []/\True);letI a:=br T.hd (br T.hd b False) (br T.hd False b);br (Nat.blt k e) (d/\True/\gd (Nat.beq i i&&Nat.beq k k&&true) (∀(x:Unit),True->br (Nat.blt (k+1) e) (∃(j':Nat),Nat.le j' e/\e-j'<e-k/\d/\br (Nat.blt j' e) (gd (Nat.beq i i&&Nat.beq (k+1) j'&&true) a) False) (∃(j':Nat),Nat.le j' e/\e-j'<e-k/\d/\br (Nat.blt j' e) False a))) (∃(x:Unit),True/\d/\a)
def B_r(T:TD)(c:Nat):Prop:=
 letI m:=c+1;letI k:=List (Nat×AVal);letI h:=a_f (TD.wh T true);letI g:=Nat.beq m m;letI e:=g&&true&&true;letI d:=h=h;letI b:=fun(q:Nat)=>AVal.sp (SId.mk 4 (q+1) 0) 0;letI a:=(TD.mk T.R T.2 true T.4 T.pad T.keep T.span T.promote T.pres T.skip T.role T.12 T.13 T.14 T.15 T.oP T.oK T.oM).C m;gd (Nat.beq c c&&(Nat.ble (m*8) 140737488355328&&(Nat.ble m 140737488355328&&true))) (Nat.le 0 a/\(d/\br (Nat.blt 0 a) (gd e (gd g (m=m/\SubF b b c []/\gd e True))) False)/\∀(x:Unit),True->∃(x:Nat),x=m/\d/\True/\(True/\([]:k)=([]:k)/\([]:List AVal)=([]:List AVal)/\∀(i:Nat),letI f:=AVal.sp (SId.mk 4 (i+1) 0) 0;i<x->SubA 0 f f)/\gd (Nat.beq m x) (x<=m/\SubF b b x []/\True))
def B_s(T:TD)(c:Nat):Prop:=
 letI k:=c+1;letI h:=List (Nat×AVal);letI g:=a_f (TD.wh T false);letI e:=Nat.beq c c&&true&&true;letI d:=fun(q:Nat)=>AVal.sp (SId.mk 4 q 0) 0;letI b:=g=g;letI a:=(TD.mk T.R T.2 false T.4 T.pad T.keep T.span T.promote T.pres T.skip T.role T.12 T.13 T.14 T.15 T.oP T.oK T.oM).C c;gd (Nat.beq c c&&(Nat.ble (k*8) 140737488355328&&(Nat.ble k 140737488355328&&true))) (Nat.le 0 a/\(b/\br (Nat.blt 0 a) (gd e (gd (Nat.beq k k) (k=k/\SubF d d c []/\gd e True))) False)/\∀(x:Unit),True->∃(x:Nat),x=k/\b/\True/\(True/\([]:h)=([]:h)/\([]:List AVal)=([]:List AVal)/\∀(i:Nat),letI f:=AVal.sp (SId.mk 4 i 0) 0;i<x->SubA 0 f f)/\gd (Nat.beq k x) (x<=k/\SubF d d x []/\True))
theorem B_t(T:TD)(i n:Nat)(k:Nat)(h:k<=T.C i):B_q T i n k:=by
 unfold B_q
 try simp only[a_j,a_p,Bool.and_eq_true,sj5,a_m,a_e,sj4,sj8]
 repeat' (first|done|omega|exact rfl|exact trivial|assumption|exact()|(exfalso;omega)|(exfalso;simp_all;done)|exact fun _ _ _=>a_7|refine⟨k+1,ac,ac,?_⟩|exact⟨(),trivial,rfl,trivial⟩|intro _|refine⟨?_,?_⟩)
theorem B_u(T:TD)(i n:Nat):(nwD T i n).Body Tryz.prog (sub (a_b Tryz.f435) [0,0,1,1,1]):=by
 refine LoopD.bodyH (root:=(a_b Tryz.f435)) [0,0,1,1,1] a_l (g_D T) (LTok.nil) 1000 ?_
 exact fun k hk=>Ho.of (B_q T i n k) aa (B_t T i n k hk)
theorem B_v(T:TD)(c:Nat)(ha:0<c/\c<=13/\0<T.C (c+1)):B_r T c:=by
 unfold B_r
 obtain ha:=ha
 simp only[TD.wh,a_j,a_p,Bool.and_eq_true,sj5,a_m,a_e,sj4,sj8]
 repeat' (first|done|omega|exact rfl|exact trivial|assumption|exact()|(exfalso;omega)|exact a_7|exact fun _ _ _=>a_7|intro _|refine⟨?_,?_⟩)
theorem B_w(T:TD)(c:Nat)(ha:0<c/\c<=13/\0<T.C c):B_s T c:=by
 unfold B_s
 obtain ha:=ha
 simp only[TD.wh,a_j,a_p,Bool.and_eq_true,sj5,a_m,a_e,sj4,sj8]
 repeat' (first|done|omega|exact rfl|exact trivial|assumption|exact()|(exfalso;omega)|exact a_7|exact fun _ _ _=>a_7|intro _|refine⟨?_,?_⟩)
theorem B_x(T:TD):(nwS T).Body Tryz.prog 435/\(nwS T).BodyD Tryz.prog 435:=by
 refine a_c (fn:=Tryz.f435) (b:=a_b Tryz.f435) (LT:=fun c=>[([0,1,1,1],(nwD T (Nat.add c (hN T)) (Nat.add c 1)).at (0:Nat))]) a_l (g_D T) 1000 (fun c ha=>LTok.cons (fun fr H K hk=>LoopD.ok (B_u T (Nat.add c (hN T)) (Nat.add c 1)) hk) (LTok.nil)) aa aa ?_
 intro a ha
 cases hh:T.hd with
 |true=>
  obtain⟨T',rfl⟩:∃T':TD,T=T'.wh true:=⟨T,ag⟩
  exact Ho.of (B_r T' a) aa (B_v T' a ha)
 |false=>
  obtain⟨T',rfl⟩:∃T':TD,T=T'.wh false:=⟨T,ag⟩
  exact Ho.of (B_s T' a) aa (B_w T' a ha)
end Tk

