/- Lemmas of this claim; the last text says what is proved. -/
import Derived.Test.YtblencgndjjleaaGreatDoorK20
set_option linter.all false
set_option maxRecDepth 1000000
namespace Tk
open Go Go.Sx Go.Proofs
variable [Syms]
theorem i_F:a_t Tryz.prog 230:=⟨Tryz.f230,aa,rfl,aa⟩
theorem A_U(T:TD):(z_j T).Body Tryz.prog 230/\(z_j T).BodyD Tryz.prog 230:=by
 refine a_c (fn:=Tryz.f230) (b:=a_b Tryz.f230) (LT:=fun _=>[]) a_l a_y 1000 (fun _ _=>LTok.nil) aa aa ?_
 exact fun a _=>Ho.of (x_C T a.1 a.2) aa (u_1 T a.1 a.2)
theorem g_z(T:TD):TabOk Tryz.prog (n_y T):=by
 refine⟨fun f s h=>?_,fun f s h=>am⟩
 unfold n_y at h
 simp only at h
 split at h
 ·cases h;exact a_d i_F (A_U T).1
 ·cases h
theorem v_c(T:TD)(i:Nat):(u_C T i).Body Tryz.prog (sub (a_b Tryz.f230) [0,0,1,1]):=
 LoopD.bodyH (root:=a_b Tryz.f230) [0,0,1,1] a_l (g_z T) LTok.nil 1000 (fun k hk=>Ho.of (s_s T i k) aa (n_D T i k hk))
theorem A_V(T:TD):(z_k T).Body Tryz.prog 230/\(z_k T).BodyD Tryz.prog 230:=by
 refine a_c (fn:=Tryz.f230) (b:=a_b Tryz.f230) (LT:=fun i=>[([0,1,1],(u_C T i).at (0:Nat))]) a_l (g_z T) 1000 (fun i _=>LTok.cons (fun fr H K hk=>LoopD.ok (v_c T i) hk) LTok.nil) aa aa ?_
 exact fun i hi=>Ho.of (q_j T i) aa (k_G T i hi)
theorem g_A(T:TD):TabOk Tryz.prog (n_z T):=by
 refine⟨fun f s h=>?_,fun f s h=>am⟩
 unfold n_z at h
 simp only at h
 split at h
 ·cases h;exact a_d i_F (A_V T).1
 ·cases h
theorem v_d(T:TD)(hT:T.Ok):(u_D T).Body Tryz.prog (sub (a_b Tryz.f230) [0,0,1,1]):=
 LoopD.bodyH (root:=a_b Tryz.f230) [0,0,1,1] a_l (g_A T) LTok.nil 1000 (fun k hk=>Ho.of (s_t T k) aa (n_E T hT k hk))
theorem A_W(T:TD):(z_l T).Body Tryz.prog 230/\(z_l T).BodyD Tryz.prog 230:=by
 refine a_c (fn:=Tryz.f230) (b:=a_b Tryz.f230) (LT:=fun _=>[([0,1,1],(u_D T).at (0:Nat))]) a_l (g_A T) 1000 (fun _ hT=>LTok.cons (fun fr H K hk=>LoopD.ok (v_d T hT) hk) LTok.nil) aa aa ?_
 exact fun _ hT=>Ho.of (q_k T) aa (k_H T hT)
theorem k_Y(T:TD):TabOk Tryz.prog (n_A T):=by
 refine⟨fun f s h=>?_,fun f s h=>am⟩
 unfold n_A at h
 simp only at h
 split at h
 ·cases h;exact a_d i_F (A_W T).1
 ·cases h
theorem A_X(T:TD):(z_m T).Body Tryz.prog 230/\(z_m T).BodyD Tryz.prog 230:=by
 refine a_c (fn:=Tryz.f230) (b:=a_b Tryz.f230) (LT:=fun _=>[]) a_l (k_Y T) 1000 (fun _ _=>LTok.nil) aa aa ?_
 exact fun _ hT=>Ho.of (e_W T) aa (d_9 T hT)
theorem k_Z(T:TD):TabOk Tryz.prog (n_B T):=by
 refine⟨fun f s h=>?_,fun f s h=>am⟩
 unfold n_B at h
 simp only at h
 split at h
 ·cases h;exact a_d i_F (A_X T).1
 ·cases h
theorem A_Y(T:TD):(z_n T).Body Tryz.prog 230/\(z_n T).BodyD Tryz.prog 230:=by
 refine a_c (fn:=Tryz.f230) (b:=a_b Tryz.f230) (LT:=fun _=>[]) a_l (k_Z T) 1000 (fun _ _=>LTok.nil) aa aa ?_
 exact fun _ hT=>Ho.of (e_W T) aa (d_9 T hT)
def kcR(T:TD):Prop:=
 letI d:=TD.Ok T;letI c:=a_f T=a_f T;letI b:=Value.bool false;letI a:=b=b;c/\d/\∀(x:Unit),True->c/\d/\∀(x:Unit),True->c/\True/\∀(x:Unit),True->c/\True/\∀(x:Unit),True->c/\d/\∀(x:Unit),True->c/\True/\∀(x:Unit),True->c/\True/\∀(x:Unit),True->c/\d/\∀(x:Unit),True->c/\d/\∀(x:Unit),True->c/\d/\∀(x:Unit),True->c/\d/\a/\a/\∀(x:Unit),True->c/\d/\∀(x:Unit),True->∃(x:Unit),True/\c/\True/\True/\True
theorem v_e(T:TD)(hT:T.Ok):TabOk Tryz.prog (kcU T):=by
 refine⟨fun f s h=>?_,fun f s h=>am⟩
 unfold kcU at h
 simp only at h
 split at h
 ·cases h;exact a_d i_C (z_U T).1
 ·cases h;exact c_X (a_d q_q (A_g T hT).1) (a_d q_q (A_j T hT).1)
 ·cases h;exact c_X (a_d q_t (A_k T hT).1) (a_d q_t (A_l T hT).1)
 ·cases h;exact a_d u_X (A_m T hT).1
 ·cases h;exact c_X (a_d n_J (A_t T hT).1) (c_X (a_d n_J (A_z T hT).1) (a_d n_J (A_F T hT).1))
 ·cases h;exact a_d u_8 (A_G T hT).1
 ·cases h;exact a_d i_E (A_T T).1
 ·cases h;exact a_d i_F (A_Y T).1
 ·cases h
theorem H_u(T:TD)(hT:T.Ok):kcR T:=by
 unfold kcR
 try simp only[a_j,a_p,Bool.and_eq_true,sj5,a_m,sj4,sj8]
 repeat' (first|done|omega|exact rfl|exact trivial|assumption|exact()|intro _|refine⟨?_,?_⟩)
theorem v_f:a_t Tryz.prog 194:=⟨Tryz.f194,aa,rfl,aa⟩
theorem A_Z(T:TD)(hT:T.Ok):(hrS T).Body Tryz.prog 194/\(hrS T).BodyD Tryz.prog 194:=by
 refine a_c (fn:=Tryz.f194) (b:=a_b Tryz.f194) (LT:=fun _=>[]) a_l (v_e T hT) 1000 (fun a ha=>LTok.nil) aa aa ?_
 exact fun a ha=>Ho.of (kcR T) aa (H_u T ha)
def s_D(T:TD)(l:List UInt8)(k:Nat):Prop:=
 letI p:=List.length l;letI q:=Int.negSucc 0;letI n:=l=l/\True;letI m:=a_f T=a_f T;letI h:=p-k;letI g:=Value.int .i64 (Int.ofNat 0);letI f:=Value.int .i64 q;letI e:=decide (Int.ofNat k<Int.ofNat p);letI d:=Int.ofNat (UInt8.toNat (List.getD l k (0:UInt8)));letI c:=Value.int .i64 (IntKind.wrap .i64 (Int.ofNat (k+1)));letI b:=g=g;letI a:=∃(j':Nat×Bool),(j'.fst<=p/\j'.snd=b_O l j'.fst)/\p-j'.fst<h/\m/\b/\Value.int .i64 (Int.ofNat k)=Value.int .i64 (bif j'.snd then Int.ofNat (j'.fst-1) else q)/\c=Value.int .i64 (Int.ofNat j'.fst)/\n;br e (gd e (br (d==Int.ofNat 32) a (gd e (br (d==Int.ofNat 13) a (gd e (br (d==Int.ofNat 10) a (gd e (br (d==Int.ofNat 9) a (∃(j':Nat×Bool),(j'.fst<=p/\j'.snd=b_O l j'.fst)/\p-j'.fst<h/\m/\b/\f=Value.int .i64 (bif j'.snd then Int.ofNat (j'.fst-1) else q)/\c=Value.int .i64 (Int.ofNat j'.fst)/\n))))))))) (∃(x:Unit),True/\m/\b/\f=f/\n)
def s_E(T:TD)(l:List UInt8)(k:Nat):Prop:=
 letI b1:=Nat×Bool;letI c1:=Int.ofNat k;letI z:=List.length l;letI a1:=Int.negSucc 0;letI y:=l=l/\True;letI w:=a_f T=a_f T;letI v:=Int.ofNat (k+1);letI u:=z-(k+1);letI s:=Int.ofNat z;letI t:=Int.ofNat 281474976710656;letI r:=List.drop 0 (List.take k l);letI p:=Value.int .i64 (Int.ofNat 0);letI q:=Value.int .i64 c1;letI n:=Value.int .i64 a1;letI m:=0+List.length r;letI h:=decide (v<s);letI g:=Int.ofNat (UInt8.toNat (List.getD l (k+1) (0:UInt8)));letI f:=Value.int .i64 (IntKind.wrap .i64 (Int.ofNat (k+1+1)));letI e:=p=p;letI d:=Nat.ble m 140737488355328;letI c:=∃(j':b1),(j'.fst<=z/\j'.snd=b_O l j'.fst)/\z-j'.fst<u/\w/\e/\q=Value.int .i64 (bif j'.snd then Int.ofNat (j'.fst-1) else a1)/\f=Value.int .i64 (Int.ofNat j'.fst)/\y;letI b:=gd (Nat.ble m (List.length ([]++r))&&(Nat.ble (m+1) 140737488355328&&true)) (∃(j':b1),(j'.fst<=z/\j'.snd=b_O l j'.fst)/\z-j'.fst<u/\w/\Value.int .i64 v=p/\n=Value.int .i64 (bif j'.snd then Int.ofNat (j'.fst-1) else a1)/\f=Value.int .i64 (Int.ofNat j'.fst)/\l=l/\False);letI a:=gd (decide (s<=t)&&(decide (Int.ofNat (1*z)<=t)&&true)) (gd (decide (c1<=s)) (br (Nat.blt z m) (gd d b) (gd (Nat.ble (z*1) z&&Nat.blt z 9223372036854775808&&(d&&true)) b)));br h (gd h (br (g==Int.ofNat 32) c (gd h (br (g==Int.ofNat 13) c (gd h (br (g==Int.ofNat 10) c (gd h (br (g==Int.ofNat 9) c (br (IntKind.wrap .i64 (v-c1)==Int.ofNat 1) (gd (decide (c1<s)) (br (Int.ofNat (UInt8.toNat (List.getD l k (0:UInt8)))==Int.ofNat 32) (∃(j':b1),(j'.fst<=z/\j'.snd=b_O l j'.fst)/\z-j'.fst<u/\w/\e/\n=Value.int .i64 (bif j'.snd then Int.ofNat (j'.fst-1) else a1)/\f=Value.int .i64 (Int.ofNat j'.fst)/\y) a)) a))))))))) (∃(x:Unit),True/\w/\e/\q=n/\y)
def rwR(T:TD)(l:List UInt8):Prop:=
 letI e:=a_f T=a_f T;letI d:=Value.int .i64 (Int.ofNat 0);letI c:=Value.int .i64 (Int.negSucc 0);letI b:=d=d;letI a:=∃(x:List UInt8),x=l/\e/\True/\True/\l=x/\True;br (eqL l []) a ((0<=List.length l/\false=b_O l 0)/\(e/\b/\c=c/\b/\l=l/\True)/\∀(x:Unit),True->a)
theorem v_g(T:TD)(l:List UInt8)(k:Nat)(hw:Words l)(hl:l.length<=2147483647)(hk:k<=l.length)(hb:false=b_O l k):s_D T l k:=by
 unfold s_D
 simp only[p_3,a_j,a_p,ltI,x_u,leI,y_c,eqI,t_Z,Bool.and_eq_true,and_true,true_and,implies_true,forall_const,exists_const,exists_eq_left]
 have hc:k<l.length->_:=fun h=>hw.at h
 try simp only[Nat.add_sub_cancel] at hc
 repeat' (first|done|omega|exact rfl|exact trivial|exact absurd trivial ai|exact()|exact p_1 ac|exact p_2 ac|(rw[m_y ac];first|done|rfl)|(intro h;try have hc:=hc ac)|(have:(l.getD k 0).toNat=32:=ac;refine⟨(k+1,true),?_⟩)|refine⟨(k+1,false),?_⟩|refine And.intro ?_ ?_)
theorem v_h(T:TD)(l:List UInt8)(k:Nat)(hw:Words l)(hl:l.length<=2147483647)(hk:k+1<=l.length)(hb:true=b_O l (k+1)):s_E T l k:=by
 unfold s_E
 have hb:=m_z hb
 have hc0:=hw.at (i:=k) ac
 simp only[p_3,a_j,a_p,ltI,x_u,leI,y_c,eqI,t_Z,Bool.and_eq_true,and_true,true_and,implies_true,forall_const,exists_const,exists_eq_left]
 have hc:(k+1)<l.length->_:=fun h=>hw.at h
 try simp only[Nat.add_sub_cancel] at hc
 repeat' (first|done|omega|exact rfl|exact trivial|exact absurd trivial ai|exact()|exact p_1 ac|exact p_2 ac|(rw[m_y ac];first|done|rfl)|(intro h;try have hc:=hc ac)|(have:(l.getD (k+1) 0).toNat=32:=ac;refine⟨((k+1)+1,true),?_⟩)|refine⟨((k+1)+1,false),?_⟩|refine And.intro ?_ ?_)
theorem A_0(T:TD)(l:List UInt8)(hw:Words l)(hl:l.length<=2147483647):(rwD T l).Body Tryz.prog (sub (a_b Tryz.f168) [0,0,1,0,1,1,1,1,1,1]):=by
 refine LoopD.bodyH (root:=(a_b Tryz.f168)) [0,0,1,0,1,1,1,1,1,1] a_l (a_y) LTok.nil 1000 ?_
 rintro⟨k,b⟩ ⟨hk,hb⟩
 cases b with
 |false=>exact Ho.of (s_D T l k) aa (v_g T l k hw hl hk hb)
 |true=>
  cases k with
  |zero=>cases hb
  |succ k=>exact Ho.of (s_E T l k) aa (v_h T l k hw hl hk hb)
theorem H_v(T:TD)(l:List UInt8):rwR T l:=by
 unfold rwR
 unfold eqL
 try simp only[a_j,a_p,Bool.and_eq_true,sj5,a_m,sj4,sj8]
 repeat' (first|done|omega|exact rfl|exact trivial|assumption|exact()|intro _|refine⟨?_,?_⟩)
theorem v_i:a_t Tryz.prog 168:=⟨Tryz.f168,aa,rfl,aa⟩
theorem A_1(T:TD):(rwS T).Body Tryz.prog 168/\(rwS T).BodyD Tryz.prog 168:=by
 refine a_c (fn:=Tryz.f168) (b:=a_b Tryz.f168) (LT:=fun l=>[([0,1,0,1,1,1,1,1,1],(rwD T l).at ((0:Nat),false))]) a_l (a_y) 1000 (fun l ha=>LTok.cons (fun fr H K hk=>LoopD.ok (A_0 T l ha.1 ha.2) hk) (LTok.nil)) aa aa ?_
 exact fun a ha=>Ho.of (rwR T a) aa (H_v T a)
def hsR(T:TD)(l:List UInt8):Prop:=
 letI d:=a_f T=a_f T;letI c:=Value.bool false;letI b:=Int.ofNat (List.length l);letI a:=IntKind.wrap .i64 (b-Int.ofNat 1);br (decide (b≥Int.ofNat 1)) (gd (decide (Int.ofNat 0<=a)&&(decide (a<=b)&&decide (b<=b))) (∃(x:List UInt8),x=l/\d/\True/\True/\Value.bool (eqL (List.drop (Int.toNat a) l) [(32:UInt8)])=c/\True)) (∃(x:List UInt8),x=l/\d/\True/\True/\c=c/\True)
theorem H_w(T:TD)(l:List UInt8)(h:Words l/\l≠[]/\l.length<=2147483647):hsR T l:=by
 unfold hsR
 obtain⟨hw,hn,hl⟩:=h
 have hp:0<l.length:=List.length_pos_iff.2 hn
 have he:=hw.end hp
 have hs:=h_h (a:=l.length) (b:=1) hp ac
 have ht:Int.toNat (Int.ofNat (l.length-1))=l.length-1:=rfl
 simp only[hs,ht,he,a_j,a_p,Bool.and_eq_true,geI,G_H,leI,exists_eq_left,and_true,true_and,Bool.false_eq_true]
 repeat' (first|done|omega|exact rfl|exact trivial|contradiction|exact⟨_,rfl⟩|intro _|refine And.intro ?_ ?_)
theorem v_j:a_t Tryz.prog 169:=⟨Tryz.f169,aa,rfl,aa⟩
theorem A_2(T:TD):(hsS T).Body Tryz.prog 169/\(hsS T).BodyD Tryz.prog 169:=by
 refine a_c (fn:=Tryz.f169) (b:=a_b Tryz.f169) (LT:=fun l=>[]) a_l (a_y) 1000 (fun l ha=>LTok.nil) aa aa ?_
 exact fun a ha=>Ho.of (hsR T a) aa (H_w T a ha)
def tsR(T:TD)(l:List UInt8):Prop:=
 letI g:=a_f T=a_f T;letI f:=Int.ofNat (List.length l);letI e:=IntKind.wrap .i64 (f-Int.ofNat 1);letI d:=Int.toNat e;letI b:=decide (Int.ofNat 0<=e);letI c:=∃(x:List UInt8),x=l/\g/\True/\True/\l=x/\True;letI a:=decide (e<=f);br (decide (f≥Int.ofNat 1)) (gd (b&&(a&&decide (f<=f))) (br (eqL (List.drop d l) [(32:UInt8)]) (gd (b&&a) (∃(x:List UInt8),x=l/\g/\True/\True/\List.take d l=x/\True)) c)) c
theorem H_x(T:TD)(l:List UInt8)(h:Words l/\l≠[]/\l.length<=2147483647):tsR T l:=by
 unfold tsR
 obtain⟨hw,hn,hl⟩:=h
 have hp:0<l.length:=List.length_pos_iff.2 hn
 have he:=hw.end hp
 have hs:=h_h (a:=l.length) (b:=1) hp ac
 have ht:Int.toNat (Int.ofNat (l.length-1))=l.length-1:=rfl
 simp only[hs,ht,he,a_j,a_p,Bool.and_eq_true,geI,G_H,leI,exists_eq_left,and_true,true_and,Bool.false_eq_true]
 repeat' (first|done|omega|exact rfl|exact trivial|contradiction|exact⟨_,rfl⟩|intro _|refine And.intro ?_ ?_)
theorem v_k:a_t Tryz.prog 171:=⟨Tryz.f171,aa,rfl,aa⟩
theorem A_3(T:TD):(tsS T).Body Tryz.prog 171/\(tsS T).BodyD Tryz.prog 171:=by
 refine a_c (fn:=Tryz.f171) (b:=a_b Tryz.f171) (LT:=fun l=>[]) a_l (a_y) 1000 (fun l ha=>LTok.nil) aa aa ?_
 exact fun a ha=>Ho.of (tsR T a) aa (H_x T a ha)
end Tk

