/- Lemmas of this claim; the last text says what is proved. -/
import Derived.Test.YtblencgndjjleaaGreatDoorK15
set_option linter.all false
set_option maxRecDepth 1000000
namespace Tk
open Go Go.Sx Go.Proofs
open Q
variable [Syms]
def gpR(T:TD):Prop:=
 letI e:=True/\True;letI c:=Value.int .i64 (Int.ofNat 100);letI d:=Value.int .i64 (Int.ofNat 500);letI a:=Value.int .i64 (Int.ofNat 1000);letI b:=Value.int .i64 (Int.ofNat 1100);∃(x:Unit),True/\a_f T=a_f T/\True/\(e/\True/\e/\True/\e/\True/\e/\True)/\4=4/\c=c/\d=d/\a=a/\b=b/\True
theorem H_l(T:TD):gpR T:=by
 unfold gpR
 try simp only[a_j,a_p,Bool.and_eq_true,sj5,a_m,a_e,sj4,sj8]
 repeat' (first|done|omega|exact rfl|exact trivial|assumption|exact()|intro _|refine⟨?_,?_⟩)
theorem u_E:a_t Tryz.prog 58:=⟨Tryz.f58,aa,rfl,aa⟩
theorem z_p(T:TD):(gpS T).Body Tryz.prog 58/\(gpS T).BodyD Tryz.prog 58:=by
 refine a_c (fn:=Tryz.f58) (b:=a_b Tryz.f58) (LT:=fun _=>[]) a_l (e_T) 1000 (fun a ha=>LTok.nil) aa aa ?_
 exact fun a ha=>Ho.of (gpR T) aa (H_l T)
def goR(T:TD):Prop:=
 letI p:=True/\True;letI n:=Value.bool false;letI m:=[(42:UInt8),42];letI k:=[(96:UInt8),96,96];letI h:=[(97:UInt8),116,120];letI e:=Value.int .i64 (Int.ofNat 500);letI f:=Value.int .i64 (Int.ofNat 520);letI g:=[(42:UInt8),32,42,32,42];letI d:=Value.int .i64 (Int.ofNat 1000);letI c:=[(114:UInt8),101,110,100,101,114];letI b:=[(105:UInt8),110,108,105,110,101,100];letI a:=c=c;∃(x:Unit),True/\a_f T=a_f T/\True/\(p/\True/\p/\True/\((True/\True/\True/\True/\True/\True/\True/\True/\p)/\True)/\True)/\3=3/\e=e/\f=f/\[(42:UInt8)]=[(42:UInt8)]/\m=m/\g=g/\[(45:UInt8)]=[(45:UInt8)]/\n=n/\k=k/\h=h/\b=b/\a/\a/\d=d/\True
theorem H_m(T:TD):goR T:=by
 unfold goR
 try simp only[a_j,a_p,Bool.and_eq_true,sj5,a_m,a_e,sj4,sj8]
 repeat' (first|done|omega|exact rfl|exact trivial|assumption|exact()|intro _|refine⟨?_,?_⟩)
theorem u_F:a_t Tryz.prog 61:=⟨Tryz.f61,aa,rfl,aa⟩
theorem z_q(T:TD):(goS T).Body Tryz.prog 61/\(goS T).BodyD Tryz.prog 61:=by
 refine a_c (fn:=Tryz.f61) (b:=a_b Tryz.f61) (LT:=fun _=>[]) a_l (e_T) 1000 (fun a ha=>LTok.nil) aa aa ?_
 exact fun a ha=>Ho.of (goR T) aa (H_m T)
def ghR(T:TD):Prop:=
 letI c:=True/\True;letI b:=Value.int .i64 (Int.ofNat 500);letI a:=b=b;∃(x:Unit),True/\a_f T=a_f T/\True/\(c/\True/\c/\True)/\2=2/\a/\a/\True
theorem H_n(T:TD):ghR T:=by
 unfold ghR
 try simp only[a_j,a_p,Bool.and_eq_true,sj5,a_m,a_e,sj4,sj8]
 repeat' (first|done|omega|exact rfl|exact trivial|assumption|exact()|intro _|refine⟨?_,?_⟩)
theorem d_8:a_t Tryz.prog 49:=⟨Tryz.f49,aa,rfl,aa⟩
theorem h_q(T:TD):(ghS T).Body Tryz.prog 49/\(ghS T).BodyD Tryz.prog 49:=by
 refine a_c (fn:=Tryz.f49) (b:=a_b Tryz.f49) (LT:=fun _=>[]) a_l (e_T) 1000 (fun a ha=>LTok.nil) aa aa ?_
 exact fun a ha=>Ho.of (ghR T) aa (H_n T)
end Tk
namespace Tk
open Go Go.Sx Go.Proofs
variable [Syms]
def o_K(T:TD)(i:Nat)(j:Nat):Prop:=
 letI b:=∃(x:Unit),True/\a_f T=a_f T/\True/\True/\True;letI a:=br (TD.hasT T i j) b b;br (Nat.beq i 0&&T.hd) a a
def z_r(T:TD)(i:Nat)(k:Nat):Prop:=
 letI f:=T.C i;letI g:=k+1;letI e:=a_f T=a_f T;letI d:=fun(j:Nat)=>[AVal.sp (SId.mk 5 i j) 0,AVal.ptr 0 0,AVal.ptr 1 0];letI c:=PinF 3 d;letI b:=d=d;letI a:=b/\c/\gd (Nat.beq i i&&Nat.beq k k&&true) True;br (Nat.blt k f) (br (Nat.blt g f) (∃(j':Nat),Nat.le j' f/\f-j'<f-k/\e/\br (Nat.blt j' f) (gd (Nat.beq i i&&Nat.beq g j'&&true) (j'=g/\a)) False) (∃(j':Nat),Nat.le j' f/\f-j'<f-k/\e/\br (Nat.blt j' f) False (j'=g/\a))) (∃(x:Unit),True/\e/\k=f/\b/\c/\True)
def z_s(T:TD)(i:Nat):Prop:=
 letI c:=a_f T=a_f T;letI b:=AVal.ifc 193 AVal.top;letI a:=AHeap.mk (Tr.node (some (ABlk.row [AVal.ifc 201 (AVal.ptr 2 0)] 147 (ATot.n 1))) (Tr.node (some (ABlk.row [AVal.fn (Fn.func 153) [] [AVal.ptr 0 0,AVal.ptr 1 0]] 176 (ATot.n 1))) Tr.nil Tr.nil) (Tr.node (some (ABlk.row [AVal.ifc 217 (AVal.agg [AVal.ifc 217 (AVal.agg [AVal.ifc 217 (AVal.agg [AVal.ifc 217 (AVal.agg [AVal.ifc 217 (AVal.agg [AVal.ifc 191 (AVal.agg []),b,AVal.top]),b,AVal.top]),b,AVal.top]),b,AVal.top]),b,AVal.top]),AVal.sp (SId.mk 0 0 0) 0] 203 (ATot.n 2))) Tr.nil Tr.nil)) 3 [] [0,1,2] (a_f T);Nat.le 0 (T.C i)/\(c/\br (Nat.blt 0 (T.C i)) (gd (Nat.beq i i&&true&&true) (0=0/\True)) False)/\∀(x:Unit),True->(∀(k:Nat),k<T.C i->c/\True/\gd (Nat.beq i i&&Nat.beq k k&&true) (∀(x:Unit),True->a=a))/\∃(x:Unit),True/\c/\True/\True/\True
def z_t(T:TD)(k:Nat):Prop:=
 letI f:=k+1;letI e:=a_f T=a_f T;letI d:=fun(j:Nat)=>[AVal.sp (SId.mk 4 j 0) 0,AVal.ptr 0 0,AVal.ptr 1 0];letI c:=PinF 3 d;letI b:=d=d;letI a:=b/\c/\gd (Nat.beq k k&&true&&true) True;br (Nat.blt k T.R) (br (Nat.blt f T.R) (∃(j':Nat),Nat.le j' T.R/\T.R-j'<T.R-k/\e/\br (Nat.blt j' T.R) (gd (Nat.beq f j'&&true&&true) (j'=f/\a)) False) (∃(j':Nat),Nat.le j' T.R/\T.R-j'<T.R-k/\e/\br (Nat.blt j' T.R) False (j'=f/\a))) (∃(x:Unit),True/\e/\k=T.R/\b/\c/\True)
def z_u(T:TD):Prop:=
 letI c:=a_f T=a_f T;letI b:=AVal.ifc 193 AVal.top;letI a:=AHeap.mk (Tr.node (some (ABlk.row [AVal.ifc 201 (AVal.ptr 2 0)] 147 (ATot.n 1))) (Tr.node (some (ABlk.row [AVal.fn (Fn.func 153) [] [AVal.ptr 0 0,AVal.ptr 1 0]] 176 (ATot.n 1))) Tr.nil Tr.nil) (Tr.node (some (ABlk.row [AVal.ifc 217 (AVal.agg [AVal.ifc 217 (AVal.agg [AVal.ifc 217 (AVal.agg [AVal.ifc 217 (AVal.agg [AVal.ifc 217 (AVal.agg [AVal.ifc 191 (AVal.agg []),b,AVal.top]),b,AVal.top]),b,AVal.top]),b,AVal.top]),b,AVal.top]),AVal.sp (SId.mk 0 0 0) 0] 203 (ATot.n 2))) Tr.nil Tr.nil)) 3 [] [0,1,2] (a_f T);Nat.le 0 T.R/\(c/\br (Nat.blt 0 T.R) (0=0/\True) False)/\∀(x:Unit),True->(∀(k:Nat),k<T.R->c/\Nat.le 1 (T.C k)/\gd (Nat.beq k k&&true&&true) (∀(x:Unit),True->a=a))/\∃(x:Unit),True/\c/\True/\True/\True
def e_W(T:TD):Prop:=
 a_f T=a_f T/\TD.Ok T/\∀(x:Unit),True->∃(x:Unit),True/\a_f T=a_f T/\True/\True/\True
theorem q_i(f:Nat->SId):PinF 3 (fun j=>c_h (.sp (f j) 0)):=fun k=>.cons a_7 (.cons (SubA.ptr ac) (.cons (SubA.ptr ac) .nil))
theorem n_C(T:TD)(i j:Nat):o_K T i j:=by
 unfold o_K
 simp only[sj7,sj4,imp_self]
theorem z_v(T:TD)(i k:Nat)(h:k<=T.C i):z_r T i k:=by
 unfold z_r
 try simp only[sj7,sj4,imp_self]
 have hp:=q_i (fun j=>⟨5,i,j⟩)
 repeat' (first|done|omega|exact rfl|exact hp|exact trivial|intro _|refine⟨k+1,?_⟩|refine⟨?_,?_⟩)
theorem z_w(T:TD)(i:Nat)(h:0<T.C i):z_s T i:=by
 unfold z_s
 try simp only[sj7,sj4,imp_self,Nat.zero_le,h]
 repeat' (first|done|omega|exact rfl|exact trivial|intro _|refine⟨?_,?_⟩)
theorem z_x(T:TD)(hT:T.Ok)(k:Nat)(h:k<=T.R):z_t T k:=by
 have hC:=hT.2 k
 unfold z_t
 try simp only[sj7,sj4,imp_self]
 have hp:=q_i (fun j=>⟨4,j,0⟩)
 repeat' (first|done|omega|exact rfl|exact hp|exact trivial|intro _|refine⟨k+1,?_⟩|refine⟨?_,?_⟩)
theorem z_y(T:TD)(hT:T.Ok):z_u T:=by
 have hR:=hT.1
 unfold z_u
 try simp only[sj7,sj4,imp_self,Nat.zero_le,hR]
 repeat' (first|done|omega|exact rfl|exact trivial|exact fun k hk=>hT.2 k hk|intro _|refine⟨?_,?_⟩)
theorem d_9(T:TD)(hT:T.Ok):e_W T:=by
 have hR:=hT.1
 unfold e_W
 try simp only[sj7,sj4,imp_self,Nat.zero_le,hR]
 repeat' (first|done|omega|exact rfl|exact trivial|exact hT|assumption|intro _|refine⟨?_,?_⟩)
theorem i_A:a_t Tryz.prog 153:=⟨Tryz.f153,aa,rfl,aa⟩
theorem z_z(T:TD):(y_F T).Body Tryz.prog 153/\(y_F T).BodyD Tryz.prog 153:=by
 refine a_c (fn:=Tryz.f153) (b:=a_b Tryz.f153) (LT:=fun _=>[]) a_l a_y 1000 (fun _ _=>LTok.nil) aa aa ?_
 exact fun a _=>Ho.of (o_K T a.1 a.2) aa (n_C T a.1 a.2)
theorem g_f(T:TD):TabOk Tryz.prog (m_0 T):=by
 refine⟨fun f s h=>am,fun f s h=>?_⟩
 unfold m_0 at h
 simp only at h
 split at h
 ·cases h;exact c_n i_A (z_z T).2
 ·cases h
theorem u_G(T:TD)(i:Nat):(u_m T i).Body Tryz.prog (sub (a_b Tryz.f153) [0,0,1,1,1]):=
 LoopD.bodyH (root:=a_b Tryz.f153) [0,0,1,1,1] a_l (g_f T) LTok.nil 1000 (fun k hk=>Ho.of (z_r T i k) aa (z_v T i k hk))
theorem z_A(T:TD):(y_G T).Body Tryz.prog 153/\(y_G T).BodyD Tryz.prog 153:=by
 refine a_c (fn:=Tryz.f153) (b:=a_b Tryz.f153) (LT:=fun i=>[([0,1,1,1],(u_m T i).at (0:Nat))]) a_l (g_f T) 1000 (fun i _=>LTok.cons (fun fr H K hk=>LoopD.ok (u_G T i) hk) LTok.nil) aa aa ?_
 exact fun i hi=>Ho.of (z_s T i) aa (z_w T i hi)
theorem g_g(T:TD):TabOk Tryz.prog (m_2 T):=by
 refine⟨fun f s h=>am,fun f s h=>?_⟩
 unfold m_2 at h
 simp only at h
 split at h
 ·cases h;exact c_n i_A (z_A T).2
 ·cases h
theorem u_H(T:TD)(hT:T.Ok):(u_n T).Body Tryz.prog (sub (a_b Tryz.f153) [0,0,1,1,1]):=
 LoopD.bodyH (root:=a_b Tryz.f153) [0,0,1,1,1] a_l (g_g T) LTok.nil 1000 (fun k hk=>Ho.of (z_t T k) aa (z_x T hT k hk))
theorem z_B(T:TD):(y_H T).Body Tryz.prog 153/\(y_H T).BodyD Tryz.prog 153:=by
 refine a_c (fn:=Tryz.f153) (b:=a_b Tryz.f153) (LT:=fun _=>[([0,1,1,1],(u_n T).at (0:Nat))]) a_l (g_g T) 1000 (fun _ hT=>LTok.cons (fun fr H K hk=>LoopD.ok (u_H T hT) hk) LTok.nil) aa aa ?_
 exact fun _ hT=>Ho.of (z_u T) aa (z_y T hT)
theorem k_E(T:TD):TabOk Tryz.prog (m_3 T):=by
 refine⟨fun f s h=>am,fun f s h=>?_⟩
 unfold m_3 at h
 simp only at h
 split at h
 ·cases h;exact c_n i_A (z_B T).2
 ·cases h
theorem z_C(T:TD):(y_I T).Body Tryz.prog 153/\(y_I T).BodyD Tryz.prog 153:=by
 refine a_c (fn:=Tryz.f153) (b:=a_b Tryz.f153) (LT:=fun _=>[]) a_l (k_E T) 1000 (fun _ _=>LTok.nil) aa aa ?_
 exact fun _ hT=>Ho.of (e_W T) aa (d_9 T hT)
theorem k_F(T:TD):TabOk Tryz.prog (m_4 T):=by
 refine⟨fun f s h=>am,fun f s h=>?_⟩
 unfold m_4 at h
 simp only at h
 split at h
 ·cases h;exact c_n i_A (z_C T).2
 ·cases h
theorem z_D(T:TD):(y_J T).Body Tryz.prog 153/\(y_J T).BodyD Tryz.prog 153:=by
 refine a_c (fn:=Tryz.f153) (b:=a_b Tryz.f153) (LT:=fun _=>[]) a_l (k_F T) 1000 (fun _ _=>LTok.nil) aa aa ?_
 exact fun _ hT=>Ho.of (e_W T) aa (d_9 T hT)
def z_E(T:TD)(i:Nat)(j:Nat):Prop:=
 br (TD.hasT T i j) (∃(x:Unit),True/\a_f T=a_f T/\True/\True/\True) (∃(x:Unit),True/\a_f T=a_f T/\True/\True/\True)
def z_F(T:TD)(i:Nat)(k:Nat):Prop:=
 letI c:=T.C i;letI b:=a_f T=a_f T;letI a:=Nat.beq i i&&Nat.beq k k&&true;br (Nat.blt k c) (br (Nat.blt (k+1) c) (b/\True/\gd a (∀(x:Unit),True->∃(j':Nat),Nat.le j' c/\c-j'<c-k/\b/\br (Nat.blt j' c) (gd (Nat.beq i i&&Nat.beq (k+1) j'&&true) True) False)) (b/\True/\gd a (∀(x:Unit),True->∃(j':Nat),Nat.le j' c/\c-j'<c-k/\b/\br (Nat.blt j' c) False True))) (∃(x:Unit),True/\b/\True)
def q_j(T:TD)(i:Nat):Prop:=
 letI a:=a_f T=a_f T;Nat.le 0 (T.C i)/\(a/\br (Nat.blt 0 (T.C i)) (gd (Nat.beq i i&&true&&true) True) False)/\∀(x:Unit),True->∃(x:Unit),True/\a/\True/\True/\True
def z_G(T:TD)(k:Nat):Prop:=
 letI c:=a_f T=a_f T;letI b:=Nat.le 1 (T.C k);letI a:=Nat.beq k k&&true&&true;br (Nat.blt k T.R) (br (Nat.blt (k+1) T.R) (c/\b/\gd a (∀(x:Unit),True->∃(j':Nat),Nat.le j' T.R/\T.R-j'<T.R-k/\c/\br (Nat.blt j' T.R) (gd (Nat.beq (k+1) j'&&true&&true) True) False)) (c/\b/\gd a (∀(x:Unit),True->∃(j':Nat),Nat.le j' T.R/\T.R-j'<T.R-k/\c/\br (Nat.blt j' T.R) False True))) (∃(x:Unit),True/\c/\True)
def q_k(T:TD):Prop:=
 letI a:=a_f T=a_f T;Nat.le 0 T.R/\(a/\br (Nat.blt 0 T.R) True False)/\∀(x:Unit),True->∃(x:Unit),True/\a/\True/\True/\True
theorem z_H(T:TD)(i j:Nat):z_E T i j:=by
 unfold z_E
 simp only[sj7,sj4,imp_self]
theorem z_I(T:TD)(i k:Nat)(h:k<=T.C i):z_F T i k:=by
 unfold z_F
 try simp only[sj7,sj4,imp_self]
 have hp:True:=trivial
 repeat' (first|done|omega|exact rfl|exact hp|exact trivial|intro _|refine⟨k+1,?_⟩|refine⟨?_,?_⟩)
theorem k_G(T:TD)(i:Nat)(h:0<T.C i):q_j T i:=by
 unfold q_j
 try simp only[sj7,sj4,imp_self,Nat.zero_le,h]
 repeat' (first|done|omega|exact rfl|exact trivial|intro _|refine⟨?_,?_⟩)
theorem z_J(T:TD)(hT:T.Ok)(k:Nat)(h:k<=T.R):z_G T k:=by
 have hC:=hT.2 k
 unfold z_G
 try simp only[sj7,sj4,imp_self]
 have hp:True:=trivial
 repeat' (first|done|omega|exact rfl|exact hp|exact trivial|intro _|refine⟨k+1,?_⟩|refine⟨?_,?_⟩)
theorem k_H(T:TD)(hT:T.Ok):q_k T:=by
 have hR:=hT.1
 unfold q_k
 try simp only[sj7,sj4,imp_self,Nat.zero_le,hR]
 repeat' (first|done|omega|exact rfl|exact trivial|exact fun k hk=>hT.2 k hk|intro _|refine⟨?_,?_⟩)
theorem i_B:a_t Tryz.prog 155:=⟨Tryz.f155,aa,rfl,aa⟩
theorem z_K(T:TD):(y_K T).Body Tryz.prog 155/\(y_K T).BodyD Tryz.prog 155:=by
 refine a_c (fn:=Tryz.f155) (b:=a_b Tryz.f155) (LT:=fun _=>[]) a_l a_y 1000 (fun _ _=>LTok.nil) aa aa ?_
 exact fun a _=>Ho.of (z_E T a.1 a.2) aa (z_H T a.1 a.2)
theorem g_h(T:TD):TabOk Tryz.prog (m_5 T):=by
 refine⟨fun f s h=>?_,fun f s h=>am⟩
 unfold m_5 at h
 simp only at h
 split at h
 ·cases h;exact a_d i_B (z_K T).1
 ·cases h
theorem u_I(T:TD)(i:Nat):(u_o T i).Body Tryz.prog (sub (a_b Tryz.f155) [0,0,1,1,1]):=
 LoopD.bodyH (root:=a_b Tryz.f155) [0,0,1,1,1] a_l (g_h T) LTok.nil 1000 (fun k hk=>Ho.of (z_F T i k) aa (z_I T i k hk))
theorem z_L(T:TD):(y_L T).Body Tryz.prog 155/\(y_L T).BodyD Tryz.prog 155:=by
 refine a_c (fn:=Tryz.f155) (b:=a_b Tryz.f155) (LT:=fun i=>[([0,1,1,1],(u_o T i).at (0:Nat))]) a_l (g_h T) 1000 (fun i _=>LTok.cons (fun fr H K hk=>LoopD.ok (u_I T i) hk) LTok.nil) aa aa ?_
 exact fun i hi=>Ho.of (q_j T i) aa (k_G T i hi)
theorem g_i(T:TD):TabOk Tryz.prog (m_6 T):=by
 refine⟨fun f s h=>?_,fun f s h=>am⟩
 unfold m_6 at h
 simp only at h
 split at h
 ·cases h;exact a_d i_B (z_L T).1
 ·cases h
theorem u_J(T:TD)(hT:T.Ok):(u_p T).Body Tryz.prog (sub (a_b Tryz.f155) [0,0,1,1,1]):=
 LoopD.bodyH (root:=a_b Tryz.f155) [0,0,1,1,1] a_l (g_i T) LTok.nil 1000 (fun k hk=>Ho.of (z_G T k) aa (z_J T hT k hk))
theorem z_M(T:TD):(y_M T).Body Tryz.prog 155/\(y_M T).BodyD Tryz.prog 155:=by
 refine a_c (fn:=Tryz.f155) (b:=a_b Tryz.f155) (LT:=fun _=>[([0,1,1,1],(u_p T).at (0:Nat))]) a_l (g_i T) 1000 (fun _ hT=>LTok.cons (fun fr H K hk=>LoopD.ok (u_J T hT) hk) LTok.nil) aa aa ?_
 exact fun _ hT=>Ho.of (q_k T) aa (k_H T hT)
theorem k_I(T:TD):TabOk Tryz.prog (m_7 T):=by
 refine⟨fun f s h=>?_,fun f s h=>am⟩
 unfold m_7 at h
 simp only at h
 split at h
 ·cases h;exact a_d i_B (z_M T).1
 ·cases h
theorem z_N(T:TD):(y_N T).Body Tryz.prog 155/\(y_N T).BodyD Tryz.prog 155:=by
 refine a_c (fn:=Tryz.f155) (b:=a_b Tryz.f155) (LT:=fun _=>[]) a_l (k_I T) 1000 (fun _ _=>LTok.nil) aa aa ?_
 exact fun _ hT=>Ho.of (e_W T) aa (d_9 T hT)
theorem k_J(T:TD):TabOk Tryz.prog (m_8 T):=by
 refine⟨fun f s h=>?_,fun f s h=>am⟩
 unfold m_8 at h
 simp only at h
 split at h
 ·cases h;exact a_d i_B (z_N T).1
 ·cases h
theorem z_O(T:TD):(y_O T).Body Tryz.prog 155/\(y_O T).BodyD Tryz.prog 155:=by
 refine a_c (fn:=Tryz.f155) (b:=a_b Tryz.f155) (LT:=fun _=>[]) a_l (k_J T) 1000 (fun _ _=>LTok.nil) aa aa ?_
 exact fun _ hT=>Ho.of (e_W T) aa (d_9 T hT)
def hrR(T:TD):Prop:=
 letI a:=a_f T=a_f T;a/\TD.Ok T/\∀(x:Unit),True->a/\TD.Ok T/\∀(x:Unit),True->∃(x:Unit),True/\a/\True/\True/\True
theorem u_K(T:TD)(hT:T.Ok):TabOk Tryz.prog (hrU T):=by
 refine⟨fun f s h=>?_,fun f s h=>am⟩
 unfold hrU at h
 simp only at h
 split at h
 ·cases h;exact a_d i_A (z_D T).1
 ·cases h;exact a_d i_B (z_O T).1
 ·cases h
theorem H_o(T:TD)(hT:T.Ok):hrR T:=by
 unfold hrR
 try simp only[a_j,a_p,Bool.and_eq_true,sj5,a_m,sj4,sj8]
 repeat' (first|done|omega|exact rfl|exact trivial|assumption|exact()|intro _|refine⟨?_,?_⟩)
theorem u_L:a_t Tryz.prog 144:=⟨Tryz.f144,aa,rfl,aa⟩
theorem z_P(T:TD)(hT:T.Ok):(hrS T).Body Tryz.prog 144/\(hrS T).BodyD Tryz.prog 144:=by
 refine a_c (fn:=Tryz.f144) (b:=a_b Tryz.f144) (LT:=fun _=>[]) a_l (u_K T hT) 1000 (fun a ha=>LTok.nil) aa aa ?_
 exact fun a ha=>Ho.of (hrR T) aa (H_o T ha)
def s_s(T:TD)(i:Nat)(k:Nat):Prop:=
 letI b:=T.C i;letI a:=a_f T=a_f T;br (Nat.blt k b) (a/\True/\gd (Nat.beq i i&&Nat.beq k k&&true) (∀(x:Unit),True->br (Nat.blt (k+1) b) (∃(j':Nat),Nat.le j' b/\b-j'<b-k/\a/\br (Nat.blt j' b) (gd (Nat.beq i i&&Nat.beq (k+1) j'&&true) True) False) (∃(j':Nat),Nat.le j' b/\b-j'<b-k/\a/\br (Nat.blt j' b) False True))) (∃(x:Unit),True/\a/\True)
def s_t(T:TD)(k:Nat):Prop:=
 letI a:=a_f T=a_f T;br (Nat.blt k T.R) (a/\Nat.le 1 (T.C k)/\gd (Nat.beq k k&&true&&true) (∀(x:Unit),True->br (Nat.blt (k+1) T.R) (∃(j':Nat),Nat.le j' T.R/\T.R-j'<T.R-k/\a/\br (Nat.blt j' T.R) (gd (Nat.beq (k+1) j'&&true&&true) True) False) (∃(j':Nat),Nat.le j' T.R/\T.R-j'<T.R-k/\a/\br (Nat.blt j' T.R) False True))) (∃(x:Unit),True/\a/\True)
theorem n_D(T:TD)(i k:Nat)(h:k<=T.C i):s_s T i k:=by
 unfold s_s
 try simp only[sj7,sj4,imp_self]
 have hp:True:=trivial
 repeat' (first|done|omega|exact rfl|exact hp|exact trivial|intro _|refine⟨k+1,?_⟩|refine⟨?_,?_⟩)
theorem n_E(T:TD)(hT:T.Ok)(k:Nat)(h:k<=T.R):s_t T k:=by
 have hC:=hT.2 k
 unfold s_t
 try simp only[sj7,sj4,imp_self]
 have hp:True:=trivial
 repeat' (first|done|omega|exact rfl|exact hp|exact trivial|intro _|refine⟨k+1,?_⟩|refine⟨?_,?_⟩)
theorem i_C:a_t Tryz.prog 258:=⟨Tryz.f258,aa,rfl,aa⟩
theorem z_Q(T:TD):(y_P T).Body Tryz.prog 258/\(y_P T).BodyD Tryz.prog 258:=by
 refine a_c (fn:=Tryz.f258) (b:=a_b Tryz.f258) (LT:=fun _=>[]) a_l a_y 1000 (fun _ _=>LTok.nil) aa aa ?_
 exact fun a _=>Ho.of (o_K T a.1 a.2) aa (n_C T a.1 a.2)
theorem g_j(T:TD):TabOk Tryz.prog (m_9 T):=by
 refine⟨fun f s h=>?_,fun f s h=>am⟩
 unfold m_9 at h
 simp only at h
 split at h
 ·cases h;exact a_d i_C (z_Q T).1
 ·cases h
theorem u_M(T:TD)(i:Nat):(u_q T i).Body Tryz.prog (sub (a_b Tryz.f258) [0,0,1,1]):=
 LoopD.bodyH (root:=a_b Tryz.f258) [0,0,1,1] a_l (g_j T) LTok.nil 1000 (fun k hk=>Ho.of (s_s T i k) aa (n_D T i k hk))
theorem z_R(T:TD):(y_Q T).Body Tryz.prog 258/\(y_Q T).BodyD Tryz.prog 258:=by
 refine a_c (fn:=Tryz.f258) (b:=a_b Tryz.f258) (LT:=fun i=>[([0,1,1],(u_q T i).at (0:Nat))]) a_l (g_j T) 1000 (fun i _=>LTok.cons (fun fr H K hk=>LoopD.ok (u_M T i) hk) LTok.nil) aa aa ?_
 exact fun i hi=>Ho.of (q_j T i) aa (k_G T i hi)
theorem g_k(T:TD):TabOk Tryz.prog (n_a T):=by
 refine⟨fun f s h=>?_,fun f s h=>am⟩
 unfold n_a at h
 simp only at h
 split at h
 ·cases h;exact a_d i_C (z_R T).1
 ·cases h
theorem u_N(T:TD)(hT:T.Ok):(u_r T).Body Tryz.prog (sub (a_b Tryz.f258) [0,0,1,1]):=
 LoopD.bodyH (root:=a_b Tryz.f258) [0,0,1,1] a_l (g_k T) LTok.nil 1000 (fun k hk=>Ho.of (s_t T k) aa (n_E T hT k hk))
theorem z_S(T:TD):(y_R T).Body Tryz.prog 258/\(y_R T).BodyD Tryz.prog 258:=by
 refine a_c (fn:=Tryz.f258) (b:=a_b Tryz.f258) (LT:=fun _=>[([0,1,1],(u_r T).at (0:Nat))]) a_l (g_k T) 1000 (fun _ hT=>LTok.cons (fun fr H K hk=>LoopD.ok (u_N T hT) hk) LTok.nil) aa aa ?_
 exact fun _ hT=>Ho.of (q_k T) aa (k_H T hT)
theorem k_K(T:TD):TabOk Tryz.prog (n_b T):=by
 refine⟨fun f s h=>?_,fun f s h=>am⟩
 unfold n_b at h
 simp only at h
 split at h
 ·cases h;exact a_d i_C (z_S T).1
 ·cases h
theorem z_T(T:TD):(y_S T).Body Tryz.prog 258/\(y_S T).BodyD Tryz.prog 258:=by
 refine a_c (fn:=Tryz.f258) (b:=a_b Tryz.f258) (LT:=fun _=>[]) a_l (k_K T) 1000 (fun _ _=>LTok.nil) aa aa ?_
 exact fun _ hT=>Ho.of (e_W T) aa (d_9 T hT)
theorem k_L(T:TD):TabOk Tryz.prog (n_c T):=by
 refine⟨fun f s h=>?_,fun f s h=>am⟩
 unfold n_c at h
 simp only at h
 split at h
 ·cases h;exact a_d i_C (z_T T).1
 ·cases h
theorem z_U(T:TD):(y_T T).Body Tryz.prog 258/\(y_T T).BodyD Tryz.prog 258:=by
 refine a_c (fn:=Tryz.f258) (b:=a_b Tryz.f258) (LT:=fun _=>[]) a_l (k_L T) 1000 (fun _ _=>LTok.nil) aa aa ?_
 exact fun _ hT=>Ho.of (e_W T) aa (d_9 T hT)
end Tk

