/- Lemmas of this claim; the last text says what is proved. -/
import Derived.Test.YtblencgndjjleaaGreatDoorK30
import Derived.Test.YtblencgndjjleaaGreatDoorK29
set_option linter.all false
set_option maxRecDepth 1000000
namespace Tk
open Go Go.Sx Go.Proofs
open Q
variable [Syms]
def D_E(T:TD)(l:By)(i:Nat)(k:Nat):Prop:=
 letI g1:=T.C i;letI f1:=T.tx i k;letI e1:=List UInt8;letI d1:=TD.hasT T i k;letI b1:=a_f T=a_f T;letI c1:=l++catT T i k;letI y:=Int.ofNat g1;letI w:=l++catT T i g1;letI v:=(c1,i,k).fst;letI u:=Value.int .i64 (Int.ofNat 0);letI t:=List.length c1;letI n:=Nat.beq i i&&Nat.beq k k&&true;letI p:=Value.int IntKind.i8 (Int.ofNat 0);letI s:=Value.int .i64 y;letI m:=decide (Int.ofNat k<y);letI h:=fun(q:Nat)=>AVal.sp (SId.mk 5 i q) 0;letI g:=Value.int .i64 (IntKind.wrap .i64 (Int.ofNat (k+1)));letI f:=u=u;letI d:=p=p;letI e:=s=s;letI c:=∃(r:e1),c1=v++r;letI b:=Nat.beq t (List.length v);letI a:=SubF h h g1 [];br m (gd m (gd (Nat.blt k g1) (br d1 (b1/\(d1=true/\(WT f1/\List.length f1<=2147483647)/\fits 2147483647 v)/\gd n (gd b (f/\d/\c/\∀(x:e1),x=v++f1->∃(j':Nat),letI z:=l++catT T i j';Nat.le j' g1/\g1-j'<g1-k/\b1/\g1=g1/\a/\e/\g=Value.int .i64 (Int.ofNat j')/\gd (Nat.beq (List.length x) (List.length z)) (f/\d/\(∃(r:e1),x=z++r)/\True)))) (b1/\(d1=false/\fits 0 v)/\gd n (gd b (f/\d/\c/\∀(x:e1),x=v->∃(j':Nat),letI a1:=l++catT T i j';Nat.le j' g1/\g1-j'<g1-k/\b1/\g1=g1/\a/\e/\g=Value.int .i64 (Int.ofNat j')/\gd (Nat.beq (List.length x) (List.length a1)) (f/\d/\(∃(r:e1),x=a1++r)/\True))))))) (∃(x:Unit),True/\b1/\gd (Nat.beq t (List.length w)) (f/\d/\(∃(r:e1),c1=w++r)/\True))
def ymR(T:TD)(l:By)(i:Nat):Prop:=
 letI s:=T.C i;letI p:=Int.ofNat 0;letI n:=True/\True;letI k:=a_f T=a_f T;letI m:=l++catT T i 0;letI h:=l++catT T i s;letI g:=True/\n;letI f:=Value.int .i64 p;letI d:=Value.int .i64 (Int.ofNat s);letI e:=Value.int IntKind.i8 p;letI c:=fun(q:Nat)=>AVal.sp (SId.mk 5 i q) 0;letI b:=f=f;letI a:=e=e;Nat.le 0 s/\(k/\s=s/\SubF c c s []/\d=d/\b/\gd (Nat.beq (List.length l) (List.length m)) (b/\a/\(∃(r:List UInt8),l=m++r)/\True))/\∀(x:Unit),True->∃(x:By),x=h/\k/\True/\(g/\(((((g/\n)/\n)/\n)/\n)/\True)/\True)/\gd (Nat.beq (List.length h) (List.length x)) (b/\a/\(∃(r:List UInt8),h=x++r)/\True)
theorem q_V(T:TD):TabOk Tryz.prog (ymU T):=by
 refine⟨fun f s h=>?_,fun f s h=>?_⟩
 ·unfold ymU at h
  simp only at h
  split at h
  ·cases h;exact d_a (a_d e_a (D_w T).1) (a_d e_a (D_D T).1)
  ·cases h
 ·cases h
theorem D_F(T:TD)(l:By)(i:Nat)(k:Nat)(hd:(i<T.R/\T.Ok)/\fits 25769803768 l)(h:k<=T.C i):D_E T l i k:=by
 unfold D_E
 obtain⟨⟨h1,ok⟩,hf⟩:=hd
 have c2:=ok.c2 i
 have cl:=e_V ok i k
 simp only[fits,a_i] at hf
 have ff:k<T.C i->fits 2147483647 (l++catT T i k):=fun g=>by
  have:k*2147483647<=11*2147483647:=Nat.mul_le_mul_right _ ac
  simp only[fits,a_i,List.length_append];omega
 have f0:k<T.C i->fits 0 (l++catT T i k):=fun g=>by
  have:=ff g
  simp only[fits,a_i] at this⊢;omega
 have e1:k<T.C i->IntKind.wrap IntKind.i64 ((k+1:Nat):Int)=((k+1:Nat):Int):=fun g=>a_o ac ac
 have cE:catT T i (k+1)=catT T i k++T.tx i k:=rfl
 have em:T.hasT i k=false->T.tx i k=[]:=fun h=>by
  cases e:T.tx i k with
  |nil=>rfl
  |cons a b=>simp[TD.hasT,e,b_X] at h
 have w:=d_W (ok.w i k)
 have hl:=ok.l i k
 simp only[sj3,eq_self,implies_true,forall_eq,b_F,b_P,Nat.le_eq,sj2,a_e,sj0]
 exact⟨fun g=>⟨g,g,fun ht=>⟨⟨ht,⟨w,hl⟩,ff g⟩,⟨[],an⟩,k+1,ac,ac,fun _ _ _=>a_7,congrArg _ (e1 g),by rw[cE,List.length_append];omega,[],by rw[cE];simp⟩,fun ht=>⟨⟨ht,f0 g⟩,⟨[],an⟩,k+1,ac,ac,fun _ _ _=>a_7,congrArg _ (e1 g),by rw[cE,em ht,List.append_nil],[],by rw[cE,em ht];simp⟩⟩,fun g=>by
  have e:k=T.C i:=ac
  rw[e];exact⟨rfl,[],an⟩⟩
theorem D_G(T:TD)(l:By)(i:Nat)(hd:(i<T.R/\T.Ok)/\fits 25769803768 l):(ymD T l i).Body Tryz.prog (sub (a_b Tryz.f478) [0,0,1]):=by
 refine LoopD.bodyH (root:=(a_b Tryz.f478)) [0,0,1] a_l (q_V T) (LTok.nil) 1000 ?_
 exact fun k hk=>Ho.of (D_E T l i k) aa (D_F T l i k hd hk)
theorem H_3(T:TD)(l:By)(i:Nat)(hd:(i<T.R/\T.Ok)/\fits 25769803768 l):ymR T l i:=by
 unfold ymR
 try simp only[List.append_assoc]
 simp only[sj3,eq_self,implies_true,forall_eq,b_F,b_P,Nat.le_eq,sj2,a_e,sj0]
 exact⟨ac,⟨fun _ _ _=>a_7,by simp[catT],[],by simp[catT]⟩,fun _ _=>⟨[],an⟩⟩
theorem q_W:a_t Tryz.prog 478:=⟨Tryz.f478,aa,rfl,aa⟩
theorem D_H(T:TD):(ymS T).Body Tryz.prog 478/\(ymS T).BodyD Tryz.prog 478:=by
 refine a_c (fn:=Tryz.f478) (b:=a_b Tryz.f478) (LT:=fun a=>[([0,1],(ymD T a.1 a.2).at (0:Nat))]) a_l (q_V T) 1000 (fun a ha=>LTok.cons (fun fr H K hk=>LoopD.ok (D_G T a.1 a.2 ha) hk) (LTok.nil)) aa aa ?_
 exact fun a ha=>Ho.of (ymR T a.1 a.2) aa (H_3 T a.1 a.2 ha)
def D_I(T:TD)(i:Nat):Prop:=
 letI e:=T.C i;letI d:=e+1;letI c:=a_f T=a_f T;letI b:=gd (Nat.beq i i&&true&&true) True;letI a:=∃(j':Unit),True/\d<d/\c/\False;br (Nat.blt (0+1) e) (a\/∃(j':Nat),(0<j'/\j'<=e)/\e-j'<d/\c/\gd (Nat.beq 1 j') (br (Nat.blt j' e) (gd (Nat.beq i i&&Nat.beq 1 j'&&true) (j'=1/\b)) False)) (a\/∃(j':Nat),(0<j'/\j'<=e)/\e-j'<d/\c/\gd (Nat.beq 1 j') (br (Nat.blt j' e) False (j'=1/\b)))
def D_J(T:TD)(i:Nat)(k:Nat):Prop:=
 letI h:=T.C i;letI m:=k+1;letI g:=h-k;letI f:=a_f T=a_f T;letI d:=fun(q:Nat)=>AVal.sp (SId.mk 5 i q) 0;letI c:=∃(j':Unit),True/\h+1<g/\f/\False;letI b:=SubF d d k [];letI a:=b/\gd (Nat.beq i i&&Nat.beq k k&&true) True;br (Nat.blt k h) (gd (Nat.beq k k&&(Nat.ble (m*8) 140737488355328&&(Nat.ble m 140737488355328&&true))) (br (Nat.blt m h) (c\/∃(j':Nat),letI e:=Nat.beq m j';(0<j'/\j'<=h)/\h-j'<g/\f/\gd e (br (Nat.blt j' h) (gd (Nat.beq i i&&e&&true) (j'=m/\a)) False)) (c\/∃(j':Nat),(0<j'/\j'<=h)/\h-j'<g/\f/\gd (Nat.beq m j') (br (Nat.blt j' h) False (j'=m/\a))))) ((∃(x:Unit),True/\f/\k=h/\k=k/\b/\True)\/False)
def acR(T:TD)(i:Nat):Prop:=
 letI b:=a_f T=a_f T;True/\(b/\gd (Nat.beq i i&&true&&true) True)/\∀(x:Unit),True->∃(x:Nat),x=i/\b/\(∀(i:Nat),letI a:=AVal.sp (SId.mk 5 x i) 0;i<T.C x->SubA 0 a a)/\True/\T.C i=T.C x/\SubF (fun(q:Nat)=>AVal.sp (SId.mk 5 i q) 0) (fun(q:Nat)=>AVal.sp (SId.mk 5 x q) 0) (T.C i) []/\True
theorem D_K(T:TD)(i:Nat)(hd:0<T.C i/\T.C i<=12):D_I T i:=by
 unfold D_I
 simp only[sj3,m_B,exists_eq_right,Nat.add_right_cancel_iff,Nat.lt_irrefl,Bool.and_eq_false_iff,Bool.true_eq_false,or_self,sj2,a_e,sj0]
 have sf:∀n us,SubF (fun q=>AVal.sp {k:=5,i:=i,j:=q} 0) (fun q=>AVal.sp {k:=5,i:=i,j:=q} 0) n us:=fun n _ _ _ _=>a_7
 repeat' (first|exact sf _ _|omega|exact trivial|exact rfl|exact a_7|refine⟨1,?_⟩|intro _|refine And.intro ?_ ?_)
theorem D_L(T:TD)(i:Nat)(k:Nat)(hd:0<T.C i/\T.C i<=12)(h:0<k/\k<=T.C i):D_J T i k:=by
 unfold D_J
 obtain⟨h1,h2⟩:=h
 simp only[sj3,m_B,exists_eq_right,Nat.add_right_cancel_iff,Nat.lt_irrefl,Bool.and_eq_false_iff,Bool.true_eq_false,or_self,sj2,a_e,sj0]
 have sf:∀n us,SubF (fun q=>AVal.sp {k:=5,i:=i,j:=q} 0) (fun q=>AVal.sp {k:=5,i:=i,j:=q} 0) n us:=fun n _ _ _ _=>a_7
 repeat' (first|exact sf _ _|omega|exact trivial|exact rfl|exact a_7|refine⟨k+1,?_⟩|intro _|refine And.intro ?_ ?_)
theorem D_M(T:TD)(i:Nat)(hd:0<T.C i/\T.C i<=12):(acD T i).Body2 (H_h T i) Tryz.prog (sub (a_b Tryz.f271) [0,0,1,0,1]):=by
 refine LoopD.bodyH2 (root:=(a_b Tryz.f271)) (LT:=[]) [0,0,1,0,1] a_l (a_y) (LTok.nil) 1000 ?_ ?_
 ·exact fun j hj=>Ho.of (D_I T i) aa (D_K T i hd)
 ·exact fun j hj=>Ho.of (D_J T i j) aa (D_L T i j hd hj)
theorem H_4(T:TD)(i:Nat)(hd:0<T.C i/\T.C i<=12):acR T i:=by
 unfold acR
 simp only[sj3,m_B,exists_eq_right,Nat.add_right_cancel_iff,Nat.lt_irrefl,Bool.and_eq_false_iff,Bool.true_eq_false,or_self,sj2,a_e,sj0]
 have sf:∀n us,SubF (fun q=>AVal.sp {k:=5,i:=i,j:=q} 0) (fun q=>AVal.sp {k:=5,i:=i,j:=q} 0) n us:=fun n _ _ _ _=>a_7
 repeat' (first|exact sf _ _|omega|exact trivial|exact rfl|exact a_7|refine⟨0,?_⟩|intro _|refine And.intro ?_ ?_)
theorem q_X:a_t Tryz.prog 271:=⟨Tryz.f271,aa,rfl,aa⟩
theorem D_N(T:TD):(acS T).Body Tryz.prog 271/\(acS T).BodyD Tryz.prog 271:=by
 refine a_c (fn:=Tryz.f271) (b:=a_b Tryz.f271) (LT:=fun i=>[([0,1,0,1],(acD T i).at ())]) a_l (a_y) 1000 (fun i ha=>LTok.cons (fun fr H K hk=>LoopD.ok2 (D_M T i ha) hk) (LTok.nil)) aa aa ?_
 exact fun a ha=>Ho.of (acR T a) aa (H_4 T a ha)
def yrR(T:TD)(l:By)(i:Nat):Prop:=
 letI v:=List UInt8;letI u:=Int.ofNat 0;letI p:=List.length l;letI t:=True/\True;letI m:=a_f T=a_f T;letI k:=[(10:UInt8),10];letI h:=True/\t;letI f:=Value.int .i64 u;letI g:=Value.int .i64 (Int.ofNat 1);letI e:=Value.int IntKind.i8 u;letI d:=k=k;letI b:=f=f;letI a:=e=e;m/\True/\∀(x:Unit),True->m/\Nat.le (p+1+1) 70368744177664/\d/\gd (Nat.beq p p) (b/\a/\(∃(r:v),l=l++r)/\∀(x:v),letI s:=List.length x;x=l++k->m/\(0<T.C i/\T.C i<=12)/\gd (Nat.beq i i&&true&&true) (∀(x_1:Nat),letI w:=T.C x_1;letI c:=fun(q:Nat)=>AVal.sp (SId.mk 5 x_1 q) 0;x_1=i->m/\((x_1<T.R/\TD.Ok T)/\fits 25769803768 x)/\w=w/\SubF c c w []/\gd (Nat.beq s s) (b/\a/\(∃(r:v),x=x++r)/\∀(x_2:v),letI n:=List.length x_2;x_2=x++catT T x_1 w->m/\Nat.le (n+1+1) 70368744177664/\d/\gd (Nat.beq n n) (b/\a/\(∃(r:v),x_2=x_2++r)/\∀(x:v),x=x_2++k->∃(x_3:By),x_3=l++rowF T i/\m/\True/\(h/\(((((h/\t)/\t)/\t)/\t)/\True)/\True)/\g=g/\gd (Nat.beq (List.length x) (List.length x_3)) (b/\a/\(∃(r:v),x=x_3++r)/\True)))))
theorem v_7(T:TD):TabOk Tryz.prog (yrU T):=by
 refine⟨fun f s h=>?_,fun f s h=>?_⟩
 ·unfold yrU at h
  simp only at h
  split at h
  ·cases h;exact a_d d_8 (h_q T).1
  ·cases h;exact a_d f_L (n_8 T)
  ·cases h;exact a_d q_X (D_N T).1
  ·cases h;exact a_d q_W (D_H T).1
  ·cases h
 ·cases h
theorem H_5(T:TD)(l:By)(i:Nat)(hd:(i<T.R/\T.Ok)/\fits 25769803772 l):yrR T l i:=by
 unfold yrR
 obtain⟨⟨h1,ok⟩,hf⟩:=hd
 have c2:=ok.c2 i
 have c0:=ok.c i h1
 have cl:=j_0 ok i
 have cc:=e_V ok i (T.C i)
 have cm:T.C i*2147483647<=12*2147483647:=Nat.mul_le_mul_right _ c2
 simp only[fits,a_i] at hf
 have ff:fits 25769803768 (l++[10,10]):=aI
 simp only[sj3,eq_self,implies_true,forall_eq,b_F,b_P,Nat.le_eq,sj2,a_e,sj0]
 repeat' (first|done|omega|exact trivial|exact rfl|assumption|exact fun _ _ _=>a_7|exact⟨[],(List.append_nil _).symm⟩|(simp only[rowF,List.length_append,List.length_cons,List.length_nil];omega)|(refine⟨[],?_⟩;simp[rowF];done)|intro _|refine And.intro ?_ ?_)
theorem D_O(T:TD):(yrS T).Body Tryz.prog 59/\(yrS T).BodyD Tryz.prog 59:=by
 refine a_c (fn:=Tryz.f59) (b:=a_b Tryz.f59) (LT:=fun _=>[]) a_l (v_7 T) 1000 (fun a ha=>LTok.nil) aa aa ?_
 exact fun a ha=>Ho.of (yrR T a.1 a.2) aa (H_5 T a.1 a.2 ha)
def D_P(T:TD)(l:By)(k:Nat):Prop:=
 letI w:=List UInt8;letI v:=Int.ofNat 0;letI u:=Int.ofNat T.R;letI t:=l++rowsF T k;letI p:=a_f T=a_f T;letI n:=l++rowsF T T.R;letI m:=(t,k).fst;letI g:=List.length t;letI h:=Value.int .i64 v;letI f:=Value.int .i64 u;letI e:=Value.int IntKind.i8 v;letI d:=decide (Int.ofNat k<u);letI c:=fun(q:Nat)=>AVal.sp (SId.mk 4 q 0) 0;letI b:=h=h;letI a:=e=e;br d (gd d (gd (Nat.blt k T.R) (p/\((k<T.R/\TD.Ok T)/\fits 25769803772 m)/\gd (Nat.beq k k&&true&&true) (gd (Nat.beq g (List.length m)) (b/\a/\(∃(r:w),t=m++r)/\∀(x:w),x=m++rowF T k->∃(j':Nat),letI s:=l++rowsF T j';Nat.le j' T.R/\T.R-j'<T.R-k/\p/\T.R=T.R/\SubF c c T.R []/\f=f/\Value.int .i64 (IntKind.wrap .i64 (Int.ofNat (k+1)))=Value.int .i64 (Int.ofNat j')/\gd (Nat.beq (List.length x) (List.length s)) (b/\a/\(∃(r:w),x=s++r)/\True)))))) (∃(x:Unit),True/\p/\gd (Nat.beq g (List.length n)) (b/\a/\(∃(r:w),t=n++r)/\True))
def yRR(T:TD)(l:By):Prop:=
 letI p:=Int.ofNat 0;letI n:=True/\True;letI m:=l++rowsF T 0;letI k:=a_f T=a_f T;letI h:=l++rowsF T T.R;letI g:=True/\n;letI f:=Value.int .i64 p;letI e:=Value.int .i64 (Int.ofNat T.R);letI d:=Value.int IntKind.i8 p;letI c:=fun(q:Nat)=>AVal.sp (SId.mk 4 q 0) 0;letI b:=f=f;letI a:=d=d;Nat.le 0 T.R/\(k/\T.R=T.R/\SubF c c T.R []/\e=e/\b/\gd (Nat.beq (List.length l) (List.length m)) (b/\a/\(∃(r:List UInt8),l=m++r)/\True))/\∀(x:Unit),True->∃(x:By),x=h/\k/\True/\(g/\(((((g/\n)/\n)/\n)/\n)/\True)/\True)/\gd (Nat.beq (List.length h) (List.length x)) (b/\a/\(∃(r:List UInt8),h=x++r)/\True)
theorem q_Y(T:TD):TabOk Tryz.prog (yRU T):=by
 refine⟨fun f s h=>?_,fun f s h=>?_⟩
 ·unfold yRU at h
  simp only at h
  split at h
  ·cases h;exact a_d e_a (D_O T).1
  ·cases h
 ·cases h
theorem D_Q(T:TD)(l:By)(k:Nat)(hd:T.Ok/\fits 335007448990 l)(h:k<=T.R):D_P T l k:=by
 unfold D_P
 obtain⟨ok,hf⟩:=hd
 have c2:=ok.r2
 have cl:=d_Z ok k
 simp only[fits,a_i] at hf
 have ff:k<T.R->fits 25769803772 (l++rowsF T k):=fun g=>by
  have:k*25769803768<=12*25769803768:=Nat.mul_le_mul_right _ ac
  simp only[fits,a_i,List.length_append];omega
 have e1:k<T.R->IntKind.wrap IntKind.i64 ((k+1:Nat):Int)=((k+1:Nat):Int):=fun g=>a_o ac ac
 have cE:rowsF T (k+1)=rowsF T k++rowF T k:=rfl
 simp only[sj3,eq_self,implies_true,forall_eq,b_F,b_P,Nat.le_eq,sj2,a_e,sj0]
 repeat' (first|done|omega|exact trivial|exact rfl|assumption|exact fun _ _ _=>a_7|exact ff ac|exact congrArg _ (e1 ac)|exact⟨[],(List.append_nil _).symm⟩|(refine⟨(k+1:Nat),?_⟩)|(rw[cE];simp only[List.length_append];omega)|(refine⟨[],?_⟩;rw[cE];simp;done)|(have hkn:k=T.R:=ac;subst hkn;(first|exact rfl|exact⟨[],an⟩))|intro _|refine And.intro ?_ ?_)
theorem D_R(T:TD)(l:By)(hd:T.Ok/\fits 335007448990 l):(yRD T l).Body Tryz.prog (sub (a_b Tryz.f478) [0,0,1]):=by
 refine LoopD.bodyH (root:=(a_b Tryz.f478)) [0,0,1] a_l (q_Y T) (LTok.nil) 1000 ?_
 exact fun k hk=>Ho.of (D_P T l k) aa (D_Q T l k hd hk)
theorem H_6(T:TD)(l:By)(hd:T.Ok/\fits 335007448990 l):yRR T l:=by
 unfold yRR
 try simp only[List.append_assoc]
 simp only[sj3,eq_self,implies_true,forall_eq,b_F,b_P,Nat.le_eq,sj2,a_e,sj0]
 exact⟨ac,⟨fun _ _ _=>a_7,by simp[rowsF],[],by simp[rowsF]⟩,fun _ _=>⟨[],an⟩⟩
theorem D_S(T:TD):(yRS T).Body Tryz.prog 478/\(yRS T).BodyD Tryz.prog 478:=by
 refine a_c (fn:=Tryz.f478) (b:=a_b Tryz.f478) (LT:=fun a=>[([0,1],(yRD T a).at (0:Nat))]) a_l (q_Y T) 1000 (fun a ha=>LTok.cons (fun fr H K hk=>LoopD.ok (D_R T a ha) hk) (LTok.nil)) aa aa ?_
 exact fun a ha=>Ho.of (yRR T a) aa (H_6 T a ha)
def D_T(T:TD):Prop:=
 letI c:=T.R+1;letI b:=a_f T=a_f T;letI a:=∃(j':Unit),True/\c<c/\b/\False;br (Nat.blt 1 T.R) (a\/∃(j':Nat),(0<j'/\j'<=T.R)/\T.R-j'<c/\b/\gd (Nat.beq 1 j') (br (Nat.blt j' T.R) (gd (Nat.beq 1 j'&&true&&true) (j'=1/\True)) False)) (a\/∃(j':Nat),(0<j'/\j'<=T.R)/\T.R-j'<c/\b/\gd (Nat.beq 1 j') (br (Nat.blt j' T.R) False (j'=1/\True)))
def D_U(T:TD)(k:Nat):Prop:=
 letI g:=k+1;letI f:=a_f T=a_f T;letI d:=fun(q:Nat)=>AVal.sp (SId.mk 4 q 0) 0;letI c:=∃(j':Unit),True/\T.R+1<T.R-k/\f/\False;letI b:=SubF d d k [];letI a:=b/\gd (Nat.beq k k&&true&&true) True;br (Nat.blt k T.R) (gd (Nat.beq k k&&(Nat.ble (g*8) 140737488355328&&(Nat.ble g 140737488355328&&true))) (br (Nat.blt g T.R) (c\/∃(j':Nat),letI e:=Nat.beq g j';(0<j'/\j'<=T.R)/\T.R-j'<T.R-k/\f/\gd e (br (Nat.blt j' T.R) (gd (e&&true&&true) (j'=g/\a)) False)) (c\/∃(j':Nat),(0<j'/\j'<=T.R)/\T.R-j'<T.R-k/\f/\gd (Nat.beq g j') (br (Nat.blt j' T.R) False (j'=g/\a))))) ((∃(x:Unit),True/\f/\k=T.R/\k=k/\b/\True)\/False)
def arR(T:TD):Prop:=
 letI c:=a_f T=a_f T;letI a:=fun(q:Nat)=>AVal.sp (SId.mk 4 q 0) 0;True/\(c/\True)/\∀(x:Unit),True->∃(x:Unit),x=Unit.unit/\c/\(∀(i:Nat),letI b:=AVal.sp (SId.mk 4 i 0) 0;i<T.R->SubA 0 b b)/\True/\T.R=T.R/\SubF a a T.R []/\True
theorem D_V(T:TD)(hd:0<T.R/\T.R<=13):D_T T:=by
 unfold D_T
 simp only[sj3,m_B,exists_eq_right,Nat.add_right_cancel_iff,Nat.lt_irrefl,Bool.and_eq_false_iff,Bool.true_eq_false,or_self,sj2,a_e,sj0]
 have sf:∀n us,SubF (fun q=>AVal.sp {k:=4,i:=q,j:=0} 0) (fun q=>AVal.sp {k:=4,i:=q,j:=0} 0) n us:=fun n _ _ _ _=>a_7
 repeat' (first|exact sf _ _|omega|exact trivial|exact rfl|exact a_7|refine⟨1,?_⟩|intro _|refine And.intro ?_ ?_)
theorem D_W(T:TD)(k:Nat)(hd:0<T.R/\T.R<=13)(h:0<k/\k<=T.R):D_U T k:=by
 unfold D_U
 obtain⟨h1,h2⟩:=h
 simp only[sj3,m_B,exists_eq_right,Nat.add_right_cancel_iff,Nat.lt_irrefl,Bool.and_eq_false_iff,Bool.true_eq_false,or_self,sj2,a_e,sj0]
 have sf:∀n us,SubF (fun q=>AVal.sp {k:=4,i:=q,j:=0} 0) (fun q=>AVal.sp {k:=4,i:=q,j:=0} 0) n us:=fun n _ _ _ _=>a_7
 repeat' (first|exact sf _ _|omega|exact trivial|exact rfl|exact a_7|refine⟨k+1,?_⟩|intro _|refine And.intro ?_ ?_)
theorem D_X(T:TD)(hd:0<T.R/\T.R<=13):(arD T).Body2 (H_i T) Tryz.prog (sub (a_b Tryz.f271) [0,0,1,0,1]):=by
 refine LoopD.bodyH2 (root:=(a_b Tryz.f271)) (LT:=[]) [0,0,1,0,1] a_l (a_y) (LTok.nil) 1000 ?_ ?_
 ·exact fun j hj=>Ho.of (D_T T) aa (D_V T hd)
 ·exact fun j hj=>Ho.of (D_U T j) aa (D_W T j hd hj)
theorem H_7(T:TD)(hd:0<T.R/\T.R<=13):arR T:=by
 unfold arR
 simp only[sj3,m_B,exists_eq_right,Nat.add_right_cancel_iff,Nat.lt_irrefl,Bool.and_eq_false_iff,Bool.true_eq_false,or_self,sj2,a_e,sj0]
 have sf:∀n us,SubF (fun q=>AVal.sp {k:=4,i:=q,j:=0} 0) (fun q=>AVal.sp {k:=4,i:=q,j:=0} 0) n us:=fun n _ _ _ _=>a_7
 repeat' (first|exact sf _ _|omega|exact trivial|exact rfl|exact a_7|refine⟨0,?_⟩|intro _|refine And.intro ?_ ?_)
theorem D_Y(T:TD):(arS T).Body Tryz.prog 271/\(arS T).BodyD Tryz.prog 271:=by
 refine a_c (fn:=Tryz.f271) (b:=a_b Tryz.f271) (LT:=fun _=>[([0,1,0,1],(arD T).at ())]) a_l (a_y) 1000 (fun _ ha=>LTok.cons (fun fr H K hk=>LoopD.ok2 (D_X T ha) hk) (LTok.nil)) aa aa ?_
 exact fun a ha=>Ho.of (arR T) aa (H_7 T ha)
def ybR(T:TD)(l:By):Prop:=
 letI s:=List UInt8;letI p:=Int.ofNat 0;letI m:=List.length l;letI n:=True/\True;letI k:=a_f T=a_f T;letI h:=l++rowsF T T.R;letI g:=True/\n;letI e:=Value.int .i64 p;letI f:=Value.int .i64 (Int.ofNat 1);letI d:=Value.int IntKind.i8 p;letI c:=fun(q:Nat)=>AVal.sp (SId.mk 4 q 0) 0;letI b:=e=e;letI a:=d=d;k/\True/\∀(x:Unit),True->k/\(0<T.R/\T.R<=13)/\∀(x:Unit),x=Unit.unit->k/\(TD.Ok T/\fits 335007448990 l)/\T.R=T.R/\SubF c c T.R []/\gd (Nat.beq m m) (b/\a/\(∃(r:s),l=l++r)/\∀(x:s),x=h->∃(x_1:By),x_1=h/\k/\True/\(g/\(((((g/\n)/\n)/\n)/\n)/\True)/\True)/\f=f/\gd (Nat.beq (List.length x) (List.length x_1)) (b/\a/\(∃(r:s),x=x_1++r)/\True))
theorem v_8(T:TD):TabOk Tryz.prog (ybU T):=by
 refine⟨fun f s h=>?_,fun f s h=>?_⟩
 ·unfold ybU at h
  simp only at h
  split at h
  ·cases h;exact a_d d_8 (h_q T).1
  ·cases h;exact a_d q_X (D_Y T).1
  ·cases h;exact a_d q_W (D_S T).1
  ·cases h
 ·cases h
theorem H_8(T:TD)(l:By)(hd:T.Ok/\fits 335007448990 l):ybR T l:=by
 unfold ybR
 obtain⟨ok,hf⟩:=hd
 simp only[sj3,eq_self,implies_true,forall_eq,b_F,b_P,Nat.le_eq,sj2,a_e,sj0]
 exact fun _ _=>⟨⟨ok.r,ok.r2⟩,fun _ _=>⟨⟨ok,hf⟩,fun _ _ _=>a_7,⟨[],an⟩,[],an⟩⟩
theorem D_Z(T:TD):(ybS T).Body Tryz.prog 59/\(ybS T).BodyD Tryz.prog 59:=by
 refine a_c (fn:=Tryz.f59) (b:=a_b Tryz.f59) (LT:=fun _=>[]) a_l (v_8 T) 1000 (fun a ha=>LTok.nil) aa aa ?_
 exact fun a ha=>Ho.of (ybR T a) aa (H_8 T a ha)
def wqR(T:TD)(l:By)(d:Nat):Prop:=
 letI e1:=List UInt8;letI d1:=List.length l;letI c1:=a_f T=a_f T;letI z:=d1+1;letI w:=l++[(10:UInt8)];letI s:=Value.int .i64 (Int.ofNat 1);letI t:=Value.int .i64 (Int.ofNat 0);letI p:=∃(r:e1),l=l++r;letI n:=(True/\True/\True)/\True;letI m:=Value.int IntKind.i8 (Int.ofNat 0);letI f:=Nat.beq d1 d1;letI c:=s=s;letI e:=t=t;letI b:=m=m;letI a:=d1<=d/\d<9223372036854775808/\z<=70368744177664;br (Nat.ble z d) (c1/\(a/\z<=d)/\c/\gd f (d=d/\e/\b/\p/\gd (Nat.ble d d) (∀(x:By×Nat×Nat),letI a1:=List.length x.fst;letI u:=a1+x.2.fst;letI q:=x.2.snd*1<=x.2.snd/\True;letI h:=Nat.blt x.2.snd 9223372036854775808;x=(l,1,d)->gd (decide (Int.ofNat a1<Int.ofNat u)) (br (Nat.blt a1 a1) (∃(x_1:By),x_1=w/\c1/\True/\n/\gd (Nat.beq u (List.length x_1)) (gd h (e/\b/\(∃(r:e1),List.set x.fst a1 (10:UInt8)=x_1++r)/\q))) (gd (Nat.beq a1 a1&&(Nat.blt a1 x.2.snd&&true)) (∃(x_1:By),x_1=w/\c1/\True/\n/\gd (Nat.beq u (List.length x_1)) (gd h (e/\b/\(∃(r:e1),x.fst++[(10:UInt8)]=x_1++r)/\q)))))))) (c1/\(a/\d<z)/\c/\gd f (d=d/\e/\b/\p/\gd (Nat.ble d d) (∀(x:By×Nat×Nat),letI b1:=(1,x.2.snd).snd;letI v:=(x.fst,1,x.2.snd).fst;letI k:=List.length v;letI g:=k+1;x=(l,1,d)->c1/\((k<=b1/\b1<9223372036854775808/\g<=70368744177664)/\b1<g)/\c/\gd (Nat.beq (List.length x.fst) k) (x.2.snd=b1/\e/\b/\(∃(r:e1),x.fst=v++r)/\gd (Nat.ble b1 x.2.snd) (∀(x_1:By×Nat),letI y:=List.length x_1.fst;y=g/\List.take k x_1.fst=v/\x_1.snd=k->gd (decide (Int.ofNat x_1.snd<Int.ofNat y)) (gd (Nat.blt x_1.snd y&&true) (∃(x:By),x=w/\c1/\True/\n/\gd (Nat.beq y (List.length x)) (e/\b/\(∃(r:e1),List.set x_1.fst x_1.snd (10:UInt8)=x++r)/\True))))))))
theorem H_9(T:TD)(l:By)(d:Nat)(h:l.length<=d/\d<9223372036854775808/\l.length+1<=a_i):wqR T l d:=by
 unfold wqR
 obtain⟨h1,h2,h3⟩:=h
 simp only[a_i] at h3
 have tn:∀n:Nat,Int.toNat (Int.ofNat n)=n:=fun n=>rfl
 have tk:List.take l.length l=l:=List.take_length
 simp only[forall_eq]
 try simp only[List.drop_zero,List.take_nil,Nat.add_zero,Nat.sub_zero,Nat.zero_add,tn,tk,tn]
 try simp only[List.drop_zero,Nat.add_zero,Nat.sub_zero,Nat.zero_add,tn,tk,sj2,a_e,and_true,true_and,forall_const,exists_eq_left,List.length_append,List.length_replicate,a_U,Int.ofNat_eq_natCast,List.length_take,Bool.not_true,Bool.not_false,g_e]
 repeat' (first|done|omega|exact rfl|exact trivial|assumption|(exfalso;omega)|rintro x ⟨hx1,hx2,hx3⟩|intro _|exact⟨[],(List.append_nil _).symm⟩|exact wqL ai ai ac|refine And.intro ?_ ?_)
theorem q_Z:a_t Tryz.prog 333:=⟨Tryz.f333,aa,rfl,aa⟩
theorem D_0(T:TD):(wqS T).Body Tryz.prog 333/\(wqS T).BodyD Tryz.prog 333:=by
 refine a_c (fn:=Tryz.f333) (b:=a_b Tryz.f333) (LT:=fun _=>[]) a_l (n_7 T) 1000 (fun a ha=>LTok.nil) aa aa ?_
 exact fun a ha=>Ho.of (wqR T a.1 a.2) aa (H_9 T a.1 a.2 ha)
theorem D_1(T:TD):(wyS T).Body Tryz.prog 333:=fun a ha w0 F0 ι w vs hi hd=>by
 obtain⟨d,h63,hld,hi'⟩:=j_a hi
 exact(D_0 T).1 (a,d) ⟨hld,h63,ha⟩ w0 F0 ι w vs hi' hd
def wzR(T:TD):Prop:=
 letI c:=Int.ofNat 0;letI b:=Value.int .i64 c;letI a:=Value.int IntKind.i8 c;∃(x:By),x=[(10:UInt8)]/\a_f T=a_f T/\True/\((True/\True/\True)/\True)/\gd (Nat.beq 1 (List.length x)) (b=b/\a=a/\(∃(r:List UInt8),[(10:UInt8)]=x++r)/\64<=64/\True)
theorem I_a(T:TD):wzR T:=by
 unfold wzR
 exact⟨_,rfl,rfl,trivial,⟨⟨trivial,trivial,trivial⟩,trivial⟩,l_q rfl ⟨rfl,rfl,⟨[],rfl⟩,Nat.le_refl _,trivial⟩⟩
theorem D_2(T:TD):(wzS T).Body Tryz.prog 333/\(wzS T).BodyD Tryz.prog 333:=by
 refine a_c (fn:=Tryz.f333) (b:=a_b Tryz.f333) (LT:=fun _=>[]) a_l (q_G T) 1000 (fun a ha=>LTok.nil) aa aa ?_
 exact fun a ha=>Ho.of (wzR T) aa (I_a T)
def yTR(T:TD):Prop:=
 letI v:=List UInt8;letI u:=Int.ofNat 0;letI t:=True/\True;letI p:=[(10:UInt8)];letI k:=a_f T=a_f T;letI h:=True/\t;letI f:=Value.int .i64 u;letI g:=Value.int .i64 (Int.ofNat 1);letI e:=Value.int IntKind.i8 u;letI d:=Value.int IntKind.i32 (Int.ofNat 10);letI c:=f=f;letI b:=e=e;letI a:=d=d;k/\True/\∀(x:Unit),True->k/\(TD.Ok T/\noT T=true)/\c/\b/\∀(x:Unit),True->k/\True/\a/\c/\b/\∀(x:v),letI q:=List.length x;x=p->k/\Nat.le (q+1) 70368744177664/\a/\gd (Nat.beq q q) (c/\b/\(∃(r:v),x=x++r)/\∀(x_1:v),letI m:=List.length x_1;x_1=x++p->k/\(TD.Ok T/\fits 335007448990 x_1)/\gd (Nat.beq m m) (c/\b/\(∃(r:v),x_1=x_1++r)/\∀(x:v),letI s:=List.length x;x=x_1++rowsF T T.R->k/\Nat.le (s+1) 70368744177664/\a/\gd (Nat.beq s s) (c/\b/\(∃(r:v),x=x++r)/\∀(x_2:v),letI n:=List.length x_2;x_2=x++p->k/\Nat.le (n+1) 70368744177664/\a/\gd (Nat.beq n n) (c/\b/\(∃(r:v),x_2=x_2++r)/\∀(x:v),x=x_2++p->∃(x_3:By),x_3=fbF T/\k/\True/\(h/\(((((h/\t)/\t)/\t)/\t)/\True)/\True)/\g=g/\gd (Nat.beq (List.length x) (List.length x_3)) (c/\b/\(∃(r:v),x=x_3++r)/\True)))))
theorem v_9(T:TD):TabOk Tryz.prog (yTU T):=by
 refine⟨fun f s h=>?_,fun f s h=>?_⟩
 ·unfold yTU at h
  simp only at h
  split at h
  ·cases h;exact a_d d_8 (h_q T).1
  ·cases h;exact a_d q_T (D_i T).1
  ·cases h;exact a_d e_a (D_Z T).1
  ·cases h;exact c_X (a_d q_Z (D_2 T).1) (a_d q_Z (D_1 T))
  ·cases h
 ·cases h
theorem I_b(T:TD)(hT:T.Ok/\noT T=true):yTR T:=by
 unfold yTR
 have ok:=hT.1
 have cl:=d_Z ok T.R
 have cr:T.R*25769803768<=13*25769803768:=Nat.mul_le_mul_right _ ok.r2
 have ff:fits 335007448990 ([10]++[10]):=aI
 have h3:(T.Ok/\noT T=true):=hT
 simp only[sj3,eq_self,implies_true,forall_eq,b_F,b_P,Nat.le_eq,sj2,a_e,sj0]
 repeat' (first|done|omega|exact trivial|exact rfl|assumption|exact hT|exact⟨[],rfl⟩|exact⟨[],(List.append_nil _).symm⟩|(simp only[fbF,List.length_append,List.length_cons,List.length_nil];done)|(simp only[fbF,List.length_append,List.length_cons,List.length_nil];omega)|(refine⟨[],?_⟩;simp[fbF];done)|intro _|refine And.intro ?_ ?_)
theorem D_3(T:TD):(yTS T).Body Tryz.prog 59/\(yTS T).BodyD Tryz.prog 59:=by
 refine a_c (fn:=Tryz.f59) (b:=a_b Tryz.f59) (LT:=fun _=>[]) a_l (v_9 T) 1000 (fun a ha=>LTok.nil) aa aa ?_
 exact fun a ha=>Ho.of (yTR T) aa (I_b T ha)
end Tk

