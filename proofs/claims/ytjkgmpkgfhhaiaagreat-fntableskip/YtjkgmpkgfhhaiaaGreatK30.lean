/- Lemmas of this claim; the last text says what is proved. -/
import Derived.Test.YtjkgmpkgfhhaiaaGreatK21
import Derived.Test.YtjkgmpkgfhhaiaaGreatK29
set_option linter.all false
set_option maxRecDepth 1000000
namespace Tk
open Go Go.Sx Go.Proofs
open Q
variable [Syms]
def nyDRh (T:TD):Prop:=
 letI m:=true=true;letI k:=domB (TD.wh T true);letI h:=k=k;letI g:=TD.mk T.R T.2 true T.4 T.pad T.keep T.span T.promote T.pres T.10 T.11 T.12 T.13 T.oP T.oK T.oM;letI f:=g.R;letI e:=f+1;letI d:=e+1;letI c:=Nat.blt 1 f;letI b:=e<d;letI a:=∃(j':Unit),True/\d<d/\h/\False;h/\(m/\0<g.C 0)/\∀(x:Unit),True->br c (a\/(∃(j':Unit),m/\b/\h/\br c True False)\/(∃(j':Nat),letI n:=j'+1;(0<j'/\n<=f)/\f-j'<d/\h/\br (Nat.blt n f) (gd (Nat.beq 1 n&&true&&true) False) False)\/False) (a\/(∃(j':Unit),m/\b/\h/\br c False True)\/(∃(j':Nat),(0<j'/\j'+1<=f)/\f-j'<d/\h/\br (Nat.blt (j'+1) f) False False)\/False)
def nyDRf (T:TD):Prop:=
 letI m:=domB (TD.wh T false);letI k:=fun(q:Nat)=>AVal.sp (SId.mk 4 q 0) 0;letI h:=m=m;letI g:=TD.mk T.R T.2 false T.4 T.pad T.keep T.span T.promote T.pres T.10 T.11 T.12 T.13 T.oP T.oK T.oM;letI f:=g.R;letI e:=f+1;letI d:=e+1;letI c:=Nat.blt 1 f;letI b:=∃(j':Unit),True/\d<d/\h/\False;letI a:=∃(j':Unit),false=true/\e<d/\h/\br c False False;h/\Nat.le 1 (g.C 0)/\∀(x:Unit),True->br c (b\/a\/(∃(j':Nat),(0<j'/\j'<=f)/\f-j'<d/\h/\br (Nat.blt j' f) (gd (Nat.beq 1 j'&&true&&true) (gd (Nat.beq 1 j') (j'<=1/\SubF k k j' []/\True))) False)\/False) (b\/a\/(∃(j':Nat),(0<j'/\j'<=f)/\f-j'<d/\h/\br (Nat.blt j' f) False (gd (Nat.beq 1 j') (j'<=1/\SubF k k j' []/\True)))\/False)
def nyDRA (T:TD):Prop:=
 letI k:=domB (TD.wh T true);letI h:=k=k;letI g:=fun(q:Nat)=>AVal.sp (SId.mk 4 (q+1) 0) 0;letI f:=TD.mk T.R T.2 true T.4 T.pad T.keep T.span T.promote T.pres T.10 T.11 T.12 T.13 T.oP T.oK T.oM;letI e:=f.R;letI d:=e+1;letI c:=Nat.blt 1 e;letI b:=∃(j':Unit),True/\d+1<d/\h/\False;letI a:=∃(j':Unit),true=true/\d<d/\h/\br c False False;br c (h/\Nat.le 1 (f.C 1)/\∀(x:Unit),True->br (Nat.blt 2 e) (b\/a\/(∃(j':Nat),letI m:=j'+1;(0<j'/\m<=e)/\e-j'<d/\h/\br (Nat.blt m e) (gd (Nat.beq 2 m&&true&&true) (gd (Nat.beq 1 j') (j'<=1/\SubF g g j' []/\True))) False)\/False) (b\/a\/(∃(j':Nat),(0<j'/\j'+1<=e)/\e-j'<d/\h/\br (Nat.blt (j'+1) e) False (gd (Nat.beq 1 j') (j'<=1/\SubF g g j' []/\True)))\/False)) ((∃(x:Unit),True/\h/\e-1=0/\True)\/False)
def nyDRBh (T:TD) (c:Nat):Prop:=
 letI r:=c+1;letI n:=domB (TD.wh T true);letI m:=n=n;letI k:=fun(q:Nat)=>AVal.sp (SId.mk 4 (q+1) 0) 0;letI h:=TD.mk T.R T.2 true T.4 T.pad T.keep T.span T.promote T.pres T.10 T.11 T.12 T.13 T.oP T.oK T.oM;letI g:=h.R;letI e:=g+1;letI f:=g-c;letI d:=SubF k k c [];letI b:=∃(j':Unit),True/\e+1<f/\m/\False;letI a:=∃(j':Unit),true=true/\e<f/\m/\br (Nat.blt 1 g) False False;br (Nat.blt r g) (m/\(0<c/\c<=13/\0<h.C r)/\gd (Nat.beq r r&&true&&true) (gd (Nat.beq c c) (c<=c/\d/\∀(x:Nat),x=r->br (Nat.blt (r+1) g) (b\/a\/(∃(j':Nat),letI p:=j'+1;(0<j'/\p<=g)/\g-j'<f/\m/\br (Nat.blt p g) (gd (Nat.beq (r+1) p&&true&&true) (gd (Nat.beq x j') (j'<=x/\SubF k k j' []/\True))) False)\/False) (b\/a\/(∃(j':Nat),(0<j'/\j'+1<=g)/\g-j'<f/\m/\br (Nat.blt (j'+1) g) False (gd (Nat.beq x j') (j'<=x/\SubF k k j' []/\True)))\/False)))) ((∃(x:Unit),True/\m/\c=g-1/\c=c/\d/\True)\/False)
def nyDRBf (T:TD) (c:Nat):Prop:=
 letI r:=c+1;letI p:=domB (TD.wh T false);letI n:=fun(q:Nat)=>AVal.sp (SId.mk 4 q 0) 0;letI m:=p=p;letI k:=TD.mk T.R T.2 false T.4 T.pad T.keep T.span T.promote T.pres T.10 T.11 T.12 T.13 T.oP T.oK T.oM;letI h:=SubF n n c [];letI g:=k.R;letI e:=g+1;letI f:=g-c;letI d:=Nat.blt 1 g;letI b:=e<f;letI a:=∃(j':Unit),True/\e+1<f/\m/\False;br (Nat.blt c g) (m/\(0<c/\c<=13/\0<k.C c)/\gd (Nat.beq c c&&true&&true) (gd (Nat.beq c c) (c<=c/\h/\∀(x:Nat),x=r->br (Nat.blt r g) (a\/(∃(j':Unit),false=true/\b/\m/\br d (gd (Nat.beq r 1&&true&&true) False) False)\/(∃(j':Nat),(0<j'/\j'<=g)/\g-j'<f/\m/\br (Nat.blt j' g) (gd (Nat.beq r j'&&true&&true) (gd (Nat.beq x j') (j'<=x/\SubF n n j' []/\True))) False)\/False) (a\/(∃(j':Unit),false=true/\b/\m/\br d False False)\/(∃(j':Nat),(0<j'/\j'<=g)/\g-j'<f/\m/\br (Nat.blt j' g) False (gd (Nat.beq x j') (j'<=x/\SubF n n j' []/\True)))\/False)))) ((∃(x:Unit),True/\m/\c=g-0/\c=c/\h/\True)\/False)
def nyR (T:TD):Prop:=
 letI d:=T.R-hN T;letI c:=domB T=domB T;letI a:=fun(q:Nat)=>AVal.sp (SId.mk 4 (q+hN T) 0) 0;True/\(c/\br T.hd (br T.hd True False) (br T.hd False True))/\∀(x:Unit),True->∃(x:Unit),True/\c/\True/\(∀(i:Nat),letI b:=AVal.sp (SId.mk 4 (i+hN T) 0) 0;i<d->SubA 0 b b)/\d=d/\SubF a a d []/\True
theorem nyU_ok (T:TD):TabOk Tryz.prog (nyU T):=by
 refine⟨fun f s h=>?_,fun f s h=>?_⟩
 ·unfold nyU at h
  simp only at h
  split at h
  ·cases h;exact orS_ok (genS_ok nt_fok (nu_ok T).1) (orS_ok (genS_ok nt_fok (nv_ok T).1) (orS_ok (genS_ok nt_fok (nw_ok T).1) (genS_ok nt_fok (nt_ok T).1)))
  ·cases h
 ·cases h
theorem nyD_rh (T:TD) (hT:TD.Ok (T.wh true)):nyDRh T:=by
 unfold nyDRh
 have hr:=hT.r
 have hr2:=hT.r2
 have hc:=hT.c
 simp only[TD.wh,hN,cond_true,cond_false,br_iff,gd_iff,Bool.and_eq_true,sj5,leB_iff,leB_iff',sj3,sj7,and_false,exists_false,false_or,or_false]
 try simp only[TD.wh] at hr hr2 hc
 repeat' (first|omega|exact fun _ _ _=>pinA|exact hc _ (by omega)|exact Or.inl ⟨by omega,fun h=>by omega⟩|(right;refine⟨1,⟨by omega,by omega⟩,by omega,?_⟩)|(right;refine⟨c+1,⟨by omega,by omega⟩,by omega,?_⟩)|intro _|refine And.intro ?_ ?_)
theorem nyD_rf (T:TD) (hT:TD.Ok (T.wh false)):nyDRf T:=by
 unfold nyDRf
 have hr:=hT.r
 have hr2:=hT.r2
 have hc:=hT.c
 simp only[TD.wh,hN,cond_true,cond_false,br_iff,gd_iff,Bool.and_eq_true,sj5,leB_iff,leB_iff',sj3,sj7,and_false,exists_false,false_or,or_false]
 try simp only[TD.wh] at hr hr2 hc
 repeat' (first|omega|exact fun _ _ _=>pinA|exact hc _ (by omega)|exact Or.inl ⟨by omega,fun h=>by omega⟩|(right;refine⟨1,⟨by omega,by omega⟩,by omega,?_⟩)|(right;refine⟨c+1,⟨by omega,by omega⟩,by omega,?_⟩)|intro _|refine And.intro ?_ ?_)
theorem nyD_rA (T:TD) (hT:TD.Ok (T.wh true)):nyDRA T:=by
 unfold nyDRA
 have hr:=hT.r
 have hr2:=hT.r2
 have hc:=hT.c
 simp only[TD.wh,hN,cond_true,cond_false,br_iff,gd_iff,Bool.and_eq_true,sj5,leB_iff,leB_iff',sj3,sj7,and_false,exists_false,false_or,or_false]
 try simp only[TD.wh] at hr hr2 hc
 repeat' (first|omega|exact fun _ _ _=>pinA|exact hc _ (by omega)|exact Or.inl ⟨by omega,fun h=>by omega⟩|(right;refine⟨1,⟨by omega,by omega⟩,by omega,?_⟩)|(right;refine⟨c+1,⟨by omega,by omega⟩,by omega,?_⟩)|intro _|refine And.intro ?_ ?_)
theorem nyD_rBh (T:TD) (c:Nat) (hT:TD.Ok (T.wh true)) (h:0<c/\c+1<=T.R):nyDRBh T c:=by
 unfold nyDRBh
 have hr:=hT.r
 have hr2:=hT.r2
 have hc:=hT.c
 simp only[TD.wh,hN,cond_true,cond_false,br_iff,gd_iff,Bool.and_eq_true,sj5,leB_iff,leB_iff',sj3,sj7,and_false,exists_false,false_or,or_false]
 try simp only[TD.wh] at hr hr2 hc
 repeat' (first|omega|exact fun _ _ _=>pinA|exact hc _ (by omega)|exact Or.inl ⟨by omega,fun h=>by omega⟩|(right;refine⟨1,⟨by omega,by omega⟩,by omega,?_⟩)|(right;refine⟨c+1,⟨by omega,by omega⟩,by omega,?_⟩)|intro _|refine And.intro ?_ ?_)
theorem nyD_rBf (T:TD) (c:Nat) (hT:TD.Ok (T.wh false)) (h:0<c/\c<=T.R):nyDRBf T c:=by
 unfold nyDRBf
 have hr:=hT.r
 have hr2:=hT.r2
 have hc:=hT.c
 simp only[TD.wh,hN,cond_true,cond_false,br_iff,gd_iff,Bool.and_eq_true,sj5,leB_iff,leB_iff',sj3,sj7,and_false,exists_false,false_or,or_false]
 try simp only[TD.wh] at hr hr2 hc
 repeat' (first|omega|exact fun _ _ _=>pinA|exact hc _ (by omega)|exact Or.inl ⟨by omega,fun h=>by omega⟩|(right;refine⟨1,⟨by omega,by omega⟩,by omega,?_⟩)|(right;refine⟨c+1,⟨by omega,by omega⟩,by omega,?_⟩)|intro _|refine And.intro ?_ ?_)
theorem nyD_b (T:TD) (hT:T.Ok):(nyD T).Bodyn (nyDL T) Tryz.prog (sub (bodyOf Tryz.f428) [0,0,1,1,1]):=by
 refine List.forall_mem_cons.2 ⟨bodynH (root:=(bodyOf Tryz.f428)) [0,0,1,1,1] ftOk (nyU_ok T) (LTok.nil) 1000 ?_,List.forall_mem_cons.2 ⟨bodynH (root:=(bodyOf Tryz.f428)) [0,0,1,1,1] ftOk (nyU_ok T) (LTok.nil) 1000 ?_,List.forall_mem_cons.2 ⟨bodynH (root:=(bodyOf Tryz.f428)) [0,0,1,1,1] ftOk (nyU_ok T) (LTok.nil) 1000 ?_,fun _ h=>absurd h List.not_mem_nil⟩⟩⟩
 ·exact fun j hj=>by
   cases hh:T.hd with
   |true=>
    obtain⟨T',rfl⟩:∃T':TD,T=T'.wh true:=⟨T,by cases T;simp only[TD.wh] at hh⊢;rw[hh]⟩
    exact Ho.of (nyDRh T') (by kernel_rfl) (nyD_rh T' hT)
   |false=>
    obtain⟨T',rfl⟩:∃T':TD,T=T'.wh false:=⟨T,by cases T;simp only[TD.wh] at hh⊢;rw[hh]⟩
    exact Ho.of (nyDRf T') (by kernel_rfl) (nyD_rf T' hT)
 ·intro j hj
  obtain⟨T',rfl⟩:∃T':TD,T=T'.wh true:=⟨T,by cases T;have hj:_=true:=hj;simp only[TD.wh];simp only at hj;rw[hj]⟩
  exact Ho.of (nyDRA T') (by kernel_rfl) (nyD_rA T' hT)
 ·exact fun j hj=>by
   cases hh:T.hd with
   |true=>
    obtain⟨T',rfl⟩:∃T':TD,T=T'.wh true:=⟨T,by cases T;simp only[TD.wh] at hh⊢;rw[hh]⟩
    exact Ho.of (nyDRBh T' j) (by kernel_rfl) (nyD_rBh T' j hT hj)
   |false=>
    obtain⟨T',rfl⟩:∃T':TD,T=T'.wh false:=⟨T,by cases T;simp only[TD.wh] at hh⊢;rw[hh]⟩
    exact Ho.of (nyDRBf T' j) (by kernel_rfl) (nyD_rBf T' j hT hj)
theorem ny_r (T:TD) (hT:T.Ok):nyR T:=by
 unfold nyR
 try simp only[br_iff,gd_iff,Bool.and_eq_true,sj5,leB_iff,leB_iff',sj3,sj7]
 repeat' (first|done|omega|exact rfl|exact trivial|exact pinA|exact fun _ _=>pinA|exact fun _ _ _=>pinA|(exfalso;simp_all;done)|intro _|refine⟨?_,?_⟩)
theorem ny_ok (T:TD):(nyS T).Body Tryz.prog 428/\(nyS T).BodyD Tryz.prog 428:=by
 refine genS_body (fn:=Tryz.f428) (b:=(bodyOf Tryz.f428)) (LT:=fun _=>[([0,1,1,1],(nyD T).at ())]) ftOk (nyU_ok T) 1000 (fun _ ha=>LTok.cons (fun fr H K hk=>LoopD.okn (nyD_b T ha) hk) (LTok.nil)) (by kernel_rfl) (by kernel_rfl) ?_
 exact fun a ha=>Ho.of (nyR T) (by kernel_rfl) (ny_r T ha)
def nzR (T:TD):Prop:=
 letI e:=T.R-hN T;letI d:=domB T=domB T;letI b:=fun(q:Nat)=>AVal.sp (SId.mk 4 (q+hN T) 0) 0;letI a:=∀(x:Unit),True->∃(x:Unit),True/\d/\True/\(∀(i:Nat),letI c:=AVal.sp (SId.mk 4 (i+hN T) 0) 0;i<e->SubA 0 c c)/\e=e/\SubF b b e []/\True;d/\TD.Ok T/\br T.hd (br T.hd a False) (br T.hd False a)
theorem nzU_ok (T:TD):TabOk Tryz.prog (nzU T):=by
 refine⟨fun f s h=>?_,fun f s h=>?_⟩
 ·unfold nzU at h
  simp only at h
  split at h
  ·cases h;exact genS_ok nt_fok (ny_ok T).1
  ·cases h
 ·cases h
theorem nz_r (T:TD) (hT:T.Ok):nzR T:=by
 unfold nzR
 try simp only[br_iff,gd_iff,Bool.and_eq_true,sj5,leB_iff,leB_iff',sj3,sj7]
 repeat' (first|done|omega|exact rfl|exact trivial|assumption|exact pinA|exact fun _ _=>pinA|exact fun _ _ _=>pinA|(exfalso;simp_all;done)|intro _|refine⟨?_,?_⟩)
theorem nz_ok (T:TD):(nzS T).Body Tryz.prog 428/\(nzS T).BodyD Tryz.prog 428:=by
 refine genS_body (fn:=Tryz.f428) (b:=(bodyOf Tryz.f428)) (LT:=fun _=>[]) ftOk (nzU_ok T) 1000 (fun _ ha=>LTok.nil) (by kernel_rfl) (by kernel_rfl) ?_
 exact fun a ha=>Ho.of (nzR T) (by kernel_rfl) (nz_r T ha)
def nrRh (T:TD):Prop:=
 letI f:=domB (TD.wh T true);letI d:=f=f;letI c:=fun(q:Nat)=>AVal.sp (SId.mk 4 (q+1) 0) 0;letI b:=TD.mk T.R T.2 true T.4 T.pad T.keep T.span T.promote T.pres T.10 T.11 T.12 T.13 T.oP T.oK T.oM;letI a:=b.R-1;d/\TD.Ok b/\∀(x:Unit),True->∃(x:Unit),True/\d/\(∀(i:Nat),letI e:=AVal.sp (SId.mk 4 (i+1) 0) 0;i<a->SubA 0 e e)/\True/\a=a/\SubF c c a []/\True
def nrRf (T:TD):Prop:=
 letI f:=domB (TD.wh T false);letI d:=fun(q:Nat)=>AVal.sp (SId.mk 4 q 0) 0;letI c:=f=f;letI b:=TD.mk T.R T.2 false T.4 T.pad T.keep T.span T.promote T.pres T.10 T.11 T.12 T.13 T.oP T.oK T.oM;letI a:=b.R-0;c/\TD.Ok b/\∀(x:Unit),True->∃(x:Unit),True/\c/\(∀(i:Nat),letI e:=AVal.sp (SId.mk 4 i 0) 0;i<a->SubA 0 e e)/\True/\a=a/\SubF d d a []/\True
theorem nrU_ok (T:TD):TabOk Tryz.prog (nrU T):=by
 refine⟨fun f s h=>?_,fun f s h=>?_⟩
 ·unfold nrU at h
  simp only at h
  split at h
  ·cases h;exact genS_ok nt_fok (nz_ok T).1
  ·cases h
 ·cases h
theorem nr_rh (T:TD) (hT:TD.Ok (T.wh true)):nrRh T:=by
 unfold nrRh
 exact⟨rfl,hT,fun _ _=>⟨(),trivial,rfl,fun _ _=>pinA,trivial,rfl,fun _ _ _=>pinA,trivial⟩⟩
theorem nr_rf (T:TD) (hT:TD.Ok (T.wh false)):nrRf T:=by
 unfold nrRf
 exact⟨rfl,hT,fun _ _=>⟨(),trivial,rfl,fun _ _=>pinA,trivial,rfl,fun _ _ _=>pinA,trivial⟩⟩
theorem nr_fok:FunOk Tryz.prog 414:=⟨Tryz.f414,by kernel_rfl,rfl,by kernel_rfl⟩
theorem nr_ok (T:TD):(nrS T).Body Tryz.prog 414/\(nrS T).BodyD Tryz.prog 414:=by
 refine genS_body (fn:=Tryz.f414) (b:=(bodyOf Tryz.f414)) (LT:=fun _=>[]) ftOk (nrU_ok T) 1000 (fun _ ha=>LTok.nil) (by kernel_rfl) (by kernel_rfl) ?_
 intro a ha
 cases hh:T.hd with
 |true=>
  obtain⟨T',rfl⟩:∃T':TD,T=T'.wh true:=⟨T,by cases T;simp only[TD.wh] at hh⊢;rw[hh]⟩
  exact Ho.of (nrRh T') (by kernel_rfl) (nr_rh T' ha)
 |false=>
  obtain⟨T',rfl⟩:∃T':TD,T=T'.wh false:=⟨T,by cases T;simp only[TD.wh] at hh⊢;rw[hh]⟩
  exact Ho.of (nrRf T') (by kernel_rfl) (nr_rf T' ha)
def faDR (T:TD) (i:Nat):Prop:=
 letI t:=T.C i;letI r:=2*t;letI q:=Nat.beq i i;letI p:=domB T=domB T;letI n:=r<r;letI m:=p/\False;letI k:=q&&true&&true;letI h:=gd k True;letI g:=∃(j':Unit),True/\n/\m;letI f:=(∃(j':Unit),True/\0<r/\m)\/False;letI e:=∃(j':Nat),(0<j'/\j'<t)/\2*(t-j')<r/\m;letI d:=∃(j':Nat),Nat.le (j'+1) t/\2*(t-j')-1<r/\m;letI c:=d\/f;letI b:=g\/e\/d\/(∃(j':Unit),True/\0<r/\p/\gd (Nat.beq 1 t) (gd k (t=1/\h)))\/False;letI a:=br (TD.hasT T i 0) (g\/e\/(∃(j':Nat),letI s:=j'+1;Nat.le s t/\2*(t-j')-1<r/\p/\gd (q&&Nat.beq 0 j'&&true) (gd (Nat.beq 1 s) (gd k (s=1/\h))))\/f) (br (Nat.blt (0+1) t) ((∃(j':Unit),True/\n/\p/\gd (q&&false&&true) False)\/(∃(j':Nat),(0<j'/\j'<t)/\2*(t-j')<r/\p/\gd (q&&Nat.beq 1 j'&&true) (gd (Nat.beq 1 j') (gd k (j'=1/\h))))\/c) (br k b (br (Nat.blt (i+1) T.R) (g\/e\/c) b)));br (Nat.beq i 0&&T.hd) a a
def faDRA (T:TD) (i:Nat) (j:Nat):Prop:=
 letI y:=j+1;letI z:=T.C i;letI v:=Nat.beq i i;letI t:=2*(z-j);letI u:=domB T=domB T;letI r:=0<t;letI p:=u/\False;letI m:=2*z<t;letI n:=v&&true&&true;letI k:=fun(q:Nat)=>AVal.sp (SId.mk 5 i q) 0;letI h:=∃(j':Unit),True/\m/\p;letI g:=(∃(j':Unit),True/\r/\p)\/False;letI f:=∃(j':Nat),(0<j'/\j'<z)/\2*(z-j')<t/\p;letI e:=∃(j':Nat),Nat.le (j'+1) z/\2*(z-j')-1<t/\p;letI d:=SubF k k j []/\gd (v&&Nat.beq j j&&true) True;letI c:=e\/g;letI b:=h\/f\/e\/(∃(j':Unit),True/\r/\u/\gd (Nat.beq y z) (gd n (z=y/\d)))\/False;letI a:=gd (Nat.beq j j&&(Nat.ble (0+j+1+j+1+j+1+j+1+j+1+j+1+j+1+j+1) 140737488355328&&(Nat.ble y 140737488355328&&true))) (br (TD.hasT T i j) (h\/f\/(∃(j':Nat),letI w:=j'+1;Nat.le w z/\2*(z-j')-1<t/\u/\gd (v&&Nat.beq j j'&&true) (gd (Nat.beq y w) (gd n (w=y/\d))))\/g) (br (Nat.blt y z) ((∃(j':Unit),True/\m/\u/\gd (v&&false&&true) False)\/(∃(j':Nat),letI s:=Nat.beq y j';(0<j'/\j'<z)/\2*(z-j')<t/\u/\gd (v&&s&&true) (gd s (gd n (j'=y/\d))))\/c) (br n b (br (Nat.blt (i+1) T.R) (h\/f\/c) b))));br (Nat.beq i 0&&T.hd) a a
def faDRB (T:TD) (i:Nat) (j:Nat):Prop:=
 letI t:=j+1;letI u:=T.C i;letI s:=Nat.beq i i;letI r:=domB T=domB T;letI n:=2*(u-j)-1;letI m:=0<n;letI k:=r/\False;letI h:=s&&true&&true;letI g:=2*u<n;letI f:=fun(q:Nat)=>AVal.sp (SId.mk 5 i q) 0;letI e:=∃(j':Unit),True/\g/\k;letI d:=∃(j':Nat),(0<j'/\j'<u)/\2*(u-j')<n/\k;letI c:=∃(j':Nat),Nat.le (j'+1) u/\2*(u-j')-1<n/\k;letI b:=c\/(∃(j':Unit),True/\m/\k)\/False;letI a:=e\/d\/c\/(∃(j':Unit),True/\m/\r/\gd (Nat.beq t u) (gd h (u<=t/\SubF f f u []/\True)))\/False;br (Nat.blt t u) ((∃(j':Unit),True/\g/\r/\gd (s&&false&&true) False)\/(∃(j':Nat),letI p:=Nat.beq t j';(0<j'/\j'<u)/\2*(u-j')<n/\r/\gd (s&&p&&true) (gd p (gd h (j'<=t/\SubF f f j' []/\True))))\/b) (br h a (br (Nat.blt (i+1) T.R) (e\/d\/b) a))
def faDRZ (T:TD) (i:Nat):Prop:=
 letI b:=T.C i;letI a:=fun(q:Nat)=>AVal.sp (SId.mk 5 i q) 0;(∃(x:Unit),True/\domB T=domB T/\b=b/\b=b+0/\SubF a a b []/\True)\/False
def faR (T:TD) (i:Nat):Prop:=
 letI c:=domB T=domB T;letI a:=Nat.beq i i&&true&&true;True/\(c/\gd a (gd a True))/\∀(x:Unit),True->∃(x:Nat),x=i/\c/\(∀(i:Nat),letI b:=AVal.sp (SId.mk 5 x i) 0;i<T.C x->SubA 0 b b)/\True/\T.C i=T.C x/\SubF (fun(q:Nat)=>AVal.sp (SId.mk 5 i q) 0) (fun(q:Nat)=>AVal.sp (SId.mk 5 x q) 0) (T.C i) []/\True
theorem faD_r (T:TD) (i:Nat) (hd:i<T.R/\0<T.C i/\T.C i<=12):faDR T i:=by
 unfold faDR
 obtain⟨h1,h2,h3⟩:=hd
 simp only[sj2,sj12,exists_eq_right,Nat.add_right_cancel_iff,Nat.lt_irrefl,Bool.and_eq_false_iff,Bool.true_eq_false,or_self,sj1,leB_iff',sj0]
 have sf:∀n,SubF (fun q=>AVal.sp {k:=5,i:=i,j:=q} 0) (fun q=>AVal.sp {k:=5,i:=i,j:=q} 0) n []:=fun n _ _ _=>pinA
 repeat' (first|exact sf _|omega|exact⟨0,by omega,by omega,by omega,by omega,by omega⟩|exact⟨1,by omega,by omega,by omega,by omega,by omega⟩|exact⟨j,by omega,by omega,by omega,by omega,by omega,sf _⟩|exact⟨j+1,by omega,by omega,by omega,by omega,by omega,sf _⟩|intro _|refine And.intro ?_ ?_)
theorem faD_rA (T:TD) (i j:Nat) (hd:i<T.R/\0<T.C i/\T.C i<=12) (h:0<j/\j<T.C i):faDRA T i j:=by
 unfold faDRA
 obtain⟨h1,h2,h3⟩:=hd
 simp only[sj2,sj12,exists_eq_right,Nat.add_right_cancel_iff,Nat.lt_irrefl,Bool.and_eq_false_iff,Bool.true_eq_false,or_self,sj1,leB_iff',sj0]
 have sf:∀n,SubF (fun q=>AVal.sp {k:=5,i:=i,j:=q} 0) (fun q=>AVal.sp {k:=5,i:=i,j:=q} 0) n []:=fun n _ _ _=>pinA
 repeat' (first|exact sf _|omega|exact⟨0,by omega,by omega,by omega,by omega,by omega⟩|exact⟨1,by omega,by omega,by omega,by omega,by omega⟩|exact⟨j,by omega,by omega,by omega,by omega,by omega,sf _⟩|exact⟨j+1,by omega,by omega,by omega,by omega,by omega,sf _⟩|intro _|refine And.intro ?_ ?_)
theorem faD_rB (T:TD) (i j:Nat) (hd:i<T.R/\0<T.C i/\T.C i<=12) (h:j<T.C i):faDRB T i j:=by
 unfold faDRB
 obtain⟨h1,h2,h3⟩:=hd
 simp only[sj2,sj12,exists_eq_right,Nat.add_right_cancel_iff,Nat.lt_irrefl,Bool.and_eq_false_iff,Bool.true_eq_false,or_self,sj1,leB_iff',sj0]
 have sf:∀n,SubF (fun q=>AVal.sp {k:=5,i:=i,j:=q} 0) (fun q=>AVal.sp {k:=5,i:=i,j:=q} 0) n []:=fun n _ _ _=>pinA
 repeat' (first|exact sf _|omega|exact⟨0,by omega,by omega,by omega,by omega,by omega⟩|exact⟨1,by omega,by omega,by omega,by omega,by omega⟩|exact⟨j,by omega,by omega,by omega,by omega,by omega,sf _⟩|exact⟨j+1,by omega,by omega,by omega,by omega,by omega,sf _⟩|intro _|refine And.intro ?_ ?_)
theorem faD_rZ (T:TD) (i:Nat) (hd:i<T.R/\0<T.C i/\T.C i<=12):faDRZ T i:=by
 unfold faDRZ
 obtain⟨h1,h2,h3⟩:=hd
 simp only[sj2,sj12,exists_eq_right,Nat.add_right_cancel_iff,Nat.lt_irrefl,Bool.and_eq_false_iff,Bool.true_eq_false,or_self,sj1,leB_iff',sj0]
 have sf:∀n,SubF (fun q=>AVal.sp {k:=5,i:=i,j:=q} 0) (fun q=>AVal.sp {k:=5,i:=i,j:=q} 0) n []:=fun n _ _ _=>pinA
 repeat' (first|exact sf _|omega|exact⟨0,by omega,by omega,by omega,by omega,by omega⟩|exact⟨1,by omega,by omega,by omega,by omega,by omega⟩|exact⟨j,by omega,by omega,by omega,by omega,by omega,sf _⟩|exact⟨j+1,by omega,by omega,by omega,by omega,by omega,sf _⟩|intro _|refine And.intro ?_ ?_)
theorem faD_b (T:TD) (i:Nat) (hd:i<T.R/\0<T.C i/\T.C i<=12):(faD T i).Bodyn (faDL T i) Tryz.prog (sub (bodyOf Tryz.f435) [0,0,0,1,1,1]):=by
 refine List.forall_mem_cons.2 ⟨bodynH (root:=(bodyOf Tryz.f435)) [0,0,0,1,1,1] ftOk (nofOk) (LTok.nil) 1000 ?_,List.forall_mem_cons.2 ⟨bodynH (root:=(bodyOf Tryz.f435)) [0,0,0,1,1,1] ftOk (nofOk) (LTok.nil) 1000 ?_,List.forall_mem_cons.2 ⟨bodynH (root:=(bodyOf Tryz.f435)) [0,0,0,1,1,1] ftOk (nofOk) (LTok.nil) 1000 ?_,List.forall_mem_cons.2 ⟨bodynH (root:=(bodyOf Tryz.f435)) [0,0,0,1,1,1] ftOk (nofOk) (LTok.nil) 1000 ?_,fun _ h=>absurd h List.not_mem_nil⟩⟩⟩⟩
 ·exact fun j hj=>Ho.of (faDR T i) (by kernel_rfl) (faD_r T i hd)
 ·exact fun j hj=>Ho.of (faDRA T i j) (by kernel_rfl) (faD_rA T i j hd hj)
 ·exact fun j hj=>Ho.of (faDRB T i j) (by kernel_rfl) (faD_rB T i j hd hj)
 ·exact fun j hj=>Ho.of (faDRZ T i) (by kernel_rfl) (faD_rZ T i hd)
theorem fa_r (T:TD) (i:Nat):faR T i:=by
 unfold faR
 simp only[br_iff,gd_iff,Bool.and_eq_true,beqN_iff,and_true,true_and,implies_true,forall_const,exists_eq_left]
 exact⟨fun _ _=>pinA,fun _ _ _=>pinA⟩
theorem fa_fok:FunOk Tryz.prog 435:=⟨Tryz.f435,by kernel_rfl,rfl,by kernel_rfl⟩
theorem fa_ok (T:TD):(faS T).Body Tryz.prog 435/\(faS T).BodyD Tryz.prog 435:=by
 refine genS_body (fn:=Tryz.f435) (b:=(bodyOf Tryz.f435)) (LT:=fun i=>[([0,0,1,1,1],(faD T i).at ())]) ftOk (nofOk) 1000 (fun i ha=>LTok.cons (fun fr H K hk=>LoopD.okn (faD_b T i ha) hk) (LTok.nil)) (by kernel_rfl) (by kernel_rfl) ?_
 exact fun a ha=>Ho.of (faR T a) (by kernel_rfl) (fa_r T a)
def gtR (T:TD):Prop:=
 letI n:=True/\True;letI m:=Value.bool false;letI k:=[(42:UInt8),42];letI h:=[(96:UInt8),96,96];letI g:=[(97:UInt8),116,120];letI e:=Value.int .i64 (Int.ofNat 500);letI f:=[(42:UInt8),32,42,32,42];letI d:=Value.int .i64 (Int.ofNat 1000);letI c:=[(114:UInt8),101,110,100,101,114];letI b:=[(105:UInt8),110,108,105,110,101,100];letI a:=c=c;∃(x:Unit),True/\domB T=domB T/\True/\(n/\True/\((True/\True/\True/\True/\True/\True/\True/\True/\n)/\True)/\True)/\2=2/\e=e/\[(42:UInt8)]=[(42:UInt8)]/\k=k/\f=f/\[(45:UInt8)]=[(45:UInt8)]/\m=m/\h=h/\g=g/\b=b/\a/\a/\d=d/\True
theorem gt_r (T:TD):gtR T:=by
 unfold gtR
 try simp only[br_iff,gd_iff,Bool.and_eq_true,sj5,leB_iff,leB_iff',sj3,sj7]
 repeat' (first|done|omega|exact rfl|exact trivial|assumption|exact()|intro _|refine⟨?_,?_⟩)
theorem gt_fok:FunOk Tryz.prog 79:=⟨Tryz.f79,by kernel_rfl,rfl,by kernel_rfl⟩
theorem gt_ok (T:TD):(gtS T).Body Tryz.prog 79/\(gtS T).BodyD Tryz.prog 79:=by
 refine genS_body (fn:=Tryz.f79) (b:=(bodyOf Tryz.f79)) (LT:=fun _=>[]) ftOk (sortU_ok) 1000 (fun a ha=>LTok.nil) (by kernel_rfl) (by kernel_rfl) ?_
 exact fun a ha=>Ho.of (gtR T) (by kernel_rfl) (gt_r T)
def zeDR (T:TD) (l:By) (i:Nat):Prop:=
 letI t:=i+1;letI s:=List UInt8;letI p:=List.length l;letI q:=List.take i l;letI n:=domB T=domB T;letI k:=t+1+1+1;letI m:=p-i;letI g:=List.length q;letI h:=List.take i q;letI e:=UInt8.toNat (List.getD l i (0:UInt8));letI f:=Nat.ble i g;letI d:=decide (Int.ofNat i<Int.ofNat p);letI c:=Int.ofNat e;letI b:=Value.int .i64 (IntKind.wrap .i64 (Int.ofNat t));letI a:=f&&(Nat.ble k 140737488355328&&true);br d (gd d (br (c==Int.ofNat 60) (gd a (∃(j':Nat),Nat.le j' p/\p-j'<m/\n/\l=l/\gd (Nat.beq k j') (b=Value.int .i64 (Int.ofNat j')/\(∃(r:s),h++[(38:UInt8),108,116,59]=List.take j' l++r)/\True))) (br (c==Int.ofNat 62) (gd a (∃(j':Nat),Nat.le j' p/\p-j'<m/\n/\l=l/\gd (Nat.beq k j') (b=Value.int .i64 (Int.ofNat j')/\(∃(r:s),h++[(38:UInt8),103,116,59]=List.take j' l++r)/\True))) (gd d (gd (decide (c<Int.ofNat 256)&&true&&true) (gd (f&&(Nat.ble t 140737488355328&&true)) (∃(j':Nat),Nat.le j' p/\p-j'<m/\n/\l=l/\gd (Nat.beq t j') (b=Value.int .i64 (Int.ofNat j')/\(∃(r:s),h++[UInt8.ofNat e]=List.take j' l++r)/\True)))))))) (∃(x:Unit),True/\n/\0+i<=g/\List.take i (List.drop 0 q)=l/\True)
def zeR (T:TD) (l:By):Prop:=
 letI d:=List.length l;letI c:=domB T=domB T;letI b:=Int.ofNat 281474976710656;letI a:=Value.int .i64 (Int.ofNat 0);gd (decide (Int.ofNat d<=b)&&(decide (Int.ofNat (1*d)<=b)&&true)) (Nat.le 0 d/\(c/\l=l/\gd (Nat.blt d 9223372036854775808) (a=a/\(∃(r:List UInt8),[]=r)/\d*1<=d/\True))/\∀(x:Unit),True->∃(x:By),x=l/\c/\True/\True/\l=x/\True)
theorem zeD_r (T:TD) (l:By) (i:Nat) (hd:(∀b∈l,b.toNat≠60/\b.toNat≠62)/\l.length<=bufMax) (hi:i<=l.length):zeDR T l i:=by
 unfold zeDR
 obtain⟨h1,h2⟩:=hd
 simp only[bufMax] at h2
 have ofN:∀c:UInt8,UInt8.ofNat c.toNat=c:=fun c=>by simp
 have e1:i<l.length->IntKind.wrap IntKind.i64 (Int.ofNat (i+1))=Int.ofNat (i+1):=fun h=>by rw[wrapI (by simp only[Int.ofNat_eq_natCast];omega) (by simp only[Int.ofNat_eq_natCast];omega)]
 simp only[sj2,intE,intF,ofN,sj1,leB_iff',sj0]
 exact⟨fun g=>⟨g,fun e=>absurd e (h1 _ (getD_mem g)).1,fun _=>⟨fun e=>absurd e (h1 _ (getD_mem g)).2,fun _=>⟨g,(l.getD i 0).toNat_lt,⟨by simp;omega,by omega⟩,i+1,Nat.succ_le_of_lt g,by omega,rfl,congrArg _ (e1 g),[],by rw[List.take_of_length_le (l:=List.take i l) (by simp;omega),List.append_nil,takeS g]⟩⟩⟩,fun g=>⟨by simp;omega,by rw[List.take_of_length_le (l:=List.take i l) (List.length_take_le _ _),List.take_of_length_le (by omega)]⟩⟩
theorem zeD_b (T:TD) (l:By) (hd:(∀b∈l,b.toNat≠60/\b.toNat≠62)/\l.length<=bufMax):(zeD T l).Body Tryz.prog (sub (bodyOf Tryz.f149) [0,0,1,0,1,1]):=by
 refine LoopD.bodyH (root:=(bodyOf Tryz.f149)) [0,0,1,0,1,1] ftOk (nofOk) (LTok.nil) 1000 ?_
 exact fun i hi=>Ho.of (zeDR T l i) (by kernel_rfl) (zeD_r T l i hd hi)
theorem ze_r (T:TD) (l:By) (h2:l.length<=bufMax):zeR T l:=by
 unfold zeR
 simp only[bufMax] at h2
 simp only[sj2,sj1,leB_iff',sj0]
 exact⟨⟨by omega,by omega⟩,Nat.zero_le _,⟨by omega,⟨[],rfl⟩,by omega⟩,fun _ _=>trivial⟩
theorem ze_fok:FunOk Tryz.prog 149:=⟨Tryz.f149,by kernel_rfl,rfl,by kernel_rfl⟩
theorem ze_ok (T:TD):(zeS T).Body Tryz.prog 149/\(zeS T).BodyD Tryz.prog 149:=by
 refine genS_body (fn:=Tryz.f149) (b:=(bodyOf Tryz.f149)) (LT:=fun l=>[([0,1,0,1,1],(zeD T l).at (0:Nat))]) ftOk (nofOk) 1000 (fun l ha=>LTok.cons (fun fr H K hk=>LoopD.ok (zeD_b T l ha) hk) (LTok.nil)) (by kernel_rfl) (by kernel_rfl) ?_
 exact fun a ha=>Ho.of (zeR T a) (by kernel_rfl) (ze_r T a ha.2)
def drR (T:TD) (l:By) (b:UInt8):Prop:=
 letI e:=List.length l;letI d:=Value.int .i64 (Int.ofNat 1);letI c:=decide (Int.ofNat 0<Int.ofNat e);letI a:=Int.ofNat (UInt8.toNat (List.getD l 0 (0:UInt8)));br c (gd c (gd (Nat.blt 0 e) (br (decide (a<Int.ofNat 128)) (∃(x:UInt8),x=b/\domB T=domB T/\(True/\True)/\True/\Value.int IntKind.i32 (IntKind.wrap IntKind.i32 a)=Value.int IntKind.i32 (Int.ofNat (UInt8.toNat x))/\d=d/\True) False))) False
theorem drU_ok (T:TD):TabOk Tryz.prog (drU T):=by
 refine⟨fun f s h=>?_,fun f s h=>?_⟩
 ·unfold drU at h
  simp only at h
  split at h
  ·cases h;exact noS_ok
  ·cases h
 ·cases h
theorem dr_r (T:TD) (l:By) (b:UInt8) (h:0<l.length/\b=l.getD 0 0/\b.toNat<128/\l.length<=bufMax):drR T l b:=by
 unfold drR
 obtain⟨h1,rfl,h3,h4⟩:=h
 simp only[sj2,sj1,leB_iff',sj0]
 exact⟨fun _=>⟨h1,h1,fun _=>congrArg _ (wrap32 (by omega) (by omega)),fun h=>h h3⟩,fun h=>h h1⟩
theorem dr_fok:FunOk Tryz.prog 163:=⟨Tryz.f163,by kernel_rfl,rfl,by kernel_rfl⟩
theorem dr_ok (T:TD):(drS T).Body Tryz.prog 163/\(drS T).BodyD Tryz.prog 163:=by
 refine genS_body (fn:=Tryz.f163) (b:=(bodyOf Tryz.f163)) (LT:=fun _=>[]) ftOk (drU_ok T) 1000 (fun a ha=>LTok.nil) (by kernel_rfl) (by kernel_rfl) ?_
 exact fun a ha=>Ho.of (drR T a.1 a.2) (by kernel_rfl) (dr_r T a.1 a.2 ha)
end Tk
