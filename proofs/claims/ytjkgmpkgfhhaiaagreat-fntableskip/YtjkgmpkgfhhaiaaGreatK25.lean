/- Lemmas of this claim; the last text says what is proved. -/
import Derived.Test.YtjkgmpkgfhhaiaaGreatK20
set_option linter.all false
set_option maxRecDepth 1000000
namespace Tk
open Go Go.Sx Go.Proofs
variable [Syms]
def anR0 (T:TD) (i:Nat) (j:Nat):Prop:=
 letI u:=ixD T i j;letI t:=u+1;letI r:=ixD T i (j+1);letI s:=domB T=domB T;letI n:=0+u+1;letI p:=t+1;letI q:=nfn T u;letI m:=List (Nat×AVal);letI f:=nfn T (Nat.succ u);letI e:=([]:List AVal)=([]:List AVal);letI d:=fun(k:Nat)=>AVal.sp (nfn T k) 0;letI c:=([]:m)=([]:m);letI b:=SubF d d u [];letI a:=Nat.beq 5 q.1&&(Nat.beq i q.2&&Nat.beq j q.3)&&true;gd (Nat.beq u (u+0)&&(Nat.ble (n+u+1+u+1+u+1+u+1+u+1+u+1+u+1) 140737488355328&&(Nat.ble t 140737488355328&&true))) (br (TD.hasT T i j) (gd (Nat.beq t t&&(Nat.ble (n+1+u+1+1+u+1+1+u+1+1+u+1+1+u+1+1+u+1+1+u+1+1) 140737488355328&&(Nat.ble p 140737488355328&&true))) (∃(x:Nat),x=r/\s/\True/\(True/\c/\e/\∀(i:Nat),letI g:=AVal.sp (nfn T i) 0;i<x->SubA 0 g g)/\gd (Nat.beq p x) (x=p/\b/\gd a (gd (Nat.beq 6 f.1&&(Nat.beq i f.2&&Nat.beq j f.3)&&true) True)))) (∃(x:Nat),x=r/\s/\True/\(True/\c/\e/\∀(i:Nat),letI h:=AVal.sp (nfn T i) 0;i<x->SubA 0 h h)/\gd (Nat.beq t x) (x=t/\b/\gd a True)))
def anR1 (T:TD) (i:Nat) (k:Nat):Prop:=
 letI g:=T.C i;letI h:=k+1;letI f:=ixD T i k;letI b:=domB T=domB T;letI c:=ixD T i g;letI a:=fun(k:Nat)=>AVal.sp (nfn T k) 0;br (Nat.blt k g) (b/\(i<T.R/\k<g/\TD.Ok T)/\gd (Nat.beq i i&&Nat.beq k k&&true) (gd (Nat.beq f f) (f<=f/\SubF a a f []/\∀(x:Nat),x=ixD T i h->br (Nat.blt h g) (∃(j':Nat),letI d:=ixD T i j';Nat.le j' g/\g-j'<g-k/\b/\br (Nat.blt j' g) (gd (Nat.beq i i&&Nat.beq h j'&&true) (gd (Nat.beq x d) (d<=x/\SubF a a d []/\True))) False) (∃(j':Nat),letI e:=ixD T i j';Nat.le j' g/\g-j'<g-k/\b/\br (Nat.blt j' g) False (gd (Nat.beq x e) (e<=x/\SubF a a e []/\True)))))) (∃(x:Unit),True/\b/\gd (Nat.beq f c) (c<=f/\SubF a a c []/\True))
def anR2 (T:TD) (i:Nat):Prop:=
 letI m:=T.C i;letI h:=ixR T i;letI g:=h+1;letI d:=domB T=domB T;letI e:=nfn T h;letI f:=ixD T i m;letI c:=List (Nat×AVal);letI a:=fun(k:Nat)=>AVal.sp (nfn T k) 0;gd (Nat.beq h (h+0)&&(Nat.ble (0+h+1+h+1+h+1+h+1+h+1+h+1+h+1+h+1) 140737488355328&&(Nat.ble g 140737488355328&&true))) (Nat.le 0 m/\(d/\br (Nat.blt 0 m) (gd (Nat.beq i i&&true&&true) (gd (Nat.beq g (ixD T i 0)) (ixD T i 0=g/\SubF a a h []/\gd (Nat.beq 4 e.1&&(Nat.beq i e.2&&Nat.beq 0 e.3)&&true) True))) False)/\∀(x:Unit),True->∃(x:Nat),x=ixR T (i+1)/\d/\True/\(True/\([]:c)=([]:c)/\([]:List AVal)=([]:List AVal)/\∀(i:Nat),letI b:=AVal.sp (nfn T i) 0;i<x->SubA 0 b b)/\gd (Nat.beq f x) (x<=f/\SubF a a x []/\True))
def anR3 (T:TD) (k:Nat):Prop:=
 letI g:=k+1;letI f:=ixR T k;letI c:=ixR T T.R;letI b:=domB T=domB T;letI a:=fun(k:Nat)=>AVal.sp (nfn T k) 0;br (Nat.blt k T.R) (b/\(k<T.R/\TD.Ok T)/\gd (Nat.beq k k&&true&&true) (gd (Nat.beq f f) (f<=f/\SubF a a f []/\∀(x:Nat),x=ixR T g->br (Nat.blt g T.R) (∃(j':Nat),letI d:=ixR T j';Nat.le j' T.R/\T.R-j'<T.R-k/\b/\br (Nat.blt j' T.R) (gd (Nat.beq g j'&&true&&true) (gd (Nat.beq x d) (d<=x/\SubF a a d []/\True))) False) (∃(j':Nat),letI e:=ixR T j';Nat.le j' T.R/\T.R-j'<T.R-k/\b/\br (Nat.blt j' T.R) False (gd (Nat.beq x e) (e<=x/\SubF a a e []/\True)))))) (∃(x:Unit),True/\b/\gd (Nat.beq f c) (c<=f/\SubF a a c []/\True))
def anR4 (T:TD):Prop:=
 letI e:=nfn T 2;letI d:=domB T=domB T;letI c:=List (Nat×AVal);letI a:=fun(k:Nat)=>AVal.sp (nfn T k) 0;Nat.le 0 T.R/\(d/\br (Nat.blt 0 T.R) (gd (Nat.beq 3 (ixR T 0)) (ixR T 0=3/\SubF a a 2 []/\gd (Nat.beq 3 e.1&&(Nat.beq 0 e.2&&Nat.beq 0 e.3)&&true) True)) False)/\∀(x:Unit),True->∃(x:Nat),x=nN T/\d/\True/\(True/\([]:c)=([]:c)/\([]:List AVal)=([]:List AVal)/\∀(i:Nat),letI b:=AVal.sp (nfn T i) 0;i<x->SubA 0 b b)/\gd (Nat.beq (ixR T T.R) x) (x<=ixR T T.R/\SubF a a x []/\True)
def anR5 (T:TD):Prop:=
 letI e:=nfn T 1;letI d:=domB T=domB T;letI c:=List (Nat×AVal);letI a:=fun(k:Nat)=>AVal.sp (nfn T k) 0;d/\TD.Ok T/\2=2/\SubF a a 1 []/\gd (Nat.beq 2 e.1&&(Nat.beq 0 e.2&&Nat.beq 0 e.3)&&true) (∀(x:Nat),x=nN T->∃(x_1:Nat),x_1=nN T/\d/\True/\(True/\([]:c)=([]:c)/\([]:List AVal)=([]:List AVal)/\∀(i:Nat),letI b:=AVal.sp (nfn T i) 0;i<x_1->SubA 0 b b)/\gd (Nat.beq x x_1) (x_1<=x/\SubF a a x_1 []/\True))
def anR6 (T:TD):Prop:=
 letI e:=nfn T 0;letI d:=domB T=domB T;letI c:=List (Nat×AVal);letI a:=fun(k:Nat)=>AVal.sp (nfn T k) 0;d/\TD.Ok T/\1=1/\gd (Nat.beq 1 e.1&&(Nat.beq 0 e.2&&Nat.beq 0 e.3)&&true) (∀(x:Nat),x=nN T->∃(x_1:Nat),x_1=nN T/\d/\True/\(True/\([]:c)=([]:c)/\([]:List AVal)=([]:List AVal)/\∀(i:Nat),letI b:=AVal.sp (nfn T i) 0;i<x_1->SubA 0 b b)/\gd (Nat.beq x x_1) (x_1<=x/\SubF a a x_1 []/\True))
theorem an_r0 (T:TD) (i j:Nat) (h:i<T.R/\j<T.C i/\T.Ok):anR0 T i j:=by
 obtain⟨hi,hj,hT⟩:=h
 have hn:=hT.n
 have h0:=ixD_le (j:=j+1) hi hj
 have h1:=nfn_td hi hj
 have h2:T.hasT i j=true->nfn T (ixD T i j).succ=Tk.tx i j:=nfn_tx hi hj
 unfold anR0
 try simp only[sj6,leB_iff,sj3,sj7]
 cases ht:T.hasT i j with
 |true=>
  have h3:=h2 ht
  have h4:=ixD_t ht
  repeat' (first|done|omega|exact rfl|exact nfA_sub|exact trivial|exact Nat.le_refl _|exact fun _ _=>pinA|(simp[h1,h3,Tk.td,Tk.tx];done)|intro _|refine⟨k+1,?_⟩|refine⟨?_,?_⟩)
 |false=>
  have h3:=h1
  have h4:=ixD_f ht
  repeat' (first|done|omega|exact rfl|exact nfA_sub|exact trivial|exact Nat.le_refl _|exact fun _ _=>pinA|(simp[h1,h3,Tk.td,Tk.tx];done)|intro _|refine⟨k+1,?_⟩|refine⟨?_,?_⟩)
theorem an_r1 (T:TD) (i k:Nat) (hi:i<T.R) (hT:T.Ok) (h:k<=T.C i):anR1 T i k:=by
 unfold anR1
 have hk:T.C i<=k->k=T.C i:=fun _=>by omega
 try simp only[sj6,leB_iff,sj3,sj7]
 repeat' (first|done|omega|exact rfl|exact nfA_sub|exact trivial|exact Nat.le_refl _|exact fun _ _=>pinA|exact hT|(rw[hk (by assumption)])|intro _|refine⟨k+1,?_⟩|refine⟨?_,?_⟩)
theorem an_r2 (T:TD) (i:Nat) (h:i<T.R/\T.Ok):anR2 T i:=by
 obtain⟨hi,hT⟩:=h
 have hn:=hT.n
 have h0:=ixR_le (T:=T) (i:=i+1) (by omega)
 have h5:=ixD_le (j:=0) hi (by omega)
 have h6:=ixD_le (j:=T.C i) hi (by omega)
 have h1:=nfn_tr hi
 have h2:=ixR_s (T:=T) (i:=i)
 have h3:=ixD_0 (T:=T) (i:=i)
 have hc:=hT.c i hi
 unfold anR2
 try simp only[sj6,leB_iff,sj3,sj7]
 repeat' (first|done|omega|exact rfl|exact nfA_sub|exact trivial|exact Nat.le_refl _|exact fun _ _=>pinA|(simp[h1,Tk.tr,tbd];done)|intro _|refine⟨k+1,?_⟩|refine⟨?_,?_⟩)
theorem an_r3 (T:TD) (hT:T.Ok) (k:Nat) (h:k<=T.R):anR3 T k:=by
 unfold anR3
 have hk:T.R<=k->k=T.R:=fun _=>by omega
 try simp only[sj6,leB_iff,sj3,sj7]
 repeat' (first|done|omega|exact rfl|exact nfA_sub|exact trivial|exact Nat.le_refl _|exact fun _ _=>pinA|exact hT|(rw[hk (by assumption)])|intro _|refine⟨k+1,?_⟩|refine⟨?_,?_⟩)
theorem an_r4 (T:TD) (hT:T.Ok):anR4 T:=by
 have hr:=hT.r
 have h1:=nfn_2 (T:=T)
 unfold anR4
 try simp only[sj6,leB_iff,sj3,sj7]
 repeat' (first|done|omega|exact rfl|exact nfA_sub|exact trivial|exact Nat.le_refl _|exact fun _ _=>pinA|(simp[h1,Tk.tr,tbd];done)|intro _|refine⟨k+1,?_⟩|refine⟨?_,?_⟩)
theorem an_r5 (T:TD) (hT:T.Ok):anR5 T:=by
 have hn:=hT.n
 have h1:=nfn_1 (T:=T)
 unfold anR5
 try simp only[sj6,leB_iff,sj3,sj7]
 repeat' (first|done|omega|exact rfl|exact nfA_sub|exact trivial|exact Nat.le_refl _|exact fun _ _=>pinA|exact hT|(simp[h1,tbl];done)|intro _|refine⟨k+1,?_⟩|refine⟨?_,?_⟩)
theorem an_r6 (T:TD) (hT:T.Ok):anR6 T:=by
 have hn:=hT.n
 have h1:=nfn_0 (T:=T)
 unfold anR6
 try simp only[sj6,leB_iff,sj3,sj7]
 repeat' (first|done|omega|exact rfl|exact nfA_sub|exact trivial|exact Nat.le_refl _|exact fun _ _=>pinA|exact hT|(simp[h1,doc];done)|intro _|refine⟨k+1,?_⟩|refine⟨?_,?_⟩)
theorem an_fok:FunOk Tryz.prog 309:=⟨Tryz.f309,by kernel_rfl,rfl,by kernel_rfl⟩
theorem an_td (T:TD):(anTd T).Body Tryz.prog 309/\(anTd T).BodyD Tryz.prog 309:=by
 refine genS_body (fn:=Tryz.f309) (b:=bodyOf Tryz.f309) (LT:=fun _=>[]) ftOk nofOk 1000 (fun _ _=>LTok.nil) (by kernel_rfl) (by kernel_rfl) ?_
 exact fun a ha=>Ho.of (anR0 T a.1 a.2) (by kernel_rfl) (an_r0 T a.1 a.2 ha)
theorem anTabs1_ok (T:TD):TabOk Tryz.prog (anTabs1 T):=by
 refine⟨fun f s h=>?_,fun f s h=>(by cases h)⟩
 unfold anTabs1 at h
 simp only at h
 split at h
 ·cases h;exact genS_ok an_fok (an_td T).1
 ·cases h
theorem an_trD (T:TD) (i:Nat) (hi:i<T.R) (hT:T.Ok):(anTrD T i).Body Tryz.prog (sub (bodyOf Tryz.f309) [0,0,1,1]):=
 LoopD.bodyH (root:=bodyOf Tryz.f309) [0,0,1,1] ftOk (anTabs1_ok T) LTok.nil 1000 (fun k hk=>Ho.of (anR1 T i k) (by kernel_rfl) (an_r1 T i k hi hT hk))
theorem an_tr (T:TD):(anTr T).Body Tryz.prog 309/\(anTr T).BodyD Tryz.prog 309:=by
 refine genS_body (fn:=Tryz.f309) (b:=bodyOf Tryz.f309) (LT:=fun i=>[([0,1,1],(anTrD T i).at (0:Nat))]) ftOk (anTabs1_ok T) 1000 (fun i h=>LTok.cons (fun fr H K hk=>LoopD.ok (an_trD T i h.1 h.2) hk) LTok.nil) (by kernel_rfl) (by kernel_rfl) ?_
 exact fun i hi=>Ho.of (anR2 T i) (by kernel_rfl) (an_r2 T i hi)
theorem anTabs2_ok (T:TD):TabOk Tryz.prog (anTabs2 T):=by
 refine⟨fun f s h=>?_,fun f s h=>(by cases h)⟩
 unfold anTabs2 at h
 simp only at h
 split at h
 ·cases h;exact genS_ok an_fok (an_tr T).1
 ·cases h
theorem an_tbD (T:TD) (hT:T.Ok):(anTbD T).Body Tryz.prog (sub (bodyOf Tryz.f309) [0,0,1,1]):=
 LoopD.bodyH (root:=bodyOf Tryz.f309) [0,0,1,1] ftOk (anTabs2_ok T) LTok.nil 1000 (fun k hk=>Ho.of (anR3 T k) (by kernel_rfl) (an_r3 T hT k hk))
theorem an_tb (T:TD):(anTb T).Body Tryz.prog 309/\(anTb T).BodyD Tryz.prog 309:=by
 refine genS_body (fn:=Tryz.f309) (b:=bodyOf Tryz.f309) (LT:=fun _=>[([0,1,1],(anTbD T).at (0:Nat))]) ftOk (anTabs2_ok T) 1000 (fun _ hT=>LTok.cons (fun fr H K hk=>LoopD.ok (an_tbD T hT) hk) LTok.nil) (by kernel_rfl) (by kernel_rfl) ?_
 exact fun _ hT=>Ho.of (anR4 T) (by kernel_rfl) (an_r4 T hT)
theorem anTabs3_ok (T:TD):TabOk Tryz.prog (anTabs3 T):=by
 refine⟨fun f s h=>?_,fun f s h=>(by cases h)⟩
 unfold anTabs3 at h
 simp only at h
 split at h
 ·cases h;exact genS_ok an_fok (an_tb T).1
 ·cases h
theorem an_tl (T:TD):(anTl T).Body Tryz.prog 309/\(anTl T).BodyD Tryz.prog 309:=by
 refine genS_body (fn:=Tryz.f309) (b:=bodyOf Tryz.f309) (LT:=fun _=>[]) ftOk (anTabs3_ok T) 1000 (fun _ _=>LTok.nil) (by kernel_rfl) (by kernel_rfl) ?_
 exact fun _ hT=>Ho.of (anR5 T) (by kernel_rfl) (an_r5 T hT)
theorem anTabs4_ok (T:TD):TabOk Tryz.prog (anTabs4 T):=by
 refine⟨fun f s h=>?_,fun f s h=>(by cases h)⟩
 unfold anTabs4 at h
 simp only at h
 split at h
 ·cases h;exact genS_ok an_fok (an_tl T).1
 ·cases h
theorem an_to (T:TD):(anTo T).Body Tryz.prog 309/\(anTo T).BodyD Tryz.prog 309:=by
 refine genS_body (fn:=Tryz.f309) (b:=bodyOf Tryz.f309) (LT:=fun _=>[]) ftOk (anTabs4_ok T) 1000 (fun _ _=>LTok.nil) (by kernel_rfl) (by kernel_rfl) ?_
 exact fun _ hT=>Ho.of (anR6 T) (by kernel_rfl) (an_r6 T hT)
theorem anTabs5_ok (T:TD):TabOk Tryz.prog (anTabs5 T):=by
 refine⟨fun f s h=>?_,fun f s h=>(by cases h)⟩
 unfold anTabs5 at h
 simp only at h
 split at h
 ·cases h;exact genS_ok an_fok (an_to T).1
 ·cases h
def alR (T:TD):Prop:=
 letI c:=domB T=domB T;letI a:=fun(k:Nat)=>AVal.sp (nfn T k) 0;c/\TD.Ok T/\∀(x:Nat),x=nN T->∃(x_1:Unit),True/\c/\(∀(i:Nat),letI b:=AVal.sp (nfn T i) 0;i<nN T->SubA 0 b b)/\True/\x=nN T/\x=x/\SubF a a x []/\True
theorem al_r (T:TD) (hT:T.Ok):alR T:=by
 unfold alR
 have hr:=hT.r
 have hn:=hT.n
 have h0:=nfn_0 (T:=T)
 have h1:=nfn_1 (T:=T)
 try simp only[br_iff,gd_iff,Bool.and_eq_true,sj5,leB_iff,sj3,sj7]
 repeat' (first|done|omega|exact rfl|exact nfA_sub|exact trivial|exact hT|exact fun _ _=>pinA|(simp[h0,h1,doc,tbl];done)|exact()|intro _|refine⟨?_,?_⟩)
theorem al_fok:FunOk Tryz.prog 253:=⟨Tryz.f253,by kernel_rfl,rfl,by kernel_rfl⟩
theorem al_ok (T:TD) (hT:T.Ok):(alS T).Body Tryz.prog 253/\(alS T).BodyD Tryz.prog 253:=by
 refine genS_body (fn:=Tryz.f253) (b:=(bodyOf Tryz.f253)) (LT:=fun _=>[]) ftOk (anTabs5_ok T) 1000 (fun a ha=>LTok.nil) (by kernel_rfl) (by kernel_rfl) ?_
 exact fun a ha=>Ho.of (alR T) (by kernel_rfl) (al_r T ha)
theorem alTabs_ok (T:TD) (hT:T.Ok):TabOk Tryz.prog (alTabs T):=by
 refine⟨fun f s h=>?_,fun f s h=>(by cases h)⟩
 unfold alTabs at h
 simp only at h
 split at h
 ·cases h;exact genS_ok al_fok (al_ok T hT).1
 ·cases h
def haRDoc (T:TD):Prop:=
 ∃(x:Unit),True/\domB T=domB T/\True/\True/\Value.bool false=Value.bool false/\True
def haRTr (T:TD) (i:Nat):Prop:=
 ∃(x:Unit),True/\domB T=domB T/\True/\True/\Value.bool false=Value.bool false/\True
def haRTd (T:TD) (i:Nat) (j:Nat):Prop:=
 letI d:=Value.bool false;letI c:=Nat.beq i 0&&T.hd;letI b:=∃(x:Unit),True/\domB T=domB T/\True/\True/\d=d/\True;letI a:=br c b b;br c a a
def haRTx (T:TD) (i:Nat) (j:Nat):Prop:=
 ∃(x:Unit),True/\domB T=domB T/\True/\True/\Value.bool false=Value.bool false/\True
theorem ha_rDoc (T:TD):haRDoc T:=by
 unfold haRDoc
 try simp only[br_iff,gd_iff,Bool.and_eq_true,sj5,leB_iff,sj3,sj7]
 repeat' (first|done|omega|exact rfl|exact trivial|assumption|exact()|intro _|refine⟨?_,?_⟩)
theorem ha_rTr (T:TD) (i:Nat):haRTr T i:=by
 unfold haRTr
 try simp only[br_iff,gd_iff,Bool.and_eq_true,sj5,leB_iff,sj3,sj7]
 repeat' (first|done|omega|exact rfl|exact trivial|assumption|exact()|intro _|refine⟨?_,?_⟩)
theorem ha_rTd (T:TD) (i j:Nat):haRTd T i j:=by
 unfold haRTd
 try simp only[br_iff,gd_iff,Bool.and_eq_true,sj5,leB_iff,sj3,sj7]
 repeat' (first|done|omega|exact rfl|exact trivial|assumption|exact()|intro _|refine⟨?_,?_⟩)
theorem ha_rTx (T:TD) (i j:Nat):haRTx T i j:=by
 unfold haRTx
 try simp only[br_iff,gd_iff,Bool.and_eq_true,sj5,leB_iff,sj3,sj7]
 repeat' (first|done|omega|exact rfl|exact trivial|assumption|exact()|intro _|refine⟨?_,?_⟩)
theorem ha_fok:FunOk Tryz.prog 254:=⟨Tryz.f254,by kernel_rfl,rfl,by kernel_rfl⟩
theorem ha_ok (T:TD):(haS T).Body Tryz.prog 254/\(haS T).BodyD Tryz.prog 254:=by
 refine genS_body (fn:=Tryz.f254) (b:=(bodyOf Tryz.f254)) (LT:=fun _=>[]) ftOk (nofOk) 1000 (fun a ha=>LTok.nil) (by kernel_rfl) (by kernel_rfl) ?_
 intro a ha
 rcases ha with h|h|h|⟨i,hi,h⟩|⟨i,j,hi,hj,h⟩|⟨i,j,hi,hj,h⟩<;>subst h
 ·exact Ho.of (haRDoc T) (by kernel_rfl) (ha_rDoc T)
 ·exact Ho.of (haRDoc T) (by kernel_rfl) (ha_rDoc T)
 ·exact Ho.of (haRDoc T) (by kernel_rfl) (ha_rDoc T)
 ·exact Ho.of (haRTr T i) (by kernel_rfl) (ha_rTr T i)
 ·exact Ho.of (haRTd T i j) (by kernel_rfl) (ha_rTd T i j)
 ·exact Ho.of (haRTx T i j) (by kernel_rfl) (ha_rTx T i j)
theorem haTabs_ok (T:TD):TabOk Tryz.prog (haTabs T):=by
 refine⟨fun f s h=>?_,fun f s h=>(by cases h)⟩
 unfold haTabs at h
 simp only at h
 split at h
 ·cases h;exact genS_ok ha_fok (ha_ok T).1
 ·cases h
def rrDR (T:TD) (k:Nat):Prop:=
 letI f:=nfn T k;letI e:=domB T=domB T;letI d:=Int.ofNat (nN T);letI c:=Value.int .i64 d;letI b:=fun(k:Nat)=>AVal.sp (nfn T k) 0;letI a:=decide (Int.ofNat k<d);br a (gd a (gd (Nat.blt k (nN T)) (e/\TD.Val T f/\gd (Nat.beq f.1 f.1&&(Nat.beq f.2 f.2&&Nat.beq f.3 f.3)&&true) (∀(x:Unit),True->∃(j':Nat),Nat.le j' (nN T)/\nN T-j'<nN T-k/\e/\nN T=nN T/\SubF b b (nN T) []/\c=c/\Value.int .i64 (IntKind.wrap .i64 (Int.ofNat (k+1)))=Value.int .i64 (Int.ofNat j')/\True)))) (∃(x:Unit),True/\e/\True)
def rrR (T:TD):Prop:=
 letI d:=domB T=domB T;letI c:=Value.int .i64 (Int.ofNat 0);letI b:=Value.int .i64 (Int.ofNat (nN T));letI a:=fun(k:Nat)=>AVal.sp (nfn T k) 0;d/\TD.Ok T/\∀(x:Unit),True->Nat.le 0 (nN T)/\(d/\nN T=nN T/\SubF a a (nN T) []/\b=b/\c=c/\True)/\∀(x:Unit),True->∃(x:Unit),True/\d/\True/\True/\True
theorem rrU_ok (T:TD) (hT:T.Ok):TabOk Tryz.prog (rrU T):=by
 refine⟨fun f s h=>?_,fun f s h=>(by cases h)⟩
 unfold rrU at h
 simp only at h
 split at h
 ·cases h;exact genS_ok al_fok (al_ok T hT).1
 ·cases h;exact genS_ok ha_fok (ha_ok T).1
 ·cases h
theorem rrD_r (T:TD) (k:Nat) (hT:T.Ok) (hk:k<=nN T):rrDR T k:=by
 unfold rrDR
 have hn:=hT.n
 simp only[ltI,ltI',br_iff,gd_iff,Bool.and_eq_true,beqN_iff,blt_iff,and_true,true_and,implies_true,forall_const,Nat.le_eq]
 refine⟨fun h=>⟨h,h,nfn_val k,k+1,by omega,by omega,nfA_sub,?_⟩,fun _=>⟨(),trivial⟩⟩
 rw[wrapN (by omega)]
theorem rrD_b (T:TD) (hT:T.Ok):(rrD T).Body Tryz.prog (sub (bodyOf Tryz.f210) [0,0,1]):=by
 refine LoopD.bodyH (root:=(bodyOf Tryz.f210)) [0,0,1] ftOk (rrU_ok T hT) LTok.nil 1000 ?_
 exact fun k hk=>Ho.of (rrDR T k) (by kernel_rfl) (rrD_r T k hT hk)
theorem rr_r (T:TD) (hT:T.Ok):rrR T:=by
 unfold rrR
 try simp only[br_iff,gd_iff,Bool.and_eq_true,sj5,leB_iff,sj3,sj7]
 repeat' (first|done|omega|exact rfl|exact trivial|exact nfA_sub|assumption|exact()|intro _|refine⟨?_,?_⟩)
theorem rr_fok:FunOk Tryz.prog 210:=⟨Tryz.f210,by kernel_rfl,rfl,by kernel_rfl⟩
theorem rr_ok (T:TD) (hT:T.Ok):(rrS T).Body Tryz.prog 210/\(rrS T).BodyD Tryz.prog 210:=by
 refine genS_body (fn:=Tryz.f210) (b:=(bodyOf Tryz.f210)) (LT:=fun _=>[([0,1],(rrD T).at (0:Nat))]) ftOk (rrU_ok T hT) 1000 (fun a ha=>LTok.cons (fun fr H K hk=>LoopD.ok (rrD_b T hT) hk) (LTok.nil)) (by kernel_rfl) (by kernel_rfl) ?_
 exact fun a ha=>Ho.of (rrR T) (by kernel_rfl) (rr_r T ha)
theorem rrTabs_ok (T:TD) (hT:T.Ok):TabOk Tryz.prog (rrTabs T):=by
 refine⟨fun f s h=>?_,fun f s h=>(by cases h)⟩
 unfold rrTabs at h
 simp only at h
 split at h
 ·cases h;exact genS_ok rr_fok (rr_ok T hT).1
 ·cases h
def hbRTd (T:TD) (i:Nat) (j:Nat):Prop:=
 letI b:=Value.bool false;letI a:=∃(x:Unit),True/\domB T=domB T/\True/\True/\b=b/\True;br (Nat.beq i 0&&T.hd) a a
theorem hb_rTd (T:TD) (i j:Nat):hbRTd T i j:=by
 unfold hbRTd
 try simp only[br_iff,gd_iff,Bool.and_eq_true,sj5,leB_iff,sj3,sj7]
 repeat' (first|done|omega|exact rfl|exact trivial|assumption|exact()|intro _|refine⟨?_,?_⟩)
theorem hb_ok (T:TD):(hbS T).Body Tryz.prog 254/\(hbS T).BodyD Tryz.prog 254:=by
 refine genS_body (fn:=Tryz.f254) (b:=(bodyOf Tryz.f254)) (LT:=fun _=>[]) ftOk (nofOk) 1000 (fun a ha=>LTok.nil) (by kernel_rfl) (by kernel_rfl) ?_
 intro a ha
 rcases ha with h|h|h|⟨i,hi,h⟩|⟨i,j,hi,hj,h⟩|⟨i,j,hi,hj,h⟩<;>subst h
 ·exact Ho.of (haRDoc T) (by kernel_rfl) (ha_rDoc T)
 ·exact Ho.of (haRDoc T) (by kernel_rfl) (ha_rDoc T)
 ·exact Ho.of (haRDoc T) (by kernel_rfl) (ha_rDoc T)
 ·exact Ho.of (haRTr T i) (by kernel_rfl) (ha_rTr T i)
 ·exact Ho.of (hbRTd T i j) (by kernel_rfl) (hb_rTd T i j)
 ·exact Ho.of (haRTx T i j) (by kernel_rfl) (ha_rTx T i j)
theorem hbTabs_ok (T:TD):TabOk Tryz.prog (hbTabs T):=by
 refine⟨fun f s h=>?_,fun f s h=>(by cases h)⟩
 unfold hbTabs at h
 simp only at h
 split at h
 ·cases h;exact genS_ok ha_fok (hb_ok T).1
 ·cases h
theorem rsU_ok (T:TD) (hT:T.Ok):TabOk Tryz.prog (rsU T):=by
 refine⟨fun f s h=>?_,fun f s h=>(by cases h)⟩
 unfold rsU at h
 simp only at h
 split at h
 ·cases h;exact genS_ok al_fok (al_ok T hT).1
 ·cases h;exact genS_ok ha_fok (hb_ok T).1
 ·cases h
theorem rsD_b (T:TD) (hT:T.Ok):(rsD T).Body Tryz.prog (sub (bodyOf Tryz.f210) [0,0,1]):=by
 refine LoopD.bodyH (root:=(bodyOf Tryz.f210)) [0,0,1] ftOk (rsU_ok T hT) LTok.nil 1000 ?_
 exact fun k hk=>Ho.of (rrDR T k) (by kernel_rfl) (rrD_r T k hT hk)
theorem rs_ok (T:TD) (hT:T.Ok):(rsS T).Body Tryz.prog 210/\(rsS T).BodyD Tryz.prog 210:=by
 refine genS_body (fn:=Tryz.f210) (b:=(bodyOf Tryz.f210)) (LT:=fun _=>[([0,1],(rsD T).at (0:Nat))]) ftOk (rsU_ok T hT) 1000 (fun a ha=>LTok.cons (fun fr H K hk=>LoopD.ok (rsD_b T hT) hk) (LTok.nil)) (by kernel_rfl) (by kernel_rfl) ?_
 exact fun a ha=>Ho.of (rrR T) (by kernel_rfl) (rr_r T ha)
theorem rsTabs_ok (T:TD) (hT:T.Ok):TabOk Tryz.prog (rsTabs T):=by
 refine⟨fun f s h=>?_,fun f s h=>(by cases h)⟩
 unfold rsTabs at h
 simp only at h
 split at h
 ·cases h;exact genS_ok rr_fok (rs_ok T hT).1
 ·cases h
def maRDoc (T:TD):Prop:=
 ∃(j':SId×Bool),TD.SdE T j'/\TD.mu T j'<TD.mu T (SId.mk 1 0 0,false)/\domB T=domB T/\br j'.snd False (gd (Nat.beq 2 j'.fst.1&&(Nat.beq 0 j'.fst.2&&Nat.beq 0 j'.fst.3)&&true) True)
def maRTbl (T:TD):Prop:=
 ∃(j':SId×Bool),TD.SdE T j'/\TD.mu T j'<TD.mu T (SId.mk 2 0 0,false)/\domB T=domB T/\br j'.snd False (gd (Nat.beq 3 j'.fst.1&&(Nat.beq 0 j'.fst.2&&Nat.beq 0 j'.fst.3)&&true) True)
def maRTbd (T:TD):Prop:=
 ∃(j':SId×Bool),TD.SdE T j'/\TD.mu T j'<TD.mu T (SId.mk 3 0 0,false)/\domB T=domB T/\br j'.snd False (gd (Nat.beq 4 j'.fst.1&&(Nat.beq 0 j'.fst.2&&Nat.beq 0 j'.fst.3)&&true) True)
def maRTr (T:TD) (i:Nat):Prop:=
 ∃(j':SId×Bool),TD.SdE T j'/\TD.mu T j'<TD.mu T (SId.mk 4 i 0,false)/\domB T=domB T/\br j'.snd False (gd (Nat.beq 5 j'.fst.1&&(Nat.beq i j'.fst.2&&Nat.beq 0 j'.fst.3)&&true) True)
def maRTd (T:TD) (i:Nat) (j:Nat):Prop:=
 letI g:=SId×Bool;letI f:=domB T=domB T;letI e:=Nat.beq i 0&&T.hd;letI d:=TD.mu T (SId.mk 5 i j,false);letI c:=br (Nat.blt (j+1) (T.C i)) (∃(j':g),TD.SdE T j'/\TD.mu T j'<d/\f/\br j'.snd False (gd (Nat.beq 5 j'.fst.1&&(Nat.beq i j'.fst.2&&Nat.beq (j+1) j'.fst.3)&&true) True)) (br (Nat.blt (i+1) T.R) (∃(j':g),TD.SdE T j'/\TD.mu T j'<d/\f/\br j'.snd False (gd (Nat.beq 4 j'.fst.1&&(Nat.beq (i+1) j'.fst.2&&Nat.beq 0 j'.fst.3)&&true) True)) (∃(j':g),TD.SdE T j'/\TD.mu T j'<d/\f/\br j'.snd True False));letI b:=br (TD.hasT T i j) c c;letI a:=br e b b;br e a a
def maREnd (T:TD) (x:SId):Prop:=
 ∃(x:Unit),True/\domB T=domB T/\True
def maRTop (T:TD):Prop:=
 letI a:=domB T=domB T;TD.SdE T (SId.mk 1 0 0,false)/\(a/\True)/\∀(x:Unit),True->∃(x:Unit),True/\a/\True/\True/\True
theorem ma_rDoc (T:TD):maRDoc T:=by
 unfold maRDoc
 try simp only[br_iff,Bool.and_eq_true,sj5,sj8]
 repeat' (first|done|(refine nx_goE (nx_doc) rfl ?_;(simp[br_iff,gd_iff,doc,tbl,tbd,Tk.tr,Tk.td,Tk.tx];done))|exact rfl|exact trivial|omega|intro _|refine⟨?_,?_⟩)
theorem ma_rTbl (T:TD):maRTbl T:=by
 unfold maRTbl
 try simp only[br_iff,Bool.and_eq_true,sj5,sj8]
 repeat' (first|done|(refine nx_goE (nx_tbl) rfl ?_;(simp[br_iff,gd_iff,doc,tbl,tbd,Tk.tr,Tk.td,Tk.tx];done))|exact rfl|exact trivial|omega|intro _|refine⟨?_,?_⟩)
theorem ma_rTbd (T:TD) (h:0<T.R):maRTbd T:=by
 unfold maRTbd
 try simp only[br_iff,Bool.and_eq_true,sj5,sj8]
 repeat' (first|done|(refine nx_goE (nx_tbd h) rfl ?_;(simp[br_iff,gd_iff,doc,tbl,tbd,Tk.tr,Tk.td,Tk.tx];done))|exact rfl|exact trivial|omega|intro _|refine⟨?_,?_⟩)
theorem ma_rTr (T:TD) (i:Nat) (h:i<T.R) (hc:0<T.C i):maRTr T i:=by
 unfold maRTr
 try simp only[br_iff,Bool.and_eq_true,sj5,sj8]
 repeat' (first|done|(refine nx_goE (nx_tr h hc) rfl ?_;(simp[br_iff,gd_iff,doc,tbl,tbd,Tk.tr,Tk.td,Tk.tx];done))|exact rfl|exact trivial|omega|intro _|refine⟨?_,?_⟩)
theorem ma_rTd (T:TD) (i j:Nat) (h:i<T.R) (hc:j<T.C i):maRTd T i j:=by
 unfold maRTd
 try simp only[br_iff,Bool.and_eq_true,sj5,sj8]
 repeat' (first|done|(refine nx_goE (nx_tdn h (by omega)) rfl ?_;(simp[br_iff,gd_iff,doc,tbl,tbd,Tk.tr,Tk.td,Tk.tx];done))|(refine nx_goE (nx_tdr (by omega) hc) rfl ?_;(simp[br_iff,gd_iff,doc,tbl,tbd,Tk.tr,Tk.td,Tk.tx];done))|(refine nx_goE (nx_tde h hc) rfl ?_;(simp[br_iff,gd_iff,doc,tbl,tbd,Tk.tr,Tk.td,Tk.tx];done))|exact rfl|exact trivial|omega|intro _|refine⟨?_,?_⟩)
theorem ma_rEnd (T:TD) (x:SId):maREnd T x:=by
 unfold maREnd
 repeat' (first|done|exact rfl|exact trivial|exact()|refine⟨?_,?_⟩)
theorem ma_rTop (T:TD):maRTop T:=by
 unfold maRTop
 try simp only[br_iff,Bool.and_eq_true,beqN_iff,and_true,true_and]
 repeat' (first|done|exact rfl|exact trivial|exact()|exact T.sd0|exact T.sdE0|intro _|(apply Exists.intro (doc,false))|refine⟨?_,?_⟩)
theorem ma_D (T:TD) (hT:T.Ok):(maD T).Body Tryz.prog (sub (bodyOf Tryz.f212) [0,0,1]):=by
 refine LoopD.bodyH (root:=bodyOf Tryz.f212) [0,0,1] ftOk (nofOk) LTok.nil 1000 ?_
 rintro⟨x,e⟩ hj
 cases e with
 |true=>exact Ho.of (maREnd T x) (by kernel_rfl) (ma_rEnd T x)
 |false=>
  have hv:T.Val x:=(hj rfl).1
  rcases hv with h|h|h|⟨i,hi,h⟩|⟨i,k,hi,hk,h⟩|⟨i,k,hi,hk,h⟩<;>subst h
  ·exact Ho.of (maRDoc T) (by kernel_rfl) (ma_rDoc T)
  ·exact Ho.of (maRTbl T) (by kernel_rfl) (ma_rTbl T)
  ·exact Ho.of (maRTbd T) (by kernel_rfl) (ma_rTbd T hT.1)
  ·exact Ho.of (maRTr T i) (by kernel_rfl) (ma_rTr T i hi (hT.2 i hi))
  ·exact Ho.of (maRTd T i k) (by kernel_rfl) (ma_rTd T i k hi hk)
  ·exact absurd rfl (hj rfl).2
theorem ma_fok:FunOk Tryz.prog 212:=⟨Tryz.f212,by kernel_rfl,rfl,by kernel_rfl⟩
theorem ma_ok (T:TD) (hT:T.Ok):(maS T).Body Tryz.prog 212/\(maS T).BodyD Tryz.prog 212:=by
 refine genS_body (fn:=Tryz.f212) (b:=bodyOf Tryz.f212) (LT:=fun _=>[([0,1],(maD T).at (doc,false))]) ftOk (nofOk) 1000 (fun _ _=>LTok.cons (fun fr H K hk=>LoopD.ok (ma_D T hT) hk) LTok.nil) (by kernel_rfl) (by kernel_rfl) ?_
 exact fun _ _=>Ho.of (maRTop T) (by kernel_rfl) (ma_rTop T)
def mbRTd (T:TD) (i:Nat) (j:Nat):Prop:=
 letI e:=SId×Bool;letI d:=domB T=domB T;letI c:=TD.mu T (SId.mk 5 i j,false);letI b:=br (Nat.blt (j+1) (T.C i)) (∃(j':e),TD.SdE T j'/\TD.mu T j'<c/\d/\br j'.snd False (gd (Nat.beq 5 j'.fst.1&&(Nat.beq i j'.fst.2&&Nat.beq (j+1) j'.fst.3)&&true) True)) (br (Nat.blt (i+1) T.R) (∃(j':e),TD.SdE T j'/\TD.mu T j'<c/\d/\br j'.snd False (gd (Nat.beq 4 j'.fst.1&&(Nat.beq (i+1) j'.fst.2&&Nat.beq 0 j'.fst.3)&&true) True)) (∃(j':e),TD.SdE T j'/\TD.mu T j'<c/\d/\br j'.snd True False));letI a:=br (TD.hasT T i j) b b;br (Nat.beq i 0&&T.hd) a a
theorem mb_rTd (T:TD) (i j:Nat) (h:i<T.R) (hc:j<T.C i):mbRTd T i j:=by
 unfold mbRTd
 try simp only[br_iff,Bool.and_eq_true,sj5,sj8]
 repeat' (first|done|(refine nx_goE (nx_tdn h (by omega)) rfl ?_;(simp[br_iff,gd_iff,doc,tbl,tbd,Tk.tr,Tk.td,Tk.tx];done))|(refine nx_goE (nx_tdr (by omega) hc) rfl ?_;(simp[br_iff,gd_iff,doc,tbl,tbd,Tk.tr,Tk.td,Tk.tx];done))|(refine nx_goE (nx_tde h hc) rfl ?_;(simp[br_iff,gd_iff,doc,tbl,tbd,Tk.tr,Tk.td,Tk.tx];done))|exact rfl|exact trivial|omega|intro _|refine⟨?_,?_⟩)
theorem mb_D (T:TD) (hT:T.Ok):(mbD T).Body Tryz.prog (sub (bodyOf Tryz.f212) [0,0,1]):=by
 refine LoopD.bodyH (root:=bodyOf Tryz.f212) [0,0,1] ftOk (nofOk) LTok.nil 1000 ?_
 rintro⟨x,e⟩ hj
 cases e with
 |true=>exact Ho.of (maREnd T x) (by kernel_rfl) (ma_rEnd T x)
 |false=>
  have hv:T.Val x:=(hj rfl).1
  rcases hv with h|h|h|⟨i,hi,h⟩|⟨i,k,hi,hk,h⟩|⟨i,k,hi,hk,h⟩<;>subst h
  ·exact Ho.of (maRDoc T) (by kernel_rfl) (ma_rDoc T)
  ·exact Ho.of (maRTbl T) (by kernel_rfl) (ma_rTbl T)
  ·exact Ho.of (maRTbd T) (by kernel_rfl) (ma_rTbd T hT.1)
  ·exact Ho.of (maRTr T i) (by kernel_rfl) (ma_rTr T i hi (hT.2 i hi))
  ·exact Ho.of (mbRTd T i k) (by kernel_rfl) (mb_rTd T i k hi hk)
  ·exact absurd rfl (hj rfl).2
theorem mb_ok (T:TD) (hT:T.Ok):(mbS T).Body Tryz.prog 212/\(mbS T).BodyD Tryz.prog 212:=by
 refine genS_body (fn:=Tryz.f212) (b:=bodyOf Tryz.f212) (LT:=fun _=>[([0,1],(mbD T).at (doc,false))]) ftOk (nofOk) 1000 (fun _ _=>LTok.cons (fun fr H K hk=>LoopD.ok (mb_D T hT) hk) LTok.nil) (by kernel_rfl) (by kernel_rfl) ?_
 exact fun _ _=>Ho.of (maRTop T) (by kernel_rfl) (ma_rTop T)
end Tk
