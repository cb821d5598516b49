/- Lemmas of this claim; the last text says what is proved. -/
import Derived.Test.YtjkgmpkgfhhaiaaGreatK22
import Derived.Test.YtjkgmpkgfhhaiaaGreatK32
set_option linter.all false
set_option maxRecDepth 1000000
namespace Tk
open Go Go.Sx Go.Proofs
open Q
variable [Syms]
def gmDR (T:TD) (f:Nat->AVal) (n:Nat) (m:Nat) (c:Nat) (k:Nat):Prop:=
 letI g:=Nat.beq n n;letI h:=Nat.ble c c;letI e:=domB T=domB T;letI d:=fun(x:Nat)=>AVal.e0;letI b:=Value.int .i64 (Int.ofNat m);letI a:=decide (Int.ofNat k<Int.ofNat m);br a (gd a (gd (Nat.blt k m) (∃(j':Nat),Nat.le j' m/\m-j'<m-k/\e/\gd g (c=c/\gd (Nat.beq m m) (b=b/\Value.int .i64 (IntKind.wrap .i64 (Int.ofNat (k+1)))=Value.int .i64 (Int.ofNat j')/\n<=n/\SubF f f n []/\gd h (m<=m/\SubF d d m []/\True)))))) (∃(x:Unit),True/\e/\gd g (c=c/\n<=n/\SubF f f n []/\gd h True))
def gmR (T:TD) (f:Nat->AVal) (n:Nat) (m:Nat) (c:Nat):Prop:=
 letI k:=Nat.beq m m;letI h:=domB T=domB T;letI g:=List (Nat×AVal);letI e:=fun(x:Nat)=>AVal.e0;letI b:=Value.int .i64 (Int.ofNat m);letI d:=Value.int .i64 (Int.ofNat 0);letI a:=SubF e e m [];h/\Nat.le m 100/\gd k (m<=m/\a/\∀(x:Nat),x=m->Nat.le 0 m/\(h/\gd (Nat.beq n n) (c=c/\gd k (b=b/\d=d/\n<=n/\SubF f f n []/\gd (Nat.ble c c) (m<=x/\a/\True))))/\∀(x:Unit),True->∃(x:(Nat->AVal)×Nat×Nat×Nat),x=(f,n,m,c)/\h/\True/\(([]:g)=([]:g)/\([]:List AVal)=([]:List AVal)/\∀(i:Nat),i<x.2.fst->SubA 0 (x.1 i) (x.1 i))/\gd (Nat.beq n x.2.fst) (c=x.snd.2.snd/\x.2.fst<=n/\SubF f x.1 x.2.fst []/\gd (Nat.ble x.snd.2.snd c) True))
theorem gmU_ok (T:TD):TabOk Tryz.prog (gmU T):=by
 refine⟨fun f s h=>?_,fun f s h=>?_⟩
 ·unfold gmU at h
  simp only at h
  split at h
  ·cases h;exact genS_ok rv_fok (rv_ok T).1
  ·cases h
 ·cases h
theorem gmD_r (T:TD) (f:Nat->AVal) (n m c:Nat) (k:Nat) (hd:(∀i,SubA 0 (f i) (f i))/\m<=100/\n<=c) (h:k<=m):gmDR T f n m c k:=by
 unfold gmDR
 obtain⟨hf,hm,hn⟩:=hd
 have sff:SubF f f n []:=fun i _ _=>hf i
 have se:SubF (fun _=>AVal.e0) (fun _=>AVal.e0) m []:=fun _ _ _=>nlS_sub rfl
 simp only[sj2,eq_self,implies_true,Nat.le_eq,sj1,leB_iff',sj0]
 exact⟨fun g=>⟨g,g,k+1,by omega,by omega,congrArg _ (wrapI (by omega) (by omega)),Nat.le_refl _,sff,Nat.le_refl _,Nat.le_refl _,se⟩,fun _=>⟨Nat.le_refl _,sff,Nat.le_refl _⟩⟩
theorem gmD_b (T:TD) (f:Nat->AVal) (n m c:Nat) (hd:(∀i,SubA 0 (f i) (f i))/\m<=100/\n<=c):(gmD T f n m c).Body Tryz.prog (sub (bodyOf Tryz.f430) [0,0,1,0,1,1]):=by
 refine LoopD.bodyH (root:=(bodyOf Tryz.f430)) [0,0,1,0,1,1] ftOk (gmU_ok T) (LTok.nil) 1000 ?_
 exact fun j hj=>Ho.of (gmDR T f n m c j) (by kernel_rfl) (gmD_r T f n m c j hd hj)
theorem gm_r (T:TD) (f:Nat->AVal) (n m c:Nat) (hd:(∀i,SubA 0 (f i) (f i))/\m<=100/\n<=c):gmR T f n m c:=by
 unfold gmR
 obtain⟨hf,hm,hn⟩:=hd
 have sff:SubF f f n []:=fun i _ _=>hf i
 have se:SubF (fun _=>AVal.e0) (fun _=>AVal.e0) m []:=fun _ _ _=>nlS_sub rfl
 simp only[sj2,eq_self,implies_true,Nat.le_eq,forall_eq,sj1,leB_iff',sj0]
 trace_state
 exact⟨hm,Nat.le_refl _,se,Nat.zero_le _,⟨Nat.le_refl _,sff,Nat.le_refl _,Nat.le_refl _,se⟩,fun _ _=>⟨fun i _=>hf i,Nat.le_refl _,sff,Nat.le_refl _⟩⟩
theorem gm_fok:FunOk Tryz.prog 430:=⟨Tryz.f430,by kernel_rfl,rfl,by kernel_rfl⟩
theorem gm_ok (T:TD):(gmS T).Body Tryz.prog 430/\(gmS T).BodyD Tryz.prog 430:=by
 refine genS_body (fn:=Tryz.f430) (b:=(bodyOf Tryz.f430)) (LT:=fun a=>[([0,1,0,1,1],(gmD T a.1 a.2.1 a.2.2.1 a.2.2.2).at (0:Nat))]) ftOk (gmU_ok T) 1000 (fun a ha=>LTok.cons (fun fr H K hk=>LoopD.ok (gmD_b T a.1 a.2.1 a.2.2.1 a.2.2.2 ha) hk) (LTok.nil)) (by kernel_rfl) (by kernel_rfl) ?_
 exact fun a ha=>Ho.of (gmR T a.1 a.2.1 a.2.2.1 a.2.2.2) (by kernel_rfl) (gm_r T a.1 a.2.1 a.2.2.1 a.2.2.2 ha)
def ieDR (T:TD) (g:Nat->By) (n:Nat) (k:Nat):Prop:=
 letI f:=domB T=domB T;letI e:=Value.bool false;letI d:=Value.int .i64 (Int.ofNat n);letI b:=fun(c:Nat)=>AVal.by_ (g c);letI a:=decide (Int.ofNat k<Int.ofNat n);br a (gd a (gd (Nat.blt k n) (br (decide (Int.ofNat (List.length (g k))>Int.ofNat 0)) (∃(x:Unit),rowE g n=false/\f/\e=e/\True) (∃(j':Nat),(j'<=n/\rowI g j')/\n-j'<n-k/\f/\n=n/\SubF b b n []/\d=d/\Value.int .i64 (IntKind.wrap .i64 (Int.ofNat (k+1)))=Value.int .i64 (Int.ofNat j')/\True)))) (∃(x:Unit),rowE g n=true/\f/\True)
def ieR (T:TD) (g:Nat->By) (n:Nat):Prop:=
 letI e:=rowE g n;letI d:=domB T=domB T;letI a:=Value.int .i64 (Int.ofNat n);letI b:=Value.int .i64 (Int.ofNat 0);(0<=n/\rowI g 0)/\(d/\n=n/\SubF (fun(c:Nat)=>AVal.by_ ((g,n).fst c)) (fun(c:Nat)=>AVal.by_ (g c)) n []/\a=a/\b=b/\True)/\(∀(x:Unit),e=true->∃(x:Bool),x=e/\d/\True/\True/\Value.bool true=Value.bool x/\True)/\∀(x:Unit),e=false->∃(x:Bool),x=e/\d/\True/\True/\Value.bool false=Value.bool x/\True
theorem ieD_r (T:TD) (g:Nat->By) (n:Nat) (k:Nat) (hd:n<=1000) (h:k<=n/\rowI g k):ieDR T g n k:=by
 unfold ieDR
 have e1:IntKind.wrap IntKind.i64 (Int.ofNat (k+1))=Int.ofNat (k+1):=wrapI (by simp only[Int.ofNat_eq_natCast];omega) (by simp only[Int.ofNat_eq_natCast];omega)
 simp only[e1]
 simp only[sj2,eq_self,implies_true,Nat.le_eq,sj1,leB_iff',sj0]
 exact⟨fun g1=>⟨g1,g1,fun h2=>rowE_f (by omega) g1,fun h2=>⟨k+1,⟨g1,rowI_s h.2 (by omega)⟩,by omega,fun _ _ _=>byA,rfl⟩⟩,fun g1=>(show k=n by omega)▸h.2⟩
theorem ieD_b (T:TD) (g:Nat->By) (n:Nat) (hd:n<=1000):(ieD T g n).Body Tryz.prog (sub (bodyOf Tryz.f447) [0,0,1,0,1]):=by
 refine LoopD.bodyH (root:=(bodyOf Tryz.f447)) [0,0,1,0,1] ftOk (nofOk) (LTok.nil) 1000 ?_
 exact fun j hj=>Ho.of (ieDR T g n j) (by kernel_rfl) (ieD_r T g n j hd hj)
theorem ie_r (T:TD) (g:Nat->By) (n:Nat):ieR T g n:=by
 unfold ieR
 exact⟨⟨Nat.zero_le _,rowI_0⟩,⟨rfl,rfl,fun _ _ _=>byA,rfl,rfl,trivial⟩,fun _ h=>⟨_,rfl,rfl,trivial,trivial,by rw[h],trivial⟩,fun _ h=>⟨_,rfl,rfl,trivial,trivial,by rw[h],trivial⟩⟩
theorem ie_fok:FunOk Tryz.prog 447:=⟨Tryz.f447,by kernel_rfl,rfl,by kernel_rfl⟩
theorem ie_ok (T:TD):(ieS T).Body Tryz.prog 447/\(ieS T).BodyD Tryz.prog 447:=by
 refine genS_body (fn:=Tryz.f447) (b:=(bodyOf Tryz.f447)) (LT:=fun a=>[([0,1,0,1],(ieD T a.1 a.2).at (0:Nat))]) ftOk (nofOk) 1000 (fun a ha=>LTok.cons (fun fr H K hk=>LoopD.ok (ieD_b T a.1 a.2 ha) hk) (LTok.nil)) (by kernel_rfl) (by kernel_rfl) ?_
 exact fun a ha=>Ho.of (ieR T a.1 a.2) (by kernel_rfl) (ie_r T a.1 a.2)
def xfDR (T:TD) (rn:Nat->Nat) (rc:Nat->Nat->By) (n:Nat) (c:Nat) (k:Nat):Prop:=
 letI v:=Int.ofNat k;letI w:=Nat.ble c c;letI t:=domB T=domB T;letI u:=fS (eR rn rc) n;letI r:=Value.int .i64 (Int.ofNat n);letI s:=Value.int .i64 v;letI p:=decide (v<Int.ofNat n);letI m:=fun(c:Nat)=>byOf (AVal.by_ (rc k c));letI h:=(m,rn k);letI g:=h.snd;letI f:=Value.int .i64 (IntKind.wrap .i64 (Int.ofNat (k+1)));letI e:=fun(q:Nat)=>AVal.famx (fun(k:Nat)=>AVal.by_ (rc q k)) (rn q);letI b:=SubF e e n [];letI a:=∃(j':Nat),letI d:=f=Value.int .i64 (Int.ofNat j');(j'<=n/\fI (eR rn rc) j')/\n-j'<n-k/\t/\gd (Nat.beq n n) (c=c/\r=r/\d/\n<=n/\b/\gd w (d/\True));br p (gd p (gd (Nat.blt k n) (br (v==Int.ofNat 0) a (t/\Nat.le g 1000/\rn k=g/\SubF (fun(k_1:Nat)=>AVal.by_ (rc k k_1)) (fun(c:Nat)=>AVal.by_ (h.fst c)) (rn k) []/\∀(x:Bool),x=rowE m g->br x (∃(x:Nat×Nat),(x.fst=u/\x.fst<n/\x.snd=x.fst+1)/\t/\s=Value.int .i64 (Int.ofNat x.fst)/\n<=n/\b/\gd w (f=Value.int .i64 (Int.ofNat x.snd)/\True)) a)))) (∃(x:Unit),u=n/\t/\n<=n/\b/\gd w (s=r/\True))
def xfR (T:TD) (rn:Nat->Nat) (rc:Nat->Nat->By) (n:Nat) (c:Nat):Prop:=
 letI s:=True/\True;letI p:=domB T=domB T;letI r:=fS (eR rn rc) n;letI m:=Nat×Nat×Bool;letI g:=Value.int .i64 (Int.ofNat n);letI h:=Value.int .i64 (Int.ofNat 0);letI f:=Value.int .i64 (Int.negSucc 0);letI d:=h=h;(0<=n/\fI (eR rn rc) 0)/\(p/\gd (Nat.beq n n) (c=c/\g=g/\d/\n<=n/\SubF (fun(q:Nat)=>AVal.famx (fun(k:Nat)=>AVal.by_ ((rc,n,c).fst q k)) ((rn,rc,n,c).fst q)) (fun(q:Nat)=>AVal.famx (fun(k:Nat)=>AVal.by_ (rc q k)) (rn q)) n []/\gd (Nat.ble c c) (d/\True)))/\(∀(x:Unit),r=n->∃(x:m),letI b:=g=Value.int .i64 (Int.ofNat x.2.fst)/\True;(x.fst=r/\(x.2.snd=true->x.2.fst=x.fst+1)/\x.2.snd=Nat.blt x.fst n)/\p/\s/\True/\br x.2.snd (f=Value.int .i64 (Int.ofNat x.fst)/\b) (f=f/\b))/\∀(x:Nat×Nat),letI e:=Value.int .i64 (Int.ofNat x.fst);x.fst=r/\x.fst<n/\x.snd=x.fst+1->∃(x_1:m),letI a:=Value.int .i64 (Int.ofNat x.snd)=Value.int .i64 (Int.ofNat x_1.2.fst)/\True;(x_1.fst=r/\(x_1.2.snd=true->x_1.2.fst=x_1.fst+1)/\x_1.2.snd=Nat.blt x_1.fst n)/\p/\s/\True/\br x_1.2.snd (e=Value.int .i64 (Int.ofNat x_1.fst)/\a) (e=f/\a)
theorem xfU_ok (T:TD):TabOk Tryz.prog (xfU T):=by
 refine⟨fun f s h=>?_,fun f s h=>?_⟩
 ·unfold xfU at h
  simp only at h
  split at h
  ·cases h;exact genS_ok ie_fok (ie_ok T).1
  ·cases h
 ·cases h
theorem xfD_r (T:TD) (rn:Nat->Nat) (rc:Nat->Nat->By) (n c:Nat) (k:Nat) (hd:(∀q,rn q<=1000)/\1<=n/\n<=100/\n<=c) (h:k<=n/\fI (eR rn rc) k):xfDR T rn rc n c k:=by
 unfold xfDR
 obtain⟨hrn,h1,h100,hc⟩:=hd
 have e1:IntKind.wrap IntKind.i64 (Int.ofNat (k+1))=Int.ofNat (k+1):=wrapI (by simp only[Int.ofNat_eq_natCast];omega) (by simp only[Int.ofNat_eq_natCast];omega)
 have sf:∀us,SubF (fun q=>AVal.famx (fun k=>AVal.by_ (rc q k)) (rn q)) (fun q=>AVal.famx (fun k=>AVal.by_ (rc q k)) (rn q)) n us:=fun _ _ _ _=>SubA.famx fun _ _=>byA
 have sb:SubF (fun k_1=>AVal.by_ (rc k k_1)) (fun k_1=>AVal.by_ (rc k k_1)) (rn k) []:=fun _ _ _=>byA
 simp only[e1,byOf]
 simp only[sj2,eq_self,implies_true,Nat.le_eq,forall_eq,intE,intF,sj1,leB_iff',sj0]
 exact⟨fun g=>⟨g,g,fun e=>⟨k+1,⟨g,by subst e;exact fI_1⟩,by omega,rfl,Nat.le_refl _,sf _,Nat.le_refl _,rfl⟩,fun e=>⟨hrn k,sb,fun he=>⟨(k,k+1),⟨(fS_at h.2 g (by omega) he).symm,g,rfl⟩,rfl,Nat.le_refl _,sf _,Nat.le_refl _,rfl⟩,fun he=>⟨k+1,⟨g,fI_s h.2 he⟩,by omega,rfl,Nat.le_refl _,sf _,Nat.le_refl _,rfl⟩⟩⟩,fun g=>⟨fS_end h.2 (by omega),Nat.le_refl _,sf _,Nat.le_refl _,by rw[show k=n by omega]⟩⟩
theorem xfD_b (T:TD) (rn:Nat->Nat) (rc:Nat->Nat->By) (n c:Nat) (hd:(∀q,rn q<=1000)/\1<=n/\n<=100/\n<=c):(xfD T rn rc n c).Body Tryz.prog (sub (bodyOf Tryz.f454) [0,0,1,0,1]):=by
 refine LoopD.bodyH (root:=(bodyOf Tryz.f454)) [0,0,1,0,1] ftOk (xfU_ok T) (LTok.nil) 1000 ?_
 exact fun j hj=>Ho.of (xfDR T rn rc n c j) (by kernel_rfl) (xfD_r T rn rc n c j hd hj)
theorem xf_r (T:TD) (rn:Nat->Nat) (rc:Nat->Nat->By) (n c:Nat) (hd:(∀q,rn q<=1000)/\1<=n/\n<=100/\n<=c):xfR T rn rc n c:=by
 unfold xfR
 obtain⟨hrn,h1,h100,hc⟩:=hd
 have sf:SubF (fun q=>AVal.famx (fun k=>AVal.by_ (rc q k)) (rn q)) (fun q=>AVal.famx (fun k=>AVal.by_ (rc q k)) (rn q)) n []:=fun _ _ _=>SubA.famx fun _ _=>byA
 simp only[sj2,eq_self,implies_true,sj1,leB_iff',sj0]
 exact⟨⟨Nat.zero_le _,fI_0⟩,⟨Nat.le_refl _,sf,Nat.le_refl _⟩,fun _ e=>⟨(n,n,false),⟨e.symm,fun h=>(by cases h),(blt_iff'.2 (Nat.le_refl _)).symm⟩,fun h=>(by cases h),fun _=>rfl⟩,fun x e=>⟨(x.1,x.2,true),⟨e.1,fun _=>e.2.2,(blt_iff.2 e.2.1).symm⟩,fun _=>⟨rfl,rfl⟩,fun h=>(by cases h)⟩⟩
theorem xf_fok:FunOk Tryz.prog 454:=⟨Tryz.f454,by kernel_rfl,rfl,by kernel_rfl⟩
theorem xf_ok (T:TD):(xfS T).Body Tryz.prog 454/\(xfS T).BodyD Tryz.prog 454:=by
 refine genS_body (fn:=Tryz.f454) (b:=(bodyOf Tryz.f454)) (LT:=fun a=>[([0,1,0,1],(xfD T a.1 a.2.1 a.2.2.1 a.2.2.2).at (0:Nat))]) ftOk (xfU_ok T) 1000 (fun a ha=>LTok.cons (fun fr H K hk=>LoopD.ok (xfD_b T a.1 a.2.1 a.2.2.1 a.2.2.2 ha) hk) (LTok.nil)) (by kernel_rfl) (by kernel_rfl) ?_
 exact fun a ha=>Ho.of (xfR T a.1 a.2.1 a.2.2.1 a.2.2.2) (by kernel_rfl) (xf_r T a.1 a.2.1 a.2.2.1 a.2.2.2 ha)
def dfDR (T:TD) (rn:Nat->Nat) (rc:Nat->Nat->By) (n:Nat) (c:Nat) (i:Nat) (j:Nat) (M:List Nat):Prop:=
 letI g1:=at0 M j;letI f1:=eR rn rc;letI d1:=Nat.beq n n;letI e1:=Nat.ble c c;letI c1:=rn g1;letI v:=Nat×List Nat;letI w:=domB T=domB T;letI y:=kp f1 n;letI u:=Nat.blt i n&&true;letI t:=Nat×v;letI s:=Value.int .i64 (Int.ofNat i);letI r:=decide (Int.ofNat j<Int.ofNat n);letI p:=fun(k:Nat)=>AVal.by_ (rc g1 k);letI m:=fun(c:Nat)=>byOf (AVal.by_ (rc g1 c));letI h:=Value.int .i64 (IntKind.wrap .i64 (Int.ofNat (j+1)));letI g:=(m,c1);letI f:=g.snd;letI e:=fun(q:Nat)=>AVal.famx (fun(k:Nat)=>AVal.by_ (rc (at0 M q) k)) (rn (at0 M q));letI a:=gd (decide (Int.ofNat i<Int.ofNat n)) (gd u (∃(j':t),letI a1:=at0 j'.snd.2 i;letI b:=h=Value.int .i64 (Int.ofNat j'.2.fst);dI f1 n j'.fst j'.2.fst j'.snd.2/\n-j'.2.fst<n-j/\w/\gd d1 (c=c/\Value.int .i64 (IntKind.wrap .i64 (Int.ofNat (i+1)))=Value.int .i64 (Int.ofNat j'.fst)/\b/\n=n/\SubF e (fun(q:Nat)=>letI z:=at0 j'.snd.2 q;AVal.famx (fun(k:Nat)=>AVal.by_ (rc z k)) (rn z)) n [(i,AVal.famx p c1)]/\gd u (c1=rn a1/\SubF p (fun(k:Nat)=>AVal.by_ (rc a1 k)) c1 []/\gd e1 (b/\True)))));br r (gd r (gd (Nat.blt j n) (br (Int.ofNat j==Int.ofNat 0) a (w/\Nat.le f 1000/\c1=f/\SubF p (fun(c:Nat)=>AVal.by_ (g.fst c)) c1 []/\∀(x:Bool),x=rowE m f->br (!x) a (∃(j':t),letI d:=h=Value.int .i64 (Int.ofNat j'.2.fst);dI f1 n j'.fst j'.2.fst j'.snd.2/\n-j'.2.fst<n-j/\w/\gd d1 (c=c/\s=Value.int .i64 (Int.ofNat j'.fst)/\d/\n<=n/\SubF e (fun(q:Nat)=>letI b1:=at0 j'.snd.2 q;AVal.famx (fun(k:Nat)=>AVal.by_ (rc b1 k)) (rn b1)) n []/\gd e1 (d/\True))))))) (∃(x:v),(x.fst=List.length y/\x.fst<=n/\List.take x.fst x.2=y)/\w/\gd d1 (c=c/\s=Value.int .i64 (Int.ofNat x.fst)/\n<=n/\SubF e (fun(q:Nat)=>AVal.famx (fun(k:Nat)=>AVal.by_ (rc (at0 x.2 q) k)) (rn (at0 x.2 q))) n []/\gd e1 True))
def dfR (T:TD) (rn:Nat->Nat) (rc:Nat->Nat->By) (n:Nat) (c:Nat):Prop:=
 letI f1:=eR rn rc;letI d1:=domB T=domB T;letI e1:=kp f1 n;letI b1:=(rn,rc,n,c).fst;letI c1:=List (Nat×AVal);letI z:=fS f1 n+1;letI y:=List.range.loop n [];letI v:=Value.int .i64 (Int.ofNat 0);letI u:=List.length e1;letI t:=([]:List AVal)=([]:List AVal);letI s:=Value.int .i64 (Int.ofNat z);letI r:=(Nat->Nat)×(Nat->Nat->By)×Nat×Nat;letI p:=([]:c1)=([]:c1);letI h:=(fS f1 n,z,y).fst;letI f:=fun(q:Nat)=>AVal.famx (fun(k:Nat)=>AVal.by_ ((rc,n,c).fst q k)) (b1 q);letI d:=rowsN f;letI e:=rowsC f;letI b:=(fun(q:Nat)=>b1 (at0 e1 q),fun(q:Nat)=>rc (at0 e1 q),u,c);letI a:=(d,e,n,c).fst;d1/\((∀(q:Nat),a q<=1000)/\1<=n/\n<=100/\n<=c)/\gd (Nat.beq n n) (c=c/\n<=n/\SubF f (fun(q:Nat)=>AVal.famx (fun(k:Nat)=>AVal.by_ ((e,n,c).fst q k)) (a q)) n []/\gd (Nat.ble c c) (v=v/\∀(x:Nat×Nat×Bool),x.fst=fS (eR d e) n/\(x.2.snd=true->x.2.fst=x.fst+1)/\x.2.snd=Nat.blt x.fst n->br x.2.snd (dI f1 n h z y/\(d1/\gd (Nat.beq n n) (c=c/\Value.int .i64 (Int.ofNat x.fst)=Value.int .i64 (Int.ofNat h)/\Value.int .i64 (IntKind.wrap .i64 (Int.ofNat (x.fst+1)))=s/\n<=n/\SubF f (fun(q:Nat)=>letI w:=at0 y q;AVal.famx (fun(k:Nat)=>AVal.by_ (rc w k)) (rn w)) n []/\gd (Nat.ble c c) (Value.int .i64 (Int.ofNat x.2.fst)=s/\True)))/\∀(x:Nat×List Nat),letI a1:=x.fst+(n-x.fst);x.fst=u/\x.fst<=n/\List.take x.fst x.2=e1->gd (decide (Int.ofNat x.fst<=Int.ofNat n)&&decide (Int.ofNat n<=Int.ofNat c)) (gd (Nat.ble a1 n&&true) (gd (decide (Int.ofNat x.fst<=Int.ofNat c)) (∃(x_1:r),x_1=b/\d1/\True/\(p/\t/\∀(i:Nat),letI g:=AVal.famx (fun(k:Nat)=>AVal.by_ (x_1.2.fst i k)) (x_1.fst i);i<x_1.snd.2.fst->SubA 0 g g)/\gd (Nat.beq x.fst x_1.snd.2.fst) (c=x_1.snd.2.snd/\x_1.snd.2.fst<=n/\SubF (fun(i:Nat)=>AVal.ite (Nat.blt i x.fst||Nat.ble a1 i) (AVal.famx (fun(k:Nat)=>AVal.by_ (rc (at0 x.2 i) k)) (rn (at0 x.2 i))) (AVal.lit (Value.slice none 0 0))) (fun(q:Nat)=>AVal.famx (fun(k:Nat)=>AVal.by_ (x_1.2.fst q k)) (x_1.fst q)) x_1.snd.2.fst []/\gd (Nat.ble x_1.snd.2.snd c) True))))) (∃(x:r),x=b/\d1/\True/\(p/\t/\∀(i:Nat),letI m:=AVal.famx (fun(k:Nat)=>AVal.by_ (x.2.fst i k)) (x.fst i);i<x.snd.2.fst->SubA 0 m m)/\gd (Nat.beq n x.snd.2.fst) (c=x.snd.2.snd/\x.snd.2.fst<=n/\SubF f (fun(q:Nat)=>AVal.famx (fun(k:Nat)=>AVal.by_ (x.2.fst q k)) (x.fst q)) x.snd.2.fst []/\gd (Nat.ble x.snd.2.snd c) True))))
theorem dfU_ok (T:TD):TabOk Tryz.prog (dfU T):=by
 refine⟨fun f s h=>?_,fun f s h=>?_⟩
 ·unfold dfU at h
  simp only at h
  split at h
  ·cases h;exact genS_ok ie_fok (ie_ok T).1
  ·cases h;exact genS_ok xf_fok (xf_ok T).1
  ·cases h
 ·cases h
theorem dfD_r (T:TD) (rn:Nat->Nat) (rc:Nat->Nat->By) (n c:Nat) (i j:Nat) (M:List Nat) (hd:(∀q,rn q<=1000)/\1<=n/\n<=100/\n<=c) (h:dI (eR rn rc) n i j M):dfDR T rn rc n c i j M:=by
 unfold dfDR
 obtain⟨hrn,h1,h100,hc⟩:=hd
 obtain⟨hM,hij,hjn,hK,hR⟩:=id h
 have e1:IntKind.wrap IntKind.i64 (Int.ofNat (i+1))=Int.ofNat (i+1):=wrapI (by simp only[Int.ofNat_eq_natCast];omega) (by simp only[Int.ofNat_eq_natCast];omega)
 have e2:IntKind.wrap IntKind.i64 (Int.ofNat (j+1))=Int.ofNat (j+1):=wrapI (by simp only[Int.ofNat_eq_natCast];omega) (by simp only[Int.ofNat_eq_natCast];omega)
 have s0:SubF (fun q=>AVal.famx (fun k=>AVal.by_ (rc (at0 M q) k)) (rn (at0 M q))) (fun q=>AVal.famx (fun k=>AVal.by_ (rc (at0 M q) k)) (rn (at0 M q))) n []:=fun _ _ _=>SubA.famx fun _ _=>byA
 have hi:at0 (M.set i (at0 M j)) i=at0 M j:=by
  unfold at0;rw[List.getD_eq_getElem?_getD,List.getElem?_set_self (by omega)];rfl
 have s1:SubF (fun q=>AVal.famx (fun k=>AVal.by_ (rc (at0 M q) k)) (rn (at0 M q))) (fun q=>AVal.famx (fun k=>AVal.by_ (rc (at0 (M.set i (at0 M j)) q) k)) (rn (at0 (M.set i (at0 M j)) q))) n [(i,AVal.famx (fun k=>AVal.by_ (rc (at0 M j) k)) (rn (at0 M j)))]:=fun q hq hu=>by
  have hne:q≠i:=fun e=>by subst e;simp[notIn] at hu
  have:at0 (M.set i (at0 M j)) q=at0 M q:=by
   unfold at0;rw[List.getD_eq_getElem?_getD,List.getElem?_set_ne (fun e=>hne e.symm),←List.getD_eq_getElem?_getD]
  show SubA _ (AVal.famx _ _) (AVal.famx _ _)
  rw[this];exact SubA.famx fun _ _=>byA
 have s2:SubF (fun k=>AVal.by_ (rc (at0 M j) k)) (fun k=>AVal.by_ (rc (at0 M j) k)) (rn (at0 M j)) []:=fun _ _ _=>byA
 have kl:=kp_len (e:=eR rn rc) (j:=j)
 have kL:i<=n->i=(kp (eR rn rc) j).length:=fun g=>by rw[←hK,List.length_take];omega
 simp only[e1,e2,byOf]
 simp only[sj2,eq_self,implies_true,Nat.le_eq,forall_eq,intE,intF,Bool.not_eq_true',Bool.not_eq_false',sj1,leB_iff',sj0]
 refine⟨fun g=>⟨g,g,fun e=>absurd e (by omega),fun _=>⟨hrn _,s2,fun he=>⟨by omega,by omega,(i+1,j+1,M.set i (at0 M j)),dI_y h g he,by simp only[];omega,rfl,rfl,s1,by omega,by simp only[hi],by simp only[hi];exact s2,Nat.le_refl _,rfl⟩,fun he=>⟨(i,j+1,M),dI_n h g he,by simp only[];omega,rfl,rfl,Nat.le_refl _,s0,Nat.le_refl _,rfl⟩⟩⟩,fun g=>?_⟩
 have e:j=n:=by omega
 subst e
 exact⟨(i,M),⟨kL (by omega),by simp only[];omega,hK⟩,rfl,Nat.le_refl _,s0,Nat.le_refl _⟩
theorem dfD_b (T:TD) (rn:Nat->Nat) (rc:Nat->Nat->By) (n c:Nat) (hd:(∀q,rn q<=1000)/\1<=n/\n<=100/\n<=c):(dfD T rn rc n c).Body Tryz.prog (sub (bodyOf Tryz.f445) [0,0,1,0,1,1,1]):=by
 refine LoopD.bodyH (root:=(bodyOf Tryz.f445)) [0,0,1,0,1,1,1] ftOk (dfU_ok T) (LTok.nil) 1000 ?_
 exact fun j hj=>Ho.of (dfDR T rn rc n c j.1 j.2.1 j.2.2) (by kernel_rfl) (dfD_r T rn rc n c j.1 j.2.1 j.2.2 hd hj)
theorem df_r (T:TD) (rn:Nat->Nat) (rc:Nat->Nat->By) (n c:Nat) (hd:(∀q,rn q<=1000)/\1<=n/\n<=100/\n<=c):dfR T rn rc n c:=by
 unfold dfR
 simp only[byOf]
 simp only[sj2,eq_self,implies_true,forall_eq,sj1,leB_iff',sj0]
 obtain⟨hrn,h1,h100,hc⟩:=hd
 have sf:SubF (fun q=>AVal.famx (fun k=>AVal.by_ (rc q k)) (rn q)) (fun q=>AVal.famx (fun k=>AVal.by_ (rc q k)) (rn q)) n []:=fun _ _ _=>SubA.famx fun _ _=>byA
 have sp:=fS_spec (e:=eR rn rc) (n:=n) h1
 have kf:∀i,i<(kp (eR rn rc) n).length->SubA 0 (AVal.famx (fun k=>AVal.by_ (rc (at0 (kp (eR rn rc) n) i) k)) (rn (at0 (kp (eR rn rc) n) i))) (AVal.famx (fun k=>AVal.by_ (rc (at0 (kp (eR rn rc) n) i) k)) (rn (at0 (kp (eR rn rc) n) i))):=fun i _=>SubA.famx fun _ _=>byA
 refine⟨⟨hrn,h1,h100,hc⟩,Nat.le_refl _,sf,Nat.le_refl _,fun x hx=>?_⟩
 obtain⟨hx1,hx2,hx3⟩:=hx
 have hx1:x.1=fS (eR rn rc) n:=hx1
 refine⟨fun ht=>?_,fun hf=>?_⟩
 ·rw[ht] at hx3
  have hlt:fS (eR rn rc) n<n:=by rw[←hx1];exact blt_iff.1 hx3.symm
  rcases sp with⟨e,_⟩|⟨_,s1,s2,s3⟩
  ·omega
  refine⟨dI_0 s3 hlt s1 s2,⟨by rw[hx1],by rw[hx1];exact congrArg _ (wrapI (by omega) (by omega)),Nat.le_refl _,fun q hq _=>?_,Nat.le_refl _,by rw[hx2 ht,hx1]⟩,fun y hy=>⟨⟨hy.2.1,hc⟩,by omega,by omega,kf,hy.1,by rw[←hy.1];exact hy.2.1,fun q hq _=>?_,Nat.le_refl _⟩⟩
  ·show SubA _ (AVal.famx (fun k=>AVal.by_ (rc q k)) (rn q)) (AVal.famx (fun k=>AVal.by_ (rc (at0 (List.range n) q) k)) (rn (at0 (List.range n) q)))
   rw[at0_range hq];exact SubA.famx fun _ _=>byA
  ·have hq1:q<y.1:=by rw[hy.1];exact hq
   have he:at0 (kp (eR rn rc) n) q=at0 y.2 q:=by rw[←hy.2.2,at0_take hq1]
   refine iteA (by rw[blt_iff.2 hq1];rfl) ?_
   show SubA _ (AVal.famx _ _) (AVal.famx (fun k=>AVal.by_ (rc (at0 (kp (eR rn rc) n) q) k)) (rn (at0 (kp (eR rn rc) n) q)))
   rw[he];exact SubA.famx fun _ _=>byA
 ·rw[hf] at hx3
  have hge:¬fS (eR rn rc) n<n:=by rw[←hx1];exact Nat.not_lt.2 (blt_iff'.1 hx3.symm)
  rcases sp with⟨e,s3⟩|⟨h,_⟩
  ·have ek:kp (eR rn rc) n=List.range n:=kp_all s3
   refine⟨kf,by rw[ek,List.length_range],kp_len,fun q hq _=>?_,Nat.le_refl _⟩
   have hq:q<n:=Nat.lt_of_lt_of_le hq kp_len
   show SubA _ (AVal.famx (fun k=>AVal.by_ (rc q k)) (rn q)) (AVal.famx (fun k=>AVal.by_ (rc (at0 (kp (eR rn rc) n) q) k)) (rn (at0 (kp (eR rn rc) n) q)))
   rw[ek,at0_range hq];exact SubA.famx fun _ _=>byA
  ·exact absurd h hge
theorem df_fok:FunOk Tryz.prog 445:=⟨Tryz.f445,by kernel_rfl,rfl,by kernel_rfl⟩
theorem df_ok (T:TD):(dfS T).Body Tryz.prog 445/\(dfS T).BodyD Tryz.prog 445:=by
 refine genS_body (fn:=Tryz.f445) (b:=(bodyOf Tryz.f445)) (LT:=fun a=>[([0,1,0,1,1,1],(dfD T a.1 a.2.1 a.2.2.1 a.2.2.2).at (fS (eR a.1 a.2.1) a.2.2.1,fS (eR a.1 a.2.1) a.2.2.1+1,List.range a.2.2.1))]) ftOk (dfU_ok T) 1000 (fun a ha=>LTok.cons (fun fr H K hk=>LoopD.ok (dfD_b T a.1 a.2.1 a.2.2.1 a.2.2.2 ha) hk) (LTok.nil)) (by kernel_rfl) (by kernel_rfl) ?_
 exact fun a ha=>Ho.of (dfR T a.1 a.2.1 a.2.2.1 a.2.2.2) (by kernel_rfl) (df_r T a.1 a.2.1 a.2.2.1 a.2.2.2 ha)
def ezR (T:TD) (rn:Nat->Nat) (rc:Nat->Nat->By) (n:Nat) (c:Nat):Prop:=
 letI t:=domB T=domB T;letI r:=Value.int .i64 (Int.ofNat 0);letI g:=∃(x:Unit),True/\t/\True/\True/\False;letI f:=fun(q:Nat)=>AVal.famx (fun(k:Nat)=>AVal.by_ ((rc,n,c).fst q k)) ((rn,rc,n,c).fst q);letI d:=rowsN f;letI e:=rowsC f;letI b:=(d,e,n,c).fst;letI a:=kp (eR d e) n;t/\((∀(q:Nat),b q<=1000)/\1<=n/\n<=100/\n<=c)/\gd (Nat.beq n n) (c=c/\n<=n/\SubF f (fun(q:Nat)=>AVal.famx (fun(k:Nat)=>AVal.by_ ((e,n,c).fst q k)) (b q)) n []/\gd (Nat.ble c c) (r=r/\∀(x:(Nat->Nat)×(Nat->Nat->By)×Nat×Nat),letI u:=x.fst 0;letI s:=Int.ofNat x.snd.2.fst;letI p:=fun(c:Nat)=>byOf (AVal.by_ (x.2.fst 0 c));letI m:=(p,u);letI h:=m.snd;x=(fun(q:Nat)=>b (at0 a q),fun(q:Nat)=>rowsC f (at0 a q),List.length a,c)->br (s==Int.ofNat 1) (gd (decide (Int.ofNat 0<s)) (gd (Nat.blt 0 x.snd.2.fst) (t/\Nat.le h 1000/\u=h/\SubF (fun(k:Nat)=>AVal.by_ (x.2.fst 0 k)) (fun(c:Nat)=>AVal.by_ (m.fst c)) u []/\∀(x_1:Bool),x_1=rowE p h->br x_1 (∃(x:Unit),True/\t/\True/\True/\True) g))) g))
theorem ezU_ok (T:TD):TabOk Tryz.prog (ezU T):=by
 refine⟨fun f s h=>?_,fun f s h=>?_⟩
 ·unfold ezU at h
  simp only at h
  split at h
  ·cases h;exact genS_ok ie_fok (ie_ok T).1
  ·cases h;exact genS_ok df_fok (df_ok T).1
  ·cases h
 ·cases h
theorem ez_r (T:TD) (rn:Nat->Nat) (rc:Nat->Nat->By) (n c:Nat) (hd:((∀q,rn q<=1000)/\1<=n/\n<=100/\n<=c)/\allE rn rc n=true):ezR T rn rc n c:=by
 unfold ezR
 simp only[byOf,rowsN_famx,rowsC_famx]
 simp only[sj2,eq_self,implies_true,forall_eq,intE,intF,Nat.le_eq,sj1,leB_iff',sj0]
 obtain⟨⟨hrn,h1,h100,hc⟩,ha⟩:=hd
 unfold allE at ha
 rw[Bool.and_eq_true] at ha
 obtain⟨hl,he⟩:=ha
 exact⟨⟨hrn,h1,h100,hc⟩,Nat.le_refl _,fun _ _ _=>SubA.famx fun _ _=>byA,Nat.le_refl _,fun _=>⟨kp_pos h1,kp_pos h1,hrn _,fun _ _ _=>byA,fun hf=>Bool.noConfusion (he.symm.trans hf)⟩,fun hn=>hn (beqN_iff.1 hl)⟩
theorem ez_fok:FunOk Tryz.prog 431:=⟨Tryz.f431,by kernel_rfl,rfl,by kernel_rfl⟩
theorem ez_ok (T:TD):(ezS T).Body Tryz.prog 431/\(ezS T).BodyD Tryz.prog 431:=by
 refine genS_body (fn:=Tryz.f431) (b:=(bodyOf Tryz.f431)) (LT:=fun _=>[]) ftOk (ezU_ok T) 1000 (fun a ha=>LTok.nil) (by kernel_rfl) (by kernel_rfl) ?_
 exact fun a ha=>Ho.of (ezR T a.1 a.2.1 a.2.2.1 a.2.2.2) (by kernel_rfl) (ez_r T a.1 a.2.1 a.2.2.1 a.2.2.2 ha)
def erR (T:TD) (rn:Nat->Nat) (rc:Nat->Nat->By) (n:Nat) (c:Nat):Prop:=
 letI d1:=domB T=domB T;letI e1:=kp (eR rn rc) n;letI b1:=(rn,rc,n,c).fst;letI c1:=List (Nat×AVal);letI z:=Value.int .i64 (Int.ofNat 0);letI y:=([]:List AVal)=([]:List AVal);letI v:=(Nat->Nat)×(Nat->Nat->By)×Nat×Nat;letI u:=([]:c1)=([]:c1);letI g:=fun(q:Nat)=>AVal.famx (fun(k:Nat)=>AVal.by_ ((rc,n,c).fst q k)) (b1 q);letI e:=rowsN g;letI f:=rowsC g;letI d:=(fun(q:Nat)=>b1 (at0 e1 q),fun(q:Nat)=>rc (at0 e1 q),List.length e1,c);letI b:=(e,f,n,c).fst;letI a:=kp (eR e f) n;d1/\((∀(q:Nat),b q<=1000)/\1<=n/\n<=100/\n<=c)/\gd (Nat.beq n n) (c=c/\n<=n/\SubF g (fun(q:Nat)=>AVal.famx (fun(k:Nat)=>AVal.by_ ((f,n,c).fst q k)) (b q)) n []/\gd (Nat.ble c c) (z=z/\∀(x:v),letI a1:=Int.ofNat x.snd.2.fst;letI w:=fun(c:Nat)=>byOf (AVal.by_ (x.2.fst 0 c));letI t:=(w,x.fst 0);letI r:=t.snd;letI h:=fun(q:Nat)=>AVal.famx (fun(k:Nat)=>AVal.by_ (x.2.fst q k)) (x.fst q);x=(fun(q:Nat)=>b (at0 a q),fun(q:Nat)=>rowsC g (at0 a q),List.length a,c)->br (a1==Int.ofNat 1) (gd (decide (Int.ofNat 0<a1)) (gd (Nat.blt 0 x.snd.2.fst) (d1/\Nat.le r 1000/\x.fst 0=r/\SubF (fun(k:Nat)=>AVal.by_ (x.2.fst 0 k)) (fun(c:Nat)=>AVal.by_ (t.fst c)) (x.fst 0) []/\∀(x_1:Bool),x_1=rowE w r->br x_1 (∃(x:v),x=d/\d1/\True/\(u/\y/\∀(i:Nat),letI s:=AVal.famx (fun(k:Nat)=>AVal.by_ (x.2.fst i k)) (x.fst i);i<x.snd.2.fst->SubA 0 s s)/\False) (∃(x_2:v),x_2=d/\d1/\True/\(u/\y/\∀(i:Nat),letI m:=AVal.famx (fun(k:Nat)=>AVal.by_ (x_2.2.fst i k)) (x_2.fst i);i<x_2.snd.2.fst->SubA 0 m m)/\gd (Nat.beq x.snd.2.fst x_2.snd.2.fst) (x.snd.2.snd=x_2.snd.2.snd/\x_2.snd.2.fst<=x.snd.2.fst/\SubF h (fun(q:Nat)=>AVal.famx (fun(k:Nat)=>AVal.by_ (x_2.2.fst q k)) (x_2.fst q)) x_2.snd.2.fst []/\gd (Nat.ble x_2.snd.2.snd x.snd.2.snd) True))))) (∃(x_1:v),x_1=d/\d1/\True/\(u/\y/\∀(i:Nat),letI p:=AVal.famx (fun(k:Nat)=>AVal.by_ (x_1.2.fst i k)) (x_1.fst i);i<x_1.snd.2.fst->SubA 0 p p)/\gd (Nat.beq x.snd.2.fst x_1.snd.2.fst) (x.snd.2.snd=x_1.snd.2.snd/\x_1.snd.2.fst<=x.snd.2.fst/\SubF h (fun(q:Nat)=>AVal.famx (fun(k:Nat)=>AVal.by_ (x_1.2.fst q k)) (x_1.fst q)) x_1.snd.2.fst []/\gd (Nat.ble x_1.snd.2.snd x.snd.2.snd) True))))
theorem er_r (T:TD) (rn:Nat->Nat) (rc:Nat->Nat->By) (n c:Nat) (hd:((∀q,rn q<=1000)/\1<=n/\n<=100/\n<=c)/\allE rn rc n=false):erR T rn rc n c:=by
 unfold erR
 simp only[byOf,rowsN_famx,rowsC_famx]
 simp only[sj2,eq_self,implies_true,forall_eq,intE,intF,Nat.le_eq,sj1,leB_iff',sj0]
 obtain⟨⟨hrn,h1,h100,hc⟩,ha⟩:=hd
 have kf:∀i,i<(kp (eR rn rc) n).length->SubA 0 (AVal.famx (fun k=>AVal.by_ (rc (at0 (kp (eR rn rc) n) i) k)) (rn (at0 (kp (eR rn rc) n) i))) (AVal.famx (fun k=>AVal.by_ (rc (at0 (kp (eR rn rc) n) i) k)) (rn (at0 (kp (eR rn rc) n) i))):=fun i _=>SubA.famx fun _ _=>byA
 have no:(kp (eR rn rc) n).length=1->eR rn rc (at0 (kp (eR rn rc) n) 0)=true->False:=fun h he=>by
  unfold allE at ha
  rw[beqN_iff.2 h,Bool.true_and,he] at ha
  cases ha
 exact⟨⟨hrn,h1,h100,hc⟩,Nat.le_refl _,fun _ _ _=>SubA.famx fun _ _=>byA,Nat.le_refl _,fun hl=>⟨kp_pos h1,kp_pos h1,hrn _,fun _ _ _=>byA,fun ht=>no hl ht,fun _=>⟨kf,Nat.le_refl _,fun _ _ _=>SubA.famx fun _ _=>byA,Nat.le_refl _⟩⟩,fun _=>⟨kf,Nat.le_refl _,fun _ _ _=>SubA.famx fun _ _=>byA,Nat.le_refl _⟩⟩
theorem er_ok (T:TD):(erS T).Body Tryz.prog 431/\(erS T).BodyD Tryz.prog 431:=by
 refine genS_body (fn:=Tryz.f431) (b:=(bodyOf Tryz.f431)) (LT:=fun _=>[]) ftOk (ezU_ok T) 1000 (fun a ha=>LTok.nil) (by kernel_rfl) (by kernel_rfl) ?_
 exact fun a ha=>Ho.of (erR T a.1 a.2.1 a.2.2.1 a.2.2.2) (by kernel_rfl) (er_r T a.1 a.2.1 a.2.2.1 a.2.2.2 ha)
end Tk
