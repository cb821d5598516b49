/- Lemmas of this claim; the last text says what is proved. -/
import Derived.Test.YtjkgmpkgfhhaiaaGreatK22
import Derived.Test.YtjkgmpkgfhhaiaaGreatK33
import Derived.Test.YtjkgmpkgfhhaiaaGreatK32
set_option linter.all false
set_option maxRecDepth 1000000
namespace Tk
open Go Go.Sx Go.Proofs
open Q
variable [Syms]
def rfR (T:TD) (rn:Nat->Nat) (rc:Nat->Nat->By) (n:Nat) (c:Nat):Prop:=
 letI k1:=Int.ofNat n;letI m1:=0+(n-1);letI h1:=(rc,n,c).fst;letI g1:=domB T=domB T;letI e1:=(rn,rc,n,c).fst;letI f1:=List (Nat×AVal);letI d1:=e1 0;letI a1:=Int.ofNat m1;letI z:=m1+(n-m1);letI y:=([]:List AVal)=([]:List AVal);letI w:=decide (k1<=Int.ofNat c);letI v:=decide (a1<=k1);letI u:=Nat.ble (c*1) c&&Nat.blt c 9223372036854775808;letI t:=(Nat->Nat)×(Nat->Nat->By)×Nat×Nat;letI s:=([]:f1)=([]:f1);letI r:=fun(c_1:Nat)=>byOf (AVal.by_ (h1 0 c_1));letI g:=decide (Int.ofNat 1<=k1)&&w;letI e:=(r,d1).snd;letI d:=(fun(q:Nat)=>e1 (q+b1 rn rc),fun(q:Nat)=>rc (q+b1 rn rc),n-b1 rn rc,c);letI b:=∃(x:t),x=d/\g1/\True/\(s/\y/\∀(i:Nat),letI p:=AVal.famx (fun(k:Nat)=>AVal.by_ (x.2.fst i k)) (x.fst i);i<x.snd.2.fst->SubA 0 p p)/\gd (Nat.beq n x.snd.2.fst) (c=x.snd.2.snd/\x.snd.2.fst<=n/\SubF (fun(q:Nat)=>AVal.famx (fun(k:Nat)=>AVal.by_ (h1 q k)) (e1 q)) (fun(q:Nat)=>AVal.famx (fun(k:Nat)=>AVal.by_ (x.2.fst q k)) (x.fst q)) x.snd.2.fst []/\gd (Nat.ble x.snd.2.snd c) True);letI a:=gd g (gd (Nat.ble (1+(n-1)) n) (gd (Nat.ble (m1*24) 140737488355328&&(Nat.ble m1 140737488355328&&true)) ((∀(k:Nat),k<n-1->true=true)/\br (Nat.ble m1 c&&Nat.ble m1 n) (gd u (gd (v&&w) (gd (Nat.ble z n&&true) (∃(x:t),x=d/\g1/\True/\(s/\y/\∀(i:Nat),letI h:=AVal.famx (fun(k:Nat)=>AVal.by_ (x.2.fst i k)) (x.fst i);i<x.snd.2.fst->SubA 0 h h)/\gd (Nat.beq m1 x.snd.2.fst) (c=x.snd.2.snd/\x.snd.2.fst<=n/\SubF (fun(i:Nat)=>letI c1:=Nat.blt i m1;letI f:=AVal.famx (fun(k:Nat)=>AVal.by_ (h1 i k)) (e1 i);AVal.ite (c1||Nat.ble z i) (AVal.ite false f (AVal.ite c1 (AVal.famx (fun(k:Nat)=>AVal.by_ (h1 (1+i) k)) (e1 (1+i))) f)) (AVal.lit (Value.slice none 0 0))) (fun(q:Nat)=>AVal.famx (fun(k:Nat)=>AVal.by_ (x.2.fst q k)) (x.fst q)) x.snd.2.fst []/\gd (Nat.ble x.snd.2.snd c) True))))) (gd (Nat.beq 0 n&&u) (gd (v&&decide (k1<=a1)) (gd (Nat.ble z m1&&true) (∃(x:t),x=d/\g1/\True/\(s/\y/\∀(i:Nat),letI m:=AVal.famx (fun(k:Nat)=>AVal.by_ (x.2.fst i k)) (x.fst i);i<x.snd.2.fst->SubA 0 m m)/\gd (Nat.beq m1 x.snd.2.fst) False)))))));br (decide (k1>Int.ofNat 0)) (gd (decide (Int.ofNat 0<k1)) (gd (Nat.blt 0 n) (g1/\Nat.le e 1000/\d1=e/\SubF (fun(k:Nat)=>AVal.by_ (h1 0 k)) (fun(c_1:Nat)=>AVal.by_ ((fun(c_2:Nat)=>byOf (AVal.by_ (h1 0 c_2)),d1).fst c_1)) d1 []/\∀(x:Bool),x=rowE r e->br x (gd g (a/\a)) b))) b
theorem rf_r (T:TD) (rn:Nat->Nat) (rc:Nat->Nat->By) (n c:Nat) (hd:((∀q,rn q<=1000)/\1<=n/\n<=100/\n<=c)/\c<=1000):rfR T rn rc n c:=by
 unfold rfR
 obtain⟨⟨hrn,h1,h100,hc⟩,hc2⟩:=hd
 have kf:∀b i:Nat,SubA 0 (AVal.famx (fun k=>AVal.by_ (rc (i+b) k)) (rn (i+b))) (AVal.famx (fun k=>AVal.by_ (rc (i+b) k)) (rn (i+b))):=fun b i=>SubA.famx fun _ _=>byA
 simp only[byOf]
 have hr:rowE (fun c=>rc 0 c) (rn 0)=eR rn rc 0:=rfl
 cases he:eR rn rc 0 with
 |false=>
  have hb:b1 rn rc=0:=by unfold b1;rw[he];rfl
  simp only[hr,he,hb,Nat.add_zero,Nat.sub_zero]
  simp only[sj2,eq_self,implies_true,forall_eq,intE,intF,Nat.le_eq,Bool.false_eq_true,false_implies,sj1,leB_iff',sj0]
  exact⟨fun _=>⟨h1,h1,hrn 0,fun _ _ _=>byA,fun _=>⟨fun i _=>kf 0 i,Nat.le_refl _,fun q _ _=>kf 0 q,Nat.le_refl _⟩⟩,fun _=>⟨fun i _=>kf 0 i,Nat.le_refl _,fun q _ _=>kf 0 q,Nat.le_refl _⟩⟩
 |true=>
  have hb:b1 rn rc=1:=by unfold b1;rw[he];rfl
  simp only[hr,he,hb,Nat.zero_add]
  simp only[sj2,eq_self,implies_true,forall_eq,intE,intF,Nat.le_eq,Bool.true_eq_false,false_implies,sj1,leB_iff',sj0]
  refine⟨fun _=>⟨h1,h1,hrn 0,fun _ _ _=>byA,fun _=>⟨⟨h1,hc⟩,?_,?_⟩⟩,fun h=>absurd h1 h⟩
  all_goals
   refine⟨⟨h1,hc⟩,by omega,⟨by omega,by omega⟩,fun _=>⟨⟨by omega,by omega⟩,⟨by omega,hc⟩,by omega,fun i _=>kf 1 i,by omega,fun q hq _=>?_,Nat.le_refl _⟩,fun hf=>?_⟩
   ·refine iteA (by rw[blt_iff.2 hq];rfl) (iteB rfl (iteA (blt_iff.2 hq) ?_))
    show SubA _ (AVal.famx (fun k=>AVal.by_ (rc (1+q) k)) (rn (1+q))) _
    rw[Nat.add_comm 1 q];exact kf 1 q
   ·rw[leB_iff.2 (by omega),leB_iff.2 (by omega)] at hf;cases hf
theorem rf_fok:FunOk Tryz.prog 432:=⟨Tryz.f432,by kernel_rfl,rfl,by kernel_rfl⟩
theorem rf_ok (T:TD):(rfS T).Body Tryz.prog 432/\(rfS T).BodyD Tryz.prog 432:=by
 refine genS_body (fn:=Tryz.f432) (b:=(bodyOf Tryz.f432)) (LT:=fun _=>[]) ftOk (xfU_ok T) 1000 (fun a ha=>LTok.nil) (by kernel_rfl) (by kernel_rfl) ?_
 exact fun a ha=>Ho.of (rfR T a.1 a.2.1 a.2.2.1 a.2.2.2) (by kernel_rfl) (rf_r T a.1 a.2.1 a.2.2.1 a.2.2.2 ha)
def rgR (T:TD):Prop:=
 ∃(x:Unit),True/\domB T=domB T/\True/\True/\True
theorem rgU_ok (T:TD):TabOk Tryz.prog (rgU T):=by
 refine⟨fun f s h=>?_,fun f s h=>?_⟩
 ·unfold rgU at h
  simp only at h
  split at h
  ·cases h;exact noS_ok
  ·cases h
 ·cases h
theorem rg_r (T:TD):rgR T:=by
 unfold rgR
 try simp only[br_iff,gd_iff,Bool.and_eq_true,sj5,leB_iff,leB_iff',sj3,sj7]
 repeat' (first|done|omega|exact rfl|exact trivial|assumption|exact()|intro _|refine⟨?_,?_⟩)
theorem rg_ok (T:TD):(rgS T).Body Tryz.prog 432/\(rgS T).BodyD Tryz.prog 432:=by
 refine genS_body (fn:=Tryz.f432) (b:=(bodyOf Tryz.f432)) (LT:=fun _=>[]) ftOk (rgU_ok T) 1000 (fun a ha=>LTok.nil) (by kernel_rfl) (by kernel_rfl) ?_
 exact fun a ha=>Ho.of (rgR T) (by kernel_rfl) (rg_r T)
def czDRh (T:TD) (k:Nat):Prop:=
 letI n1:=k+1;letI m1:=n1+1;letI h1:=domB (TD.wh T true);letI g1:=Nat.beq n1 n1;letI f1:=fun(x:Nat)=>AVal.e0;letI d1:=h1=h1;letI c1:=fun(q:Nat)=>AVal.sp (SId.mk 4 (q+1) 0) 0;letI b1:=Value.int .i64 (IntKind.wrap .i64 (Int.ofNat n1));letI a1:=TD.mk T.R T.2 true T.4 T.pad T.keep T.span T.promote T.pres T.10 T.11 T.12 T.13 T.oP T.oK T.oM;letI z:=a1.R;letI w:=z-1;letI u:=w+1;letI v:=w-k;letI t:=Int.ofNat w;letI s:=u<=n1;letI r:=Nat.beq n1 u;letI p:=Value.int .i64 t;letI n:=decide (Int.ofNat k<t);letI m:=w=w;letI h:=SubF c1 c1 w [];letI g:=u=u;letI f:=Nat.ble u u;letI e:=fun(q:Nat)=>AVal.famx (fun(c:Nat)=>AVal.by_ (rc a1 q c)) (rn a1 q);letI d:=p=p;letI b:=Nat.ble (0+k+1+1+k+1+1+k+1+1+k+1+1+k+1+1+k+1+1+k+1+1+k+1+1+k+1+1+k+1+1+k+1+1+k+1+1+k+1+1+k+1+1+k+1+1+k+1+1+k+1+1+k+1+1+k+1+1+k+1+1+k+1+1+k+1+1+k+1+1+k+1+1) 140737488355328&&(Nat.ble m1 140737488355328&&true);letI a:=g1&&b;br n (gd n (gd (Nat.blt k w) (d1/\(n1<z/\TD.Ok a1)/\gd (g1&&true&&true) (∀(x:Nat),letI y:=a1.C x;x=n1->gd (g1&&(Nat.ble (0+w+1) u&&Nat.blt u 9223372036854775808&&b)) (br (Nat.ble m1 u) (gd a (∃(j':Nat),letI k1:=j'+1=m1;letI e1:=Nat.beq m1 (j'+1);Nat.le j' w/\w-j'<v/\d1/\m/\h/\d/\b1=Value.int .i64 (Int.ofNat j')/\gd e1 (g/\gd e1 (k1/\SubF e e n1 []/\y=rn a1 n1/\SubF (fun(q:Nat)=>AVal.by_ (ct a1 x q)) (fun(c:Nat)=>AVal.by_ (rc a1 n1 c)) y []/\gd f (k1/\SubF f1 f1 n1 []/\True))))) (gd a (∃(j':Nat),Nat.le j' w/\w-j'<v/\d1/\m/\h/\d/\b1=Value.int .i64 (Int.ofNat j')/\gd (Nat.beq m1 (j'+1)) False))))))) (∃(x:Unit),True/\d1/\gd r (g/\gd r (s/\SubF e e u []/\gd f (s/\SubF f1 f1 u []/\True))))
def czDRf (T:TD) (k:Nat):Prop:=
 letI f1:=k+1;letI e1:=f1+1;letI d1:=domB (TD.wh T false);letI c1:=fun(x:Nat)=>AVal.e0;letI b1:=fun(q:Nat)=>AVal.sp (SId.mk 4 q 0) 0;letI a1:=d1=d1;letI z:=Value.int .i64 (IntKind.wrap .i64 (Int.ofNat f1));letI y:=TD.mk T.R T.2 false T.4 T.pad T.keep T.span T.promote T.pres T.10 T.11 T.12 T.13 T.oP T.oK T.oM;letI w:=y.R;letI u:=w-0;letI r:=u+1;letI s:=u-k;letI t:=u+0;letI p:=Int.ofNat u;letI n:=Value.int .i64 p;letI m:=decide (Int.ofNat k<p);letI h:=SubF b1 b1 u [];letI g:=u=u;letI f:=r=r;letI e:=Nat.ble r r;letI d:=fun(q:Nat)=>AVal.famx (fun(c:Nat)=>AVal.by_ (rc y q c)) (rn y q);letI b:=n=n;letI a:=Nat.beq k k&&(Nat.ble (0+k+1+k+1+k+1+k+1+k+1+k+1+k+1+k+1+k+1+k+1+k+1+k+1+k+1+k+1+k+1+k+1+k+1+k+1+k+1+k+1+k+1+k+1+k+1+k+1) 140737488355328&&(Nat.ble f1 140737488355328&&true));br m (gd m (gd (Nat.blt k u) (a1/\(k<w/\TD.Ok y)/\gd (Nat.beq k k&&true&&true) (∀(x:Nat),letI v:=y.C x;x=k->gd (Nat.beq f1 f1&&(Nat.ble (0+u+1) r&&Nat.blt r 9223372036854775808&&(Nat.ble (0+k+1+1+k+1+1+k+1+1+k+1+1+k+1+1+k+1+1+k+1+1+k+1+1+k+1+1+k+1+1+k+1+1+k+1+1+k+1+1+k+1+1+k+1+1+k+1+1+k+1+1+k+1+1+k+1+1+k+1+1+k+1+1+k+1+1+k+1+1+k+1+1) 140737488355328&&(Nat.ble e1 140737488355328&&true)))) (br (Nat.ble e1 r) (gd a (∃(j':Nat),Nat.le j' u/\u-j'<s/\a1/\g/\h/\b/\z=Value.int .i64 (Int.ofNat j')/\gd (Nat.beq e1 (j'+1)) (f/\gd (Nat.beq f1 j') (j'+1=e1/\SubF d d f1 []/\v=rn y f1/\SubF (fun(q:Nat)=>AVal.by_ (ct y x q)) (fun(c:Nat)=>AVal.by_ (rc y f1 c)) v []/\gd e (j'=f1/\SubF c1 c1 k []/\True))))) (gd a (∃(j':Nat),Nat.le j' u/\u-j'<s/\a1/\g/\h/\b/\z=Value.int .i64 (Int.ofNat j')/\gd (Nat.beq e1 (j'+1)) False))))))) (∃(x:Unit),True/\a1/\gd (Nat.beq f1 r) (f/\gd (Nat.beq k t) (r<=f1/\SubF d d r []/\gd e (t<=k/\SubF c1 c1 t []/\True))))
def czRh (T:TD):Prop:=
 letI q2:=True/\True;letI p2:=domB (TD.wh T true);letI m2:=fun(x:Nat)=>AVal.e0;letI k2:=Int.ofNat 281474976710656;letI f2:=Value.int .i64 (Int.ofNat 0);letI z1:=p2=p2;letI v1:=fun(q:Nat)=>AVal.sp (SId.mk 4 (q+1) 0) 0;letI t1:=(Nat->Nat)×(Nat->Nat->By)×Nat×Nat;letI q1:=f2=f2;letI k1:=TD.mk T.R T.2 true T.4 T.pad T.keep T.span T.promote T.pres T.10 T.11 T.12 T.13 T.oP T.oK T.oM;letI h1:=k1.R;letI f1:=h1-1;letI e1:=k1.promote;letI d1:=f1+1;letI a1:=Nat.le 0 f1;letI c1:=(((((True/\q2)/\q2)/\q2)/\q2)/\q2)/\True;letI z:=Value.int .i64 (Int.ofNat f1);letI y:=IntKind.wrap .i64 (Int.ofNat d1);letI w:=Int.toNat y;letI v:=w*1;letI s:=∃(x:Unit),True/\z1/\True/\c1/\True;letI r:=∃(x:Unit),True/\z1/\True/\c1/\False;letI p:=f1=f1;letI n:=SubF v1 v1 f1 [];letI g:=d1<=d1;letI f:=Nat.beq d1 d1;letI d:=fun(q:Nat)=>AVal.famx (fun(c:Nat)=>AVal.by_ (rc k1 q c)) (rn k1 q);letI b:=z=z;letI a:=∀(x:Unit),True->z1/\((∀(i:Nat),letI e:=AVal.famx (fun(c:Nat)=>AVal.by_ (rc k1 i c)) (rn k1 i);SubA 0 e e)/\d1<=100/\g)/\gd f (d1=d1/\gd f (g/\SubF d d d1 []/\gd (Nat.ble d1 d1) (g/\SubF m2 m2 d1 []/\∀(x:(Nat->AVal)×Nat×Nat×Nat),letI r2:=rowsN x.1;letI s2:=rowsC x.1;letI n2:=(x.2.fst,x.snd.2.snd);letI g2:=n2.fst;letI h2:=n2.snd;letI b2:=g2<=x.2.fst;letI a2:=x.snd.2.snd=h2;letI y1:=Nat.beq x.2.fst g2;letI w1:=Nat.ble h2 x.snd.2.snd;letI u1:=(r2,s2,x.2.fst,x.snd.2.snd).fst;letI s1:=allE r2 s2 g2;letI r1:=kp (eR r2 s2) g2;letI t:=SubF x.1 (fun(q:Nat)=>AVal.famx (fun(k:Nat)=>AVal.by_ ((s2,x.2.fst,x.snd.2.snd).fst q k)) (u1 q)) g2 [];letI h:=(∀(q:Nat),u1 q<=1000)/\1<=g2/\g2<=100/\g2<=h2;x=(d,d1,d1,d1)->br s1 (z1/\(h/\s1=true)/\gd y1 (a2/\b2/\t/\gd w1 (∀(x:Unit),True->br e1 (z1/\True/\∀(x:Unit),True->s) s))) (z1/\(h/\s1=false)/\gd y1 (a2/\b2/\t/\gd w1 (∀(x_1:t1),letI e2:=(x_1.snd.2.fst,x_1.snd.2.snd);letI c2:=e2.fst;letI d2:=e2.snd;letI p1:=fun(q:Nat)=>AVal.famx (fun(k:Nat)=>AVal.by_ (x_1.2.fst q k)) (x_1.fst q);letI m1:=rowsN p1;letI n1:=rowsC p1;letI u:=b1 m1 n1;letI m:=(m1,n1,x_1.snd.2.fst,x_1.snd.2.snd).fst;x_1=(fun(q:Nat)=>u1 (at0 r1 q),fun(q:Nat)=>rowsC x.1 (at0 r1 q),List.length r1,h2)->br e1 (z1/\(((∀(q:Nat),m q<=1000)/\1<=c2/\c2<=100/\c2<=d2)/\d2<=1000)/\gd (Nat.beq x_1.snd.2.fst c2) (x_1.snd.2.snd=d2/\c2<=x_1.snd.2.fst/\SubF p1 (fun(q:Nat)=>AVal.famx (fun(k:Nat)=>AVal.by_ ((n1,x_1.snd.2.fst,x_1.snd.2.snd).fst q k)) (m q)) c2 []/\gd (Nat.ble d2 x_1.snd.2.snd) (∀(x:t1),x=(fun(q:Nat)=>m (q+u),fun(q:Nat)=>rowsC p1 (q+u),c2-u,d2)->r))) r))))));gd (decide (Int.ofNat 0<=y)&&(decide (y<=k2)&&(decide (Int.ofNat 24*y<=k2)&&true))) (z1/\(0<h1/\TD.Ok k1)/\∀(x:Nat),letI g1:=k1.C x;x=0->gd (Nat.ble v v&&Nat.blt w 9223372036854775808&&true) (br (Nat.ble 1 w) (a1/\(z1/\p/\n/\b/\q1/\w=d1/\1=1/\g1=rn k1 0/\SubF (fun(q:Nat)=>AVal.by_ (ct k1 x q)) (fun(c:Nat)=>AVal.by_ (rc k1 0 c)) g1 []/\gd (Nat.ble d1 v) (1=1/\True))/\a) (a1/\(z1/\p/\n/\b/\q1/\False)/\a)))
def czRf (T:TD):Prop:=
 letI p2:=True/\True;letI n2:=domB (TD.wh T false);letI k2:=fun(x:Nat)=>AVal.e0;letI h2:=Int.ofNat 281474976710656;letI e2:=Value.int .i64 (Int.ofNat 0);letI y1:=fun(q:Nat)=>AVal.sp (SId.mk 4 q 0) 0;letI v1:=n2=n2;letI s1:=(Nat->Nat)×(Nat->Nat->By)×Nat×Nat;letI p1:=e2=e2;letI h1:=TD.mk T.R T.2 false T.4 T.pad T.keep T.span T.promote T.pres T.10 T.11 T.12 T.13 T.oP T.oK T.oM;letI g1:=h1.R-0;letI f1:=h1.promote;letI d1:=g1+1;letI e1:=g1+0;letI c1:=(((((True/\p2)/\p2)/\p2)/\p2)/\p2)/\True;letI a1:=Nat.le 0 g1;letI z:=Value.int .i64 (Int.ofNat g1);letI y:=IntKind.wrap .i64 (Int.ofNat d1);letI w:=Int.toNat y;letI v:=w*1;letI s:=SubF y1 y1 g1 [];letI r:=∃(x:Unit),True/\v1/\True/\c1/\True;letI p:=∃(x:Unit),True/\v1/\True/\c1/\False;letI n:=g1=g1;letI g:=d1<=d1;letI f:=(e1,d1).fst;letI d:=fun(q:Nat)=>AVal.famx (fun(c:Nat)=>AVal.by_ (rc h1 q c)) (rn h1 q);letI b:=z=z;letI a:=∀(x:Unit),True->v1/\((∀(i:Nat),letI e:=AVal.famx (fun(c:Nat)=>AVal.by_ (rc h1 i c)) (rn h1 i);SubA 0 e e)/\f<=100/\g)/\gd (Nat.beq d1 d1) (d1=d1/\gd (Nat.beq e1 f) (g/\SubF d d d1 []/\gd (Nat.ble d1 d1) (f<=e1/\SubF k2 k2 f []/\∀(x:(Nat->AVal)×Nat×Nat×Nat),letI q2:=rowsN x.1;letI r2:=rowsC x.1;letI m2:=(x.2.fst,x.snd.2.snd);letI f2:=m2.fst;letI g2:=m2.snd;letI a2:=f2<=x.2.fst;letI z1:=x.snd.2.snd=g2;letI w1:=Nat.beq x.2.fst f2;letI u1:=Nat.ble g2 x.snd.2.snd;letI t1:=(q2,r2,x.2.fst,x.snd.2.snd).fst;letI r1:=allE q2 r2 f2;letI q1:=kp (eR q2 r2) f2;letI t:=SubF x.1 (fun(q:Nat)=>AVal.famx (fun(k:Nat)=>AVal.by_ ((r2,x.2.fst,x.snd.2.snd).fst q k)) (t1 q)) f2 [];letI h:=(∀(q:Nat),t1 q<=1000)/\1<=f2/\f2<=100/\f2<=g2;x=(d,d1,e1,d1)->br r1 (v1/\(h/\r1=true)/\gd w1 (z1/\a2/\t/\gd u1 (∀(x:Unit),True->br f1 (v1/\True/\∀(x:Unit),True->r) r))) (v1/\(h/\r1=false)/\gd w1 (z1/\a2/\t/\gd u1 (∀(x_1:s1),letI d2:=(x_1.snd.2.fst,x_1.snd.2.snd);letI b2:=d2.fst;letI c2:=d2.snd;letI n1:=fun(q:Nat)=>AVal.famx (fun(k:Nat)=>AVal.by_ (x_1.2.fst q k)) (x_1.fst q);letI k1:=rowsN n1;letI m1:=rowsC n1;letI u:=b1 k1 m1;letI m:=(k1,m1,x_1.snd.2.fst,x_1.snd.2.snd).fst;x_1=(fun(q:Nat)=>t1 (at0 q1 q),fun(q:Nat)=>rowsC x.1 (at0 q1 q),List.length q1,g2)->br f1 (v1/\(((∀(q:Nat),m q<=1000)/\1<=b2/\b2<=100/\b2<=c2)/\c2<=1000)/\gd (Nat.beq x_1.snd.2.fst b2) (x_1.snd.2.snd=c2/\b2<=x_1.snd.2.fst/\SubF n1 (fun(q:Nat)=>AVal.famx (fun(k:Nat)=>AVal.by_ ((m1,x_1.snd.2.fst,x_1.snd.2.snd).fst q k)) (m q)) b2 []/\gd (Nat.ble c2 x_1.snd.2.snd) (∀(x:s1),x=(fun(q:Nat)=>m (q+u),fun(q:Nat)=>rowsC n1 (q+u),b2-u,c2)->p))) p))))));gd (decide (Int.ofNat 0<=y)&&(decide (y<=h2)&&(decide (Int.ofNat 24*y<=h2)&&true))) (gd (Nat.ble v v&&Nat.blt w 9223372036854775808&&true) (br (Nat.ble 1 w) (a1/\(v1/\n/\s/\b/\p1/\w=d1/\1=1/\0=rn h1 0/\0=0/\gd (Nat.ble d1 v) (0=0/\0<=0/\True))/\a) (a1/\(v1/\n/\s/\b/\p1/\False)/\a)))
theorem czU_ok (T:TD):TabOk Tryz.prog (czU T):=by
 refine⟨fun f s h=>?_,fun f s h=>?_⟩
 ·unfold czU at h
  simp only at h
  split at h
  ·cases h;exact genS_ok cc_fok (cc_ok T).1
  ·cases h;exact genS_ok gm_fok (gm_ok T).1
  ·cases h;exact iteS_ok (genS_ok ez_fok (ez_ok T).1) (genS_ok ez_fok (er_ok T).1)
  ·cases h;exact orS_ok (genS_ok rf_fok (rf_ok T).1) (genS_ok rf_fok (rg_ok T).1)
  ·cases h
 ·cases h
theorem czD_rh (T:TD) (k:Nat) (hT:TD.Ok (T.wh true)) (h:k<=T.R-1):czDRh T k:=by
 unfold czDRh
 have hr:=hT.r
 have hr2:=hT.r2
 have hc2:=hT.c2
 simp only[TD.wh] at hr hr2 hc2
 have e1:IntKind.wrap IntKind.i64 (Int.ofNat (k+1))=Int.ofNat (k+1):=wrapI (by simp only[Int.ofNat_eq_natCast];omega) (by simp only[Int.ofNat_eq_natCast];omega)
 simp only[TD.wh,hN,nR,cond_true,cond_false,e1,Nat.sub_zero,Nat.add_zero]
 simp only[sj2,eq_self,implies_true,forall_eq,intE,intF,Nat.le_eq,sj1,leB_iff',sj0]
 repeat' (first|omega|exact hT|exact rfl|exact fun _ _ _=>SubA.famx fun _ _=>byA|exact fun _ _ _=>byA|exact fun _ _ _=>pinA|exact fun _ _ _=>nlS_sub rfl|refine⟨k+1,?_⟩|intro _|refine And.intro ?_ ?_)
theorem czD_rf (T:TD) (k:Nat) (hT:TD.Ok (T.wh false)) (h:k<=T.R):czDRf T k:=by
 unfold czDRf
 have hr:=hT.r
 have hr2:=hT.r2
 have hc2:=hT.c2
 simp only[TD.wh] at hr hr2 hc2
 have e1:IntKind.wrap IntKind.i64 (Int.ofNat (k+1))=Int.ofNat (k+1):=wrapI (by simp only[Int.ofNat_eq_natCast];omega) (by simp only[Int.ofNat_eq_natCast];omega)
 simp only[TD.wh,hN,nR,cond_true,cond_false,e1,Nat.sub_zero,Nat.add_zero]
 simp only[sj2,eq_self,implies_true,forall_eq,intE,intF,Nat.le_eq,sj1,leB_iff',sj0]
 repeat' (first|omega|exact hT|exact rfl|exact fun _ _ _=>SubA.famx fun _ _=>byA|exact fun _ _ _=>byA|exact fun _ _ _=>pinA|exact fun _ _ _=>nlS_sub rfl|refine⟨k+1,?_⟩|intro _|refine And.intro ?_ ?_)
theorem czD_b (T:TD) (hT:T.Ok):(czD T).Body Tryz.prog (sub (bodyOf Tryz.f415) [0,0,1,0,1,1,1,1]):=by
 refine LoopD.bodyH (root:=(bodyOf Tryz.f415)) [0,0,1,0,1,1,1,1] ftOk (czU_ok T) (LTok.nil) 1000 ?_
 exact fun k hk=>by
  cases hh:T.hd with
  |true=>
   obtain⟨T',rfl⟩:∃T':TD,T=T'.wh true:=⟨T,by cases T;simp only[TD.wh] at hh⊢;rw[hh]⟩
   exact Ho.of (czDRh T' k) (by kernel_rfl) (czD_rh T' k hT hk)
  |false=>
   obtain⟨T',rfl⟩:∃T':TD,T=T'.wh false:=⟨T,by cases T;simp only[TD.wh] at hh⊢;rw[hh]⟩
   exact Ho.of (czDRf T' k) (by kernel_rfl) (czD_rf T' k hT hk)
theorem cz_rh (T:TD) (hT:TD.Ok (T.wh true)/\allE (rn (T.wh true)) (rc (T.wh true)) (nR (T.wh true))=true):czRh T:=by
 unfold czRh
 obtain⟨hT,ha⟩:=hT
 have hr:=hT.r
 have hr2:=hT.r2
 have hc2:=hT.c2
 have hc:=hT.c
 simp only[TD.wh] at hr hr2 hc2 hc
 have e1:∀m:Nat,m<=1000->IntKind.wrap IntKind.i64 (Int.ofNat m)=Int.ofNat m:=fun m h=>wrapI (by simp only[Int.ofNat_eq_natCast];omega) (by simp only[Int.ofNat_eq_natCast];omega)
 have e2:=e1 (T.R-1+1) (by omega)
 have e3:=e1 (T.R+1) (by omega)
 have e4:=e1 (T.R-0+1) (by omega)
 have tn:∀n:Nat,Int.toNat (Int.ofNat n)=n:=fun n=>rfl
 have hrn:∀T:TD,T.Ok->∀q,rn T q<=1000:=fun T ok q=>by
  have:=ok.c2
  unfold rn;cases T.hd with
  |true=>have:=this q;simp only[cond_true];omega
  |false=>cases q with
   |zero=>simp
   |succ q=>have:=this q;simp only[cond_false];omega
 have hrn:=hrn _ hT
 simp only[TD.wh,nR,hN,cond_true,cond_false,Nat.sub_zero] at hrn ha
 simp only[TD.wh,hN,nR,cond_true,cond_false,e2,e3,e4,tn,Nat.sub_zero,Nat.add_zero]
 simp only[sj2,eq_self,implies_true,forall_eq,intE,intF,Nat.le_eq,rowsN_famx,rowsC_famx,Nat.mul_one,sj1,leB_iff',sj0]
 simp only[ha,Bool.true_eq_false,Bool.false_eq_true,false_implies,true_implies,and_true]
 cases hp:T.promote<;>try simp only[finR,kR,nR,hN,hp,cond_true,cond_false,Nat.add_zero,Nat.sub_zero,Bool.true_eq_false,Bool.false_eq_true,false_implies,true_implies,and_true,true_and]
 all_goals repeat' (first|omega|exact trivial|(simpa only[TD.wh,hp] using hT;done)|exact kp_pos (by omega)|exact Nat.le_trans kp_len (by omega)|exact fun _=>hrn _|exact hT|exact hrn|exact hrn _|exact rfl|exact fun _ _ _=>SubA.famx fun _ _=>byA|exact fun _ _ _=>byA|exact fun _ _ _=>pinA|exact fun _ _ _=>nlS_sub rfl|exact SubA.famx fun _ _=>byA|intro _|refine And.intro ?_ ?_)
theorem cz_rf (T:TD) (hT:TD.Ok (T.wh false)/\allE (rn (T.wh false)) (rc (T.wh false)) (nR (T.wh false))=true):czRf T:=by
 unfold czRf
 obtain⟨hT,ha⟩:=hT
 have hr:=hT.r
 have hr2:=hT.r2
 have hc2:=hT.c2
 have hc:=hT.c
 simp only[TD.wh] at hr hr2 hc2 hc
 have e1:∀m:Nat,m<=1000->IntKind.wrap IntKind.i64 (Int.ofNat m)=Int.ofNat m:=fun m h=>wrapI (by simp only[Int.ofNat_eq_natCast];omega) (by simp only[Int.ofNat_eq_natCast];omega)
 have e2:=e1 (T.R-1+1) (by omega)
 have e3:=e1 (T.R+1) (by omega)
 have e4:=e1 (T.R-0+1) (by omega)
 have tn:∀n:Nat,Int.toNat (Int.ofNat n)=n:=fun n=>rfl
 have hrn:∀T:TD,T.Ok->∀q,rn T q<=1000:=fun T ok q=>by
  have:=ok.c2
  unfold rn;cases T.hd with
  |true=>have:=this q;simp only[cond_true];omega
  |false=>cases q with
   |zero=>simp
   |succ q=>have:=this q;simp only[cond_false];omega
 have hrn:=hrn _ hT
 simp only[TD.wh,nR,hN,cond_true,cond_false,Nat.sub_zero] at hrn ha
 simp only[TD.wh,hN,nR,cond_true,cond_false,e2,e3,e4,tn,Nat.sub_zero,Nat.add_zero]
 simp only[sj2,eq_self,implies_true,forall_eq,intE,intF,Nat.le_eq,rowsN_famx,rowsC_famx,Nat.mul_one,sj1,leB_iff',sj0]
 simp only[ha,Bool.true_eq_false,Bool.false_eq_true,false_implies,true_implies,and_true]
 cases hp:T.promote<;>try simp only[finR,kR,nR,hN,hp,cond_true,cond_false,Nat.add_zero,Nat.sub_zero,Bool.true_eq_false,Bool.false_eq_true,false_implies,true_implies,and_true,true_and]
 all_goals repeat' (first|omega|exact trivial|(simpa only[TD.wh,hp] using hT;done)|exact kp_pos (by omega)|exact Nat.le_trans kp_len (by omega)|exact fun _=>hrn _|exact hT|exact hrn|exact hrn _|exact rfl|exact fun _ _ _=>SubA.famx fun _ _=>byA|exact fun _ _ _=>byA|exact fun _ _ _=>pinA|exact fun _ _ _=>nlS_sub rfl|exact SubA.famx fun _ _=>byA|intro _|refine And.intro ?_ ?_)
theorem cz_fok:FunOk Tryz.prog 415:=⟨Tryz.f415,by kernel_rfl,rfl,by kernel_rfl⟩
theorem cz_ok (T:TD):(czS T).Body Tryz.prog 415/\(czS T).BodyD Tryz.prog 415:=by
 refine genS_body (fn:=Tryz.f415) (b:=(bodyOf Tryz.f415)) (LT:=fun _=>[([0,1,0,1,1,1,1],(czD T).at (0:Nat))]) ftOk (czU_ok T) 1000 (fun _ ha=>LTok.cons (fun fr H K hk=>LoopD.ok (czD_b T ha.1) hk) (LTok.nil)) (by kernel_rfl) (by kernel_rfl) ?_
 intro a ha
 cases hh:T.hd with
 |true=>
  obtain⟨T',rfl⟩:∃T':TD,T=T'.wh true:=⟨T,by cases T;simp only[TD.wh] at hh⊢;rw[hh]⟩
  exact Ho.of (czRh T') (by kernel_rfl) (cz_rh T' ha)
 |false=>
  obtain⟨T',rfl⟩:∃T':TD,T=T'.wh false:=⟨T,by cases T;simp only[TD.wh] at hh⊢;rw[hh]⟩
  exact Ho.of (czRf T') (by kernel_rfl) (cz_rf T' ha)
end Tk
