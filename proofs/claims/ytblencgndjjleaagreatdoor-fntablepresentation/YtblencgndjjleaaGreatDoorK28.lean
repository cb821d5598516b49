/- Lemmas of this claim; the last text says what is proved. -/
import Derived.Test.YtblencgndjjleaaGreatDoorK27
set_option linter.all false
set_option maxRecDepth 1000000
namespace Tk
open Go Go.Sx Go.Proofs
open Q
variable [Syms]
def s_R(T:TD)(k:Nat):Prop:=
 letI n1:=k+1;letI m1:=n1+1;letI h1:=a_f (TD.wh T true);letI g1:=Nat.beq n1 n1;letI f1:=fun(x:Nat)=>AVal.e0;letI d1:=h1=h1;letI c1:=fun(q:Nat)=>AVal.sp (SId.mk 4 (q+1) 0) 0;letI b1:=Value.int .i64 (IntKind.wrap .i64 (Int.ofNat n1));letI a1:=TD.mk T.R T.2 true T.4 T.pad T.keep T.span T.promote T.pres T.skip T.role T.12 T.13 T.14 T.15 T.oP T.oK T.oM;letI z:=a1.R;letI w:=z-1;letI u:=w+1;letI v:=w-k;letI t:=Int.ofNat w;letI s:=u<=n1;letI r:=Nat.beq n1 u;letI p:=Value.int .i64 t;letI n:=decide (Int.ofNat k<t);letI m:=SubF c1 c1 w [];letI h:=w=w;letI g:=u=u;letI f:=Nat.ble u u;letI e:=fun(q:Nat)=>AVal.famx (fun(c:Nat)=>AVal.by_ (rc a1 q c)) (rn a1 q);letI d:=p=p;letI b:=Nat.ble (0+k+1+1+k+1+1+k+1+1+k+1+1+k+1+1+k+1+1+k+1+1+k+1+1+k+1+1+k+1+1+k+1+1+k+1+1+k+1+1+k+1+1+k+1+1+k+1+1+k+1+1+k+1+1+k+1+1+k+1+1+k+1+1+k+1+1+k+1+1+k+1+1) 140737488355328&&(Nat.ble m1 140737488355328&&true);letI a:=g1&&b;br n (gd n (gd (Nat.blt k w) (d1/\(n1<z/\TD.Ok a1)/\gd (g1&&true&&true) (∀(x:Nat),letI y:=a1.C x;x=n1->gd (g1&&(Nat.ble (0+w+1) u&&Nat.blt u 9223372036854775808&&b)) (br (Nat.ble m1 u) (gd a (∃(j':Nat),letI k1:=j'+1=m1;letI e1:=Nat.beq m1 (j'+1);Nat.le j' w/\w-j'<v/\d1/\h/\m/\d/\b1=Value.int .i64 (Int.ofNat j')/\gd e1 (g/\gd e1 (k1/\SubF e e n1 []/\y=rn a1 n1/\SubF (fun(q:Nat)=>AVal.by_ (ct a1 x q)) (fun(c:Nat)=>AVal.by_ (rc a1 n1 c)) y []/\gd f (k1/\SubF f1 f1 n1 []/\True))))) (gd a (∃(j':Nat),Nat.le j' w/\w-j'<v/\d1/\h/\m/\d/\b1=Value.int .i64 (Int.ofNat j')/\gd (Nat.beq m1 (j'+1)) False))))))) (∃(x:Unit),True/\d1/\gd r (g/\gd r (s/\SubF e e u []/\gd f (s/\SubF f1 f1 u []/\True))))
def s_S(T:TD)(k:Nat):Prop:=
 letI f1:=k+1;letI e1:=f1+1;letI d1:=a_f (TD.wh T false);letI c1:=fun(x:Nat)=>AVal.e0;letI b1:=fun(q:Nat)=>AVal.sp (SId.mk 4 q 0) 0;letI a1:=d1=d1;letI z:=Value.int .i64 (IntKind.wrap .i64 (Int.ofNat f1));letI y:=Nat.beq k k&&(Nat.ble (f1*24) 140737488355328&&(Nat.ble f1 140737488355328&&true));letI w:=TD.mk T.R T.2 false T.4 T.pad T.keep T.span T.promote T.pres T.skip T.role T.12 T.13 T.14 T.15 T.oP T.oK T.oM;letI v:=w.R;letI t:=v-0;letI p:=t+1;letI r:=t-k;letI s:=t+0;letI n:=Int.ofNat t;letI m:=Value.int .i64 n;letI h:=decide (Int.ofNat k<n);letI g:=SubF b1 b1 t [];letI f:=t=t;letI e:=p=p;letI d:=Nat.ble p p;letI b:=fun(q:Nat)=>AVal.famx (fun(c:Nat)=>AVal.by_ (rc w q c)) (rn w q);letI a:=m=m;br h (gd h (gd (Nat.blt k t) (a1/\(k<v/\TD.Ok w)/\gd (Nat.beq k k&&true&&true) (∀(x:Nat),letI u:=w.C x;x=k->gd (Nat.beq f1 f1&&(Nat.ble (0+t+1) p&&Nat.blt p 9223372036854775808&&(Nat.ble (0+k+1+1+k+1+1+k+1+1+k+1+1+k+1+1+k+1+1+k+1+1+k+1+1+k+1+1+k+1+1+k+1+1+k+1+1+k+1+1+k+1+1+k+1+1+k+1+1+k+1+1+k+1+1+k+1+1+k+1+1+k+1+1+k+1+1+k+1+1+k+1+1) 140737488355328&&(Nat.ble e1 140737488355328&&true)))) (br (Nat.ble e1 p) (gd y (∃(j':Nat),Nat.le j' t/\t-j'<r/\a1/\f/\g/\a/\z=Value.int .i64 (Int.ofNat j')/\gd (Nat.beq e1 (j'+1)) (e/\gd (Nat.beq f1 j') (j'+1=e1/\SubF b b f1 []/\u=rn w f1/\SubF (fun(q:Nat)=>AVal.by_ (ct w x q)) (fun(c:Nat)=>AVal.by_ (rc w f1 c)) u []/\gd d (j'=f1/\SubF c1 c1 k []/\True))))) (gd y (∃(j':Nat),Nat.le j' t/\t-j'<r/\a1/\f/\g/\a/\z=Value.int .i64 (Int.ofNat j')/\gd (Nat.beq e1 (j'+1)) False))))))) (∃(x:Unit),True/\a1/\gd (Nat.beq f1 p) (e/\gd (Nat.beq k s) (p<=f1/\SubF b b p []/\gd d (s<=k/\SubF c1 c1 s []/\True))))
def C_J(T:TD):Prop:=
 letI r2:=True/\True;letI q2:=a_f (TD.wh T true);letI n2:=fun(x:Nat)=>AVal.e0;letI m2:=Int.ofNat 281474976710656;letI f2:=Value.int .i64 (Int.ofNat 0);letI z1:=q2=q2;letI v1:=fun(q:Nat)=>AVal.sp (SId.mk 4 (q+1) 0) 0;letI t1:=(Nat->Nat)×(Nat->Nat->By)×Nat×Nat;letI q1:=f2=f2;letI k1:=TD.mk T.R T.2 true T.4 T.pad T.keep T.span T.promote T.pres T.skip T.role T.12 T.13 T.14 T.15 T.oP T.oK T.oM;letI h1:=k1.R;letI g1:=(((((True/\r2)/\r2)/\r2)/\r2)/\r2)/\True;letI e1:=h1-1;letI d1:=k1.promote;letI c1:=e1+1;letI a1:=Nat.le 0 e1;letI z:=Value.int .i64 (Int.ofNat e1);letI y:=IntKind.wrap .i64 (Int.ofNat c1);letI w:=Int.toNat y;letI v:=w*1;letI s:=∃(x:Unit),True/\z1/\True/\g1/\True;letI r:=∃(x:Unit),True/\z1/\True/\g1/\False;letI m:=SubF v1 v1 e1 [];letI h:=e1=e1;letI g:=c1<=c1;letI f:=Nat.beq c1 c1;letI d:=fun(q:Nat)=>AVal.famx (fun(c:Nat)=>AVal.by_ (rc k1 q c)) (rn k1 q);letI b:=z=z;letI a:=∀(x:Unit),True->z1/\((∀(i:Nat),letI e:=AVal.famx (fun(c:Nat)=>AVal.by_ (rc k1 i c)) (rn k1 i);SubA 0 e e)/\c1<=100/\g)/\gd f (c1=c1/\gd f (g/\SubF d d c1 []/\gd (Nat.ble c1 c1) (g/\SubF n2 n2 c1 []/\∀(x:(Nat->AVal)×Nat×Nat×Nat),letI s2:=rowsN x.1;letI t2:=rowsC x.1;letI p2:=(x.2.fst,x.snd.2.snd);letI g2:=p2.fst;letI h2:=p2.snd;letI k2:=b1 s2 t2;letI b2:=g2<=x.2.fst;letI a2:=x.snd.2.snd=h2;letI y1:=Nat.beq x.2.fst g2;letI w1:=Nat.ble h2 x.snd.2.snd;letI u1:=(s2,t2,x.2.fst,x.snd.2.snd).fst;letI s1:=allE s2 t2 g2;letI r1:=kp (eR s2 t2) g2;letI t:=SubF x.1 (fun(q:Nat)=>AVal.famx (fun(k:Nat)=>AVal.by_ ((t2,x.2.fst,x.snd.2.snd).fst q k)) (u1 q)) g2 [];letI n:=(∀(q:Nat),u1 q<=1000)/\1<=g2/\g2<=100/\g2<=h2;x=(d,c1,c1,c1)->br k1.skip (br s1 (z1/\(n/\s1=true)/\gd y1 (a2/\b2/\t/\gd w1 (∀(x:Unit),True->br d1 (z1/\True/\∀(x:Unit),True->s) s))) (z1/\(n/\s1=false)/\gd y1 (a2/\b2/\t/\gd w1 (∀(x_1:t1),letI e2:=(x_1.snd.2.fst,x_1.snd.2.snd);letI c2:=e2.fst;letI d2:=e2.snd;letI p1:=fun(q:Nat)=>AVal.famx (fun(k:Nat)=>AVal.by_ (x_1.2.fst q k)) (x_1.fst q);letI m1:=rowsN p1;letI n1:=rowsC p1;letI u:=b1 m1 n1;letI p:=(m1,n1,x_1.snd.2.fst,x_1.snd.2.snd).fst;x_1=(fun(q:Nat)=>u1 (at0 r1 q),fun(q:Nat)=>rowsC x.1 (at0 r1 q),List.length r1,h2)->br d1 (z1/\(((∀(q:Nat),p q<=1000)/\1<=c2/\c2<=100/\c2<=d2)/\d2<=1000)/\gd (Nat.beq x_1.snd.2.fst c2) (x_1.snd.2.snd=d2/\c2<=x_1.snd.2.fst/\SubF p1 (fun(q:Nat)=>AVal.famx (fun(k:Nat)=>AVal.by_ ((n1,x_1.snd.2.fst,x_1.snd.2.snd).fst q k)) (p q)) c2 []/\gd (Nat.ble d2 x_1.snd.2.snd) (∀(x:t1),x=(fun(q:Nat)=>p (q+u),fun(q:Nat)=>rowsC p1 (q+u),c2-u,d2)->r))) r)))) (br d1 (z1/\(n/\h2<=1000)/\gd y1 (a2/\b2/\t/\gd w1 (∀(x_1:t1),x_1=(fun(q:Nat)=>u1 (q+k2),fun(q:Nat)=>rowsC x.1 (q+k2),g2-k2,h2)->r))) r))));gd (decide (Int.ofNat 0<=y)&&(decide (y<=m2)&&(decide (Int.ofNat 24*y<=m2)&&true))) (z1/\(0<h1/\TD.Ok k1)/\∀(x:Nat),letI f1:=k1.C x;x=0->gd (Nat.ble v v&&Nat.blt w 9223372036854775808&&true) (br (Nat.ble 1 w) (a1/\(z1/\h/\m/\b/\q1/\w=c1/\1=1/\f1=rn k1 0/\SubF (fun(q:Nat)=>AVal.by_ (ct k1 x q)) (fun(c:Nat)=>AVal.by_ (rc k1 0 c)) f1 []/\gd (Nat.ble c1 v) (1=1/\True))/\a) (a1/\(z1/\h/\m/\b/\q1/\False)/\a)))
def C_K(T:TD):Prop:=
 letI q2:=True/\True;letI p2:=a_f (TD.wh T false);letI m2:=fun(x:Nat)=>AVal.e0;letI k2:=Int.ofNat 281474976710656;letI e2:=Value.int .i64 (Int.ofNat 0);letI y1:=fun(q:Nat)=>AVal.sp (SId.mk 4 q 0) 0;letI v1:=p2=p2;letI s1:=(Nat->Nat)×(Nat->Nat->By)×Nat×Nat;letI p1:=e2=e2;letI h1:=TD.mk T.R T.2 false T.4 T.pad T.keep T.span T.promote T.pres T.skip T.role T.12 T.13 T.14 T.15 T.oP T.oK T.oM;letI g1:=(((((True/\q2)/\q2)/\q2)/\q2)/\q2)/\True;letI f1:=h1.R-0;letI e1:=h1.promote;letI c1:=f1+1;letI d1:=f1+0;letI a1:=Nat.le 0 f1;letI z:=Value.int .i64 (Int.ofNat f1);letI y:=IntKind.wrap .i64 (Int.ofNat c1);letI w:=Int.toNat y;letI v:=w*1;letI s:=∃(x:Unit),True/\v1/\True/\g1/\True;letI r:=∃(x:Unit),True/\v1/\True/\g1/\False;letI m:=SubF y1 y1 f1 [];letI h:=f1=f1;letI g:=c1<=c1;letI f:=(d1,c1).fst;letI d:=fun(q:Nat)=>AVal.famx (fun(c:Nat)=>AVal.by_ (rc h1 q c)) (rn h1 q);letI b:=z=z;letI a:=∀(x:Unit),True->v1/\((∀(i:Nat),letI e:=AVal.famx (fun(c:Nat)=>AVal.by_ (rc h1 i c)) (rn h1 i);SubA 0 e e)/\f<=100/\g)/\gd (Nat.beq c1 c1) (c1=c1/\gd (Nat.beq d1 f) (g/\SubF d d c1 []/\gd (Nat.ble c1 c1) (f<=d1/\SubF m2 m2 f []/\∀(x:(Nat->AVal)×Nat×Nat×Nat),letI r2:=rowsN x.1;letI s2:=rowsC x.1;letI n2:=(x.2.fst,x.snd.2.snd);letI f2:=n2.fst;letI g2:=n2.snd;letI h2:=b1 r2 s2;letI a2:=f2<=x.2.fst;letI z1:=x.snd.2.snd=g2;letI w1:=Nat.beq x.2.fst f2;letI u1:=Nat.ble g2 x.snd.2.snd;letI t1:=(r2,s2,x.2.fst,x.snd.2.snd).fst;letI r1:=allE r2 s2 f2;letI q1:=kp (eR r2 s2) f2;letI t:=SubF x.1 (fun(q:Nat)=>AVal.famx (fun(k:Nat)=>AVal.by_ ((s2,x.2.fst,x.snd.2.snd).fst q k)) (t1 q)) f2 [];letI n:=(∀(q:Nat),t1 q<=1000)/\1<=f2/\f2<=100/\f2<=g2;x=(d,c1,d1,c1)->br h1.skip (br r1 (v1/\(n/\r1=true)/\gd w1 (z1/\a2/\t/\gd u1 (∀(x:Unit),True->br e1 (v1/\True/\∀(x:Unit),True->s) s))) (v1/\(n/\r1=false)/\gd w1 (z1/\a2/\t/\gd u1 (∀(x_1:s1),letI d2:=(x_1.snd.2.fst,x_1.snd.2.snd);letI b2:=d2.fst;letI c2:=d2.snd;letI n1:=fun(q:Nat)=>AVal.famx (fun(k:Nat)=>AVal.by_ (x_1.2.fst q k)) (x_1.fst q);letI k1:=rowsN n1;letI m1:=rowsC n1;letI u:=b1 k1 m1;letI p:=(k1,m1,x_1.snd.2.fst,x_1.snd.2.snd).fst;x_1=(fun(q:Nat)=>t1 (at0 q1 q),fun(q:Nat)=>rowsC x.1 (at0 q1 q),List.length q1,g2)->br e1 (v1/\(((∀(q:Nat),p q<=1000)/\1<=b2/\b2<=100/\b2<=c2)/\c2<=1000)/\gd (Nat.beq x_1.snd.2.fst b2) (x_1.snd.2.snd=c2/\b2<=x_1.snd.2.fst/\SubF n1 (fun(q:Nat)=>AVal.famx (fun(k:Nat)=>AVal.by_ ((m1,x_1.snd.2.fst,x_1.snd.2.snd).fst q k)) (p q)) b2 []/\gd (Nat.ble c2 x_1.snd.2.snd) (∀(x:s1),x=(fun(q:Nat)=>p (q+u),fun(q:Nat)=>rowsC n1 (q+u),b2-u,c2)->r))) r)))) (br e1 (v1/\(n/\g2<=1000)/\gd w1 (z1/\a2/\t/\gd u1 (∀(x_1:s1),x_1=(fun(q:Nat)=>t1 (q+h2),fun(q:Nat)=>rowsC x.1 (q+h2),f2-h2,g2)->r))) r))));gd (decide (Int.ofNat 0<=y)&&(decide (y<=k2)&&(decide (Int.ofNat 24*y<=k2)&&true))) (gd (Nat.ble v v&&Nat.blt w 9223372036854775808&&true) (br (Nat.ble 1 w) (a1/\(v1/\h/\m/\b/\p1/\w=c1/\1=1/\0=rn h1 0/\0=0/\gd (Nat.ble c1 v) (0=0/\0<=0/\True))/\a) (a1/\(v1/\h/\m/\b/\p1/\False)/\a)))
theorem j_7(T:TD):TabOk Tryz.prog (czU T):=by
 refine⟨fun f s h=>?_,fun f s h=>?_⟩
 ·unfold czU at h
  simp only at h
  split at h
  ·cases h;exact a_d v_O (C_l T).1
  ·cases h;exact a_d v_Q (C_t T).1
  ·cases h;exact d_a (a_d q_P (C_F T).1) (a_d q_P (C_G T).1)
  ·cases h;exact c_X (a_d q_Q (C_H T).1) (a_d q_Q (C_I T).1)
  ·cases h
 ·cases h
theorem v_U(T:TD)(k:Nat)(hT:TD.Ok (T.wh true))(h:k<=T.R-1):s_R T k:=by
 unfold s_R
 have hr:=hT.r
 have hr2:=hT.r2
 have hc2:=hT.c2
 simp only[TD.wh] at hr hr2 hc2
 have e1:IntKind.wrap IntKind.i64 (Int.ofNat (k+1))=Int.ofNat (k+1):=a_o ab ab
 simp only[TD.wh,hN,nR,cond_true,cond_false,e1,Nat.sub_zero,Nat.add_zero]
 simp only[sj3,eq_self,implies_true,forall_eq,b_F,b_P,Nat.le_eq,sj2,a_e,sj0]
 repeat' (first|omega|exact hT|exact rfl|exact fun _ _ _=>SubA.famx fun _ _=>byA|exact fun _ _ _=>byA|exact fun _ _ _=>a_7|exact fun _ _ _=>a_g rfl|refine⟨k+1,?_⟩|intro _|refine And.intro ?_ ?_)
theorem v_V(T:TD)(k:Nat)(hT:TD.Ok (T.wh false))(h:k<=T.R):s_S T k:=by
 unfold s_S
 have hr:=hT.r
 have hr2:=hT.r2
 have hc2:=hT.c2
 simp only[TD.wh] at hr hr2 hc2
 have e1:IntKind.wrap IntKind.i64 (Int.ofNat (k+1))=Int.ofNat (k+1):=a_o ab ab
 simp only[TD.wh,hN,nR,cond_true,cond_false,e1,Nat.sub_zero,Nat.add_zero]
 simp only[sj3,eq_self,implies_true,forall_eq,b_F,b_P,Nat.le_eq,sj2,a_e,sj0]
 repeat' (first|omega|exact hT|exact rfl|exact fun _ _ _=>SubA.famx fun _ _=>byA|exact fun _ _ _=>byA|exact fun _ _ _=>a_7|exact fun _ _ _=>a_g rfl|refine⟨k+1,?_⟩|intro _|refine And.intro ?_ ?_)
theorem s_T(T:TD)(hT:T.Ok):(czD T).Body Tryz.prog (sub (a_b Tryz.f422) [0,0,1,0,1,1,1,1]):=by
 refine LoopD.bodyH (root:=(a_b Tryz.f422)) [0,0,1,0,1,1,1,1] a_l (j_7 T) (LTok.nil) 1000 ?_
 exact fun k hk=>by
  cases hh:T.hd with
  |true=>
   obtain⟨T',rfl⟩:∃T':TD,T=T'.wh true:=⟨T,ag⟩
   exact Ho.of (s_R T' k) aa (v_U T' k hT hk)
  |false=>
   obtain⟨T',rfl⟩:∃T':TD,T=T'.wh false:=⟨T,ag⟩
   exact Ho.of (s_S T' k) aa (v_V T' k hT hk)
theorem C_L(T:TD)(hT:TD.Ok (T.wh true)/\((T.wh true).skip&&allE (rn (T.wh true)) (rc (T.wh true)) (nR (T.wh true)))=true):C_J T:=by
 unfold C_J
 obtain⟨hT,ha⟩:=hT
 have hr:=hT.r
 have hr2:=hT.r2
 have hc2:=hT.c2
 have hc:=hT.c
 simp only[TD.wh] at hr hr2 hc2 hc
 have e1:∀m:Nat,m<=1000->IntKind.wrap IntKind.i64 (Int.ofNat m)=Int.ofNat m:=fun m h=>a_o ab ab
 have e2:=e1 (T.R-1+1) ac
 have e3:=e1 (T.R+1) ac
 have e4:=e1 (T.R-0+1) ac
 have tn:∀n:Nat,Int.toNat (Int.ofNat n)=n:=fun n=>rfl
 have hrn:∀T:TD,T.Ok->∀q,rn T q<=1000:=fun T ok q=>by
  have:=ok.c2
  unfold rn;cases T.hd with
  |true=>have:=this q;simp only[cond_true];omega
  |false=>cases q with
   |zero=>simp
   |succ q=>have:=this q;simp only[cond_false];omega
 have hrn:=hrn _ hT
 simp only[TD.wh,nR,hN,cond_true,cond_false,Nat.sub_zero] at hrn ha
 simp only[TD.wh,hN,nR,cond_true,cond_false,e2,e3,e4,tn,Nat.sub_zero,Nat.add_zero]
 simp only[sj3,eq_self,implies_true,forall_eq,b_F,b_P,Nat.le_eq,b_l,b_m,Nat.mul_one,sj2,a_e,sj0]
 cases hs:T.skip<;>simp only[hs,Bool.true_and,Bool.false_and,Bool.false_eq_true] at ha<;>(try exact ha.elim)<;>(try simp only[hs,ha,Bool.true_eq_false,Bool.false_eq_true,false_implies,true_implies,and_true])<;>cases hp:T.promote<;>try simp only[finR,kI,kN,fB,nR,hN,hs,hp,cond_true,cond_false,Nat.add_zero,Nat.sub_zero,Bool.true_eq_false,Bool.false_eq_true,false_implies,true_implies,and_true,true_and]
 all_goals repeat' (first|omega|exact trivial|(simpa only[TD.wh,hp,hs] using hT;done)|exact d_Y ac|exact Nat.le_trans d_X ac|exact fun _=>hrn _|exact hT|exact hrn|exact hrn _|exact rfl|exact fun _ _ _=>SubA.famx fun _ _=>byA|exact fun _ _ _=>byA|exact fun _ _ _=>a_7|exact fun _ _ _=>a_g rfl|exact SubA.famx fun _ _=>byA|intro _|refine And.intro ?_ ?_)
theorem C_M(T:TD)(hT:TD.Ok (T.wh false)/\((T.wh false).skip&&allE (rn (T.wh false)) (rc (T.wh false)) (nR (T.wh false)))=true):C_K T:=by
 unfold C_K
 obtain⟨hT,ha⟩:=hT
 have hr:=hT.r
 have hr2:=hT.r2
 have hc2:=hT.c2
 have hc:=hT.c
 simp only[TD.wh] at hr hr2 hc2 hc
 have e1:∀m:Nat,m<=1000->IntKind.wrap IntKind.i64 (Int.ofNat m)=Int.ofNat m:=fun m h=>a_o ab ab
 have e2:=e1 (T.R-1+1) ac
 have e3:=e1 (T.R+1) ac
 have e4:=e1 (T.R-0+1) ac
 have tn:∀n:Nat,Int.toNat (Int.ofNat n)=n:=fun n=>rfl
 have hrn:∀T:TD,T.Ok->∀q,rn T q<=1000:=fun T ok q=>by
  have:=ok.c2
  unfold rn;cases T.hd with
  |true=>have:=this q;simp only[cond_true];omega
  |false=>cases q with
   |zero=>simp
   |succ q=>have:=this q;simp only[cond_false];omega
 have hrn:=hrn _ hT
 simp only[TD.wh,nR,hN,cond_true,cond_false,Nat.sub_zero] at hrn ha
 simp only[TD.wh,hN,nR,cond_true,cond_false,e2,e3,e4,tn,Nat.sub_zero,Nat.add_zero]
 simp only[sj3,eq_self,implies_true,forall_eq,b_F,b_P,Nat.le_eq,b_l,b_m,Nat.mul_one,sj2,a_e,sj0]
 cases hs:T.skip<;>simp only[hs,Bool.true_and,Bool.false_and,Bool.false_eq_true] at ha<;>(try exact ha.elim)<;>(try simp only[hs,ha,Bool.true_eq_false,Bool.false_eq_true,false_implies,true_implies,and_true])<;>cases hp:T.promote<;>try simp only[finR,kI,kN,fB,nR,hN,hs,hp,cond_true,cond_false,Nat.add_zero,Nat.sub_zero,Bool.true_eq_false,Bool.false_eq_true,false_implies,true_implies,and_true,true_and]
 all_goals repeat' (first|omega|exact trivial|(simpa only[TD.wh,hp,hs] using hT;done)|exact d_Y ac|exact Nat.le_trans d_X ac|exact fun _=>hrn _|exact hT|exact hrn|exact hrn _|exact rfl|exact fun _ _ _=>SubA.famx fun _ _=>byA|exact fun _ _ _=>byA|exact fun _ _ _=>a_7|exact fun _ _ _=>a_g rfl|exact SubA.famx fun _ _=>byA|intro _|refine And.intro ?_ ?_)
theorem n_5:a_t Tryz.prog 422:=⟨Tryz.f422,aa,rfl,aa⟩
theorem C_N(T:TD):(czS T).Body Tryz.prog 422/\(czS T).BodyD Tryz.prog 422:=by
 refine a_c (fn:=Tryz.f422) (b:=a_b Tryz.f422) (LT:=fun _=>[([0,1,0,1,1,1,1],(czD T).at (0:Nat))]) a_l (j_7 T) 1000 (fun _ ha=>LTok.cons (fun fr H K hk=>LoopD.ok (s_T T ha.1) hk) (LTok.nil)) aa aa ?_
 intro a ha
 cases hh:T.hd with
 |true=>
  obtain⟨T',rfl⟩:∃T':TD,T=T'.wh true:=⟨T,ag⟩
  exact Ho.of (C_J T') aa (C_L T' ha)
 |false=>
  obtain⟨T',rfl⟩:∃T':TD,T=T'.wh false:=⟨T,ag⟩
  exact Ho.of (C_K T') aa (C_M T' ha)
def C_O(T:TD):Prop:=
 letI a3:=True/\True;letI z2:=List (Nat×AVal);letI y2:=a_f (TD.wh T true);letI v2:=fun(x:Nat)=>AVal.e0;letI u2:=Int.ofNat 281474976710656;letI q2:=Value.int .i64 (Int.ofNat 0);letI k2:=([]:List AVal)=([]:List AVal);letI f2:=y2=y2;letI c2:=fun(q:Nat)=>AVal.sp (SId.mk 4 (q+1) 0) 0;letI a2:=(Nat->Nat)×(Nat->Nat->By)×Nat×Nat;letI z1:=([]:z2)=([]:z2);letI v1:=q2=q2;letI k1:=TD.mk T.R T.2 true T.4 T.pad T.keep T.span T.promote T.pres T.skip T.role T.12 T.13 T.14 T.15 T.oP T.oK T.oM;letI h1:=k1.R;letI g1:=(((((True/\a3)/\a3)/\a3)/\a3)/\a3)/\True;letI e1:=finR k1;letI d1:=h1-1;letI c1:=k1.promote;letI a1:=d1+1;letI z:=Nat.le 0 d1;letI y:=Value.int .i64 (Int.ofNat d1);letI w:=IntKind.wrap .i64 (Int.ofNat a1);letI v:=Int.toNat w;letI u:=v*1;letI n:=SubF c2 c2 d1 [];letI m:=d1=d1;letI h:=a1<=a1;letI g:=Nat.beq a1 a1;letI e:=fun(q:Nat)=>AVal.famx (fun(c:Nat)=>AVal.by_ (rc k1 q c)) (rn k1 q);letI d:=y=y;letI b:=∃(x:a2),x=e1/\f2/\True/\(g1/\z1/\k2/\∀(i:Nat),letI s1:=AVal.famx (fun(k:Nat)=>AVal.by_ (x.2.fst i k)) (x.fst i);i<x.snd.2.fst->SubA 0 s1 s1)/\False;letI a:=∀(x:Unit),True->f2/\((∀(i:Nat),letI f:=AVal.famx (fun(c:Nat)=>AVal.by_ (rc k1 i c)) (rn k1 i);SubA 0 f f)/\a1<=100/\h)/\gd g (a1=a1/\gd g (h/\SubF e e a1 []/\gd (Nat.ble a1 a1) (h/\SubF v2 v2 a1 []/\∀(x:(Nat->AVal)×Nat×Nat×Nat),letI b3:=rowsN x.1;letI c3:=rowsC x.1;letI w2:=(x.2.fst,x.snd.2.snd);letI r2:=w2.fst;letI s2:=w2.snd;letI t2:=b1 b3 c3;letI h2:=r2<=x.2.fst;letI g2:=x.snd.2.snd=s2;letI e2:=Nat.beq x.2.fst r2;letI d2:=Nat.ble s2 x.snd.2.snd;letI b2:=(b3,c3,x.2.fst,x.snd.2.snd).fst;letI y1:=allE b3 c3 r2;letI w1:=kp (eR b3 c3) r2;letI s:=SubF x.1 (fun(q:Nat)=>AVal.famx (fun(k:Nat)=>AVal.by_ ((c3,x.2.fst,x.snd.2.snd).fst q k)) (b2 q)) r2 [];letI p:=(∀(q:Nat),b2 q<=1000)/\1<=r2/\r2<=100/\r2<=s2;x=(e,a1,a1,a1)->br k1.skip (br y1 (f2/\(p/\y1=true)/\gd e2 (g2/\h2/\s/\gd d2 (∀(x:Unit),True->br c1 (f2/\True/\∀(x:Unit),True->b) b))) (f2/\(p/\y1=false)/\gd e2 (g2/\h2/\s/\gd d2 (∀(x_1:a2),letI p2:=(x_1.snd.2.fst,x_1.snd.2.snd);letI m2:=p2.fst;letI n2:=p2.snd;letI p1:=fun(q:Nat)=>AVal.famx (fun(k:Nat)=>AVal.by_ (x_1.2.fst q k)) (x_1.fst q);letI m1:=rowsN p1;letI n1:=rowsC p1;letI t:=b1 m1 n1;letI r:=(m1,n1,x_1.snd.2.fst,x_1.snd.2.snd).fst;x_1=(fun(q:Nat)=>b2 (at0 w1 q),fun(q:Nat)=>rowsC x.1 (at0 w1 q),List.length w1,s2)->br c1 (f2/\(((∀(q:Nat),r q<=1000)/\1<=m2/\m2<=100/\m2<=n2)/\n2<=1000)/\gd (Nat.beq x_1.snd.2.fst m2) (x_1.snd.2.snd=n2/\m2<=x_1.snd.2.fst/\SubF p1 (fun(q:Nat)=>AVal.famx (fun(k:Nat)=>AVal.by_ ((n1,x_1.snd.2.fst,x_1.snd.2.snd).fst q k)) (r q)) m2 []/\gd (Nat.ble n2 x_1.snd.2.snd) (∀(x:a2),x=(fun(q:Nat)=>r (q+t),fun(q:Nat)=>rowsC p1 (q+t),m2-t,n2)->∃(x_2:a2),x_2=e1/\f2/\True/\(g1/\z1/\k2/\∀(i:Nat),letI q1:=AVal.famx (fun(k:Nat)=>AVal.by_ (x_2.2.fst i k)) (x_2.fst i);i<x_2.snd.2.fst->SubA 0 q1 q1)/\gd (Nat.beq x.snd.2.fst x_2.snd.2.fst) (x.snd.2.snd=x_2.snd.2.snd/\x_2.snd.2.fst<=x.snd.2.fst/\SubF (fun(q:Nat)=>AVal.famx (fun(k:Nat)=>AVal.by_ (x.2.fst q k)) (x.fst q)) (fun(q:Nat)=>AVal.famx (fun(k:Nat)=>AVal.by_ (x_2.2.fst q k)) (x_2.fst q)) x_2.snd.2.fst []/\gd (Nat.ble x_2.snd.2.snd x.snd.2.snd) True)))) (∃(x:a2),x=e1/\f2/\True/\(g1/\z1/\k2/\∀(i:Nat),letI t1:=AVal.famx (fun(k:Nat)=>AVal.by_ (x.2.fst i k)) (x.fst i);i<x.snd.2.fst->SubA 0 t1 t1)/\gd (Nat.beq x_1.snd.2.fst x.snd.2.fst) (x_1.snd.2.snd=x.snd.2.snd/\x.snd.2.fst<=x_1.snd.2.fst/\SubF p1 (fun(q:Nat)=>AVal.famx (fun(k:Nat)=>AVal.by_ (x.2.fst q k)) (x.fst q)) x.snd.2.fst []/\gd (Nat.ble x.snd.2.snd x_1.snd.2.snd) True)))))) (br c1 (f2/\(p/\s2<=1000)/\gd e2 (g2/\h2/\s/\gd d2 (∀(x_1:a2),x_1=(fun(q:Nat)=>b2 (q+t2),fun(q:Nat)=>rowsC x.1 (q+t2),r2-t2,s2)->∃(x:a2),x=e1/\f2/\True/\(g1/\z1/\k2/\∀(i:Nat),letI u1:=AVal.famx (fun(k:Nat)=>AVal.by_ (x.2.fst i k)) (x.fst i);i<x.snd.2.fst->SubA 0 u1 u1)/\gd (Nat.beq x_1.snd.2.fst x.snd.2.fst) (x_1.snd.2.snd=x.snd.2.snd/\x.snd.2.fst<=x_1.snd.2.fst/\SubF (fun(q:Nat)=>AVal.famx (fun(k:Nat)=>AVal.by_ (x_1.2.fst q k)) (x_1.fst q)) (fun(q:Nat)=>AVal.famx (fun(k:Nat)=>AVal.by_ (x.2.fst q k)) (x.fst q)) x.snd.2.fst []/\gd (Nat.ble x.snd.2.snd x_1.snd.2.snd) True)))) (∃(x_1:a2),x_1=e1/\f2/\True/\(g1/\z1/\k2/\∀(i:Nat),letI r1:=AVal.famx (fun(k:Nat)=>AVal.by_ (x_1.2.fst i k)) (x_1.fst i);i<x_1.snd.2.fst->SubA 0 r1 r1)/\gd (Nat.beq x.2.fst x_1.snd.2.fst) (x.snd.2.snd=x_1.snd.2.snd/\x_1.snd.2.fst<=x.2.fst/\SubF x.1 (fun(q:Nat)=>AVal.famx (fun(k:Nat)=>AVal.by_ (x_1.2.fst q k)) (x_1.fst q)) x_1.snd.2.fst []/\gd (Nat.ble x_1.snd.2.snd x.snd.2.snd) True))))));gd (decide (Int.ofNat 0<=w)&&(decide (w<=u2)&&(decide (Int.ofNat 24*w<=u2)&&true))) (f2/\(0<h1/\TD.Ok k1)/\∀(x:Nat),letI f1:=k1.C x;x=0->gd (Nat.ble u u&&Nat.blt v 9223372036854775808&&true) (br (Nat.ble 1 v) (z/\(f2/\m/\n/\d/\v1/\v=a1/\1=1/\f1=rn k1 0/\SubF (fun(q:Nat)=>AVal.by_ (ct k1 x q)) (fun(c:Nat)=>AVal.by_ (rc k1 0 c)) f1 []/\gd (Nat.ble a1 u) (1=1/\True))/\a) (z/\(f2/\m/\n/\d/\v1/\False)/\a)))
def C_P(T:TD):Prop:=
 letI z2:=True/\True;letI y2:=List (Nat×AVal);letI w2:=a_f (TD.wh T false);letI u2:=fun(x:Nat)=>AVal.e0;letI t2:=Int.ofNat 281474976710656;letI p2:=Value.int .i64 (Int.ofNat 0);letI h2:=([]:List AVal)=([]:List AVal);letI e2:=fun(q:Nat)=>AVal.sp (SId.mk 4 q 0) 0;letI c2:=w2=w2;letI z1:=(Nat->Nat)×(Nat->Nat->By)×Nat×Nat;letI y1:=([]:y2)=([]:y2);letI u1:=p2=p2;letI h1:=TD.mk T.R T.2 false T.4 T.pad T.keep T.span T.promote T.pres T.skip T.role T.12 T.13 T.14 T.15 T.oP T.oK T.oM;letI g1:=(((((True/\z2)/\z2)/\z2)/\z2)/\z2)/\True;letI f1:=finR h1;letI e1:=h1.R-0;letI d1:=h1.promote;letI a1:=e1+1;letI c1:=e1+0;letI z:=Nat.le 0 e1;letI y:=Value.int .i64 (Int.ofNat e1);letI w:=IntKind.wrap .i64 (Int.ofNat a1);letI v:=Int.toNat w;letI u:=v*1;letI n:=SubF e2 e2 e1 [];letI m:=e1=e1;letI h:=a1<=a1;letI g:=(c1,a1).fst;letI e:=fun(q:Nat)=>AVal.famx (fun(c:Nat)=>AVal.by_ (rc h1 q c)) (rn h1 q);letI d:=y=y;letI b:=∃(x:z1),x=f1/\c2/\True/\(g1/\y1/\h2/\∀(i:Nat),letI r1:=AVal.famx (fun(k:Nat)=>AVal.by_ (x.2.fst i k)) (x.fst i);i<x.snd.2.fst->SubA 0 r1 r1)/\False;letI a:=∀(x:Unit),True->c2/\((∀(i:Nat),letI f:=AVal.famx (fun(c:Nat)=>AVal.by_ (rc h1 i c)) (rn h1 i);SubA 0 f f)/\g<=100/\h)/\gd (Nat.beq a1 a1) (a1=a1/\gd (Nat.beq c1 g) (h/\SubF e e a1 []/\gd (Nat.ble a1 a1) (g<=c1/\SubF u2 u2 g []/\∀(x:(Nat->AVal)×Nat×Nat×Nat),letI a3:=rowsN x.1;letI b3:=rowsC x.1;letI v2:=(x.2.fst,x.snd.2.snd);letI q2:=v2.fst;letI r2:=v2.snd;letI s2:=b1 a3 b3;letI g2:=q2<=x.2.fst;letI f2:=x.snd.2.snd=r2;letI d2:=Nat.beq x.2.fst q2;letI b2:=Nat.ble r2 x.snd.2.snd;letI a2:=(a3,b3,x.2.fst,x.snd.2.snd).fst;letI w1:=allE a3 b3 q2;letI v1:=kp (eR a3 b3) q2;letI s:=SubF x.1 (fun(q:Nat)=>AVal.famx (fun(k:Nat)=>AVal.by_ ((b3,x.2.fst,x.snd.2.snd).fst q k)) (a2 q)) q2 [];letI p:=(∀(q:Nat),a2 q<=1000)/\1<=q2/\q2<=100/\q2<=r2;x=(e,a1,c1,a1)->br h1.skip (br w1 (c2/\(p/\w1=true)/\gd d2 (f2/\g2/\s/\gd b2 (∀(x:Unit),True->br d1 (c2/\True/\∀(x:Unit),True->b) b))) (c2/\(p/\w1=false)/\gd d2 (f2/\g2/\s/\gd b2 (∀(x_1:z1),letI n2:=(x_1.snd.2.fst,x_1.snd.2.snd);letI k2:=n2.fst;letI m2:=n2.snd;letI n1:=fun(q:Nat)=>AVal.famx (fun(k:Nat)=>AVal.by_ (x_1.2.fst q k)) (x_1.fst q);letI k1:=rowsN n1;letI m1:=rowsC n1;letI t:=b1 k1 m1;letI r:=(k1,m1,x_1.snd.2.fst,x_1.snd.2.snd).fst;x_1=(fun(q:Nat)=>a2 (at0 v1 q),fun(q:Nat)=>rowsC x.1 (at0 v1 q),List.length v1,r2)->br d1 (c2/\(((∀(q:Nat),r q<=1000)/\1<=k2/\k2<=100/\k2<=m2)/\m2<=1000)/\gd (Nat.beq x_1.snd.2.fst k2) (x_1.snd.2.snd=m2/\k2<=x_1.snd.2.fst/\SubF n1 (fun(q:Nat)=>AVal.famx (fun(k:Nat)=>AVal.by_ ((m1,x_1.snd.2.fst,x_1.snd.2.snd).fst q k)) (r q)) k2 []/\gd (Nat.ble m2 x_1.snd.2.snd) (∀(x:z1),x=(fun(q:Nat)=>r (q+t),fun(q:Nat)=>rowsC n1 (q+t),k2-t,m2)->∃(x_2:z1),x_2=f1/\c2/\True/\(g1/\y1/\h2/\∀(i:Nat),letI p1:=AVal.famx (fun(k:Nat)=>AVal.by_ (x_2.2.fst i k)) (x_2.fst i);i<x_2.snd.2.fst->SubA 0 p1 p1)/\gd (Nat.beq x.snd.2.fst x_2.snd.2.fst) (x.snd.2.snd=x_2.snd.2.snd/\x_2.snd.2.fst<=x.snd.2.fst/\SubF (fun(q:Nat)=>AVal.famx (fun(k:Nat)=>AVal.by_ (x.2.fst q k)) (x.fst q)) (fun(q:Nat)=>AVal.famx (fun(k:Nat)=>AVal.by_ (x_2.2.fst q k)) (x_2.fst q)) x_2.snd.2.fst []/\gd (Nat.ble x_2.snd.2.snd x.snd.2.snd) True)))) (∃(x:z1),x=f1/\c2/\True/\(g1/\y1/\h2/\∀(i:Nat),letI s1:=AVal.famx (fun(k:Nat)=>AVal.by_ (x.2.fst i k)) (x.fst i);i<x.snd.2.fst->SubA 0 s1 s1)/\gd (Nat.beq x_1.snd.2.fst x.snd.2.fst) (x_1.snd.2.snd=x.snd.2.snd/\x.snd.2.fst<=x_1.snd.2.fst/\SubF n1 (fun(q:Nat)=>AVal.famx (fun(k:Nat)=>AVal.by_ (x.2.fst q k)) (x.fst q)) x.snd.2.fst []/\gd (Nat.ble x.snd.2.snd x_1.snd.2.snd) True)))))) (br d1 (c2/\(p/\r2<=1000)/\gd d2 (f2/\g2/\s/\gd b2 (∀(x_1:z1),x_1=(fun(q:Nat)=>a2 (q+s2),fun(q:Nat)=>rowsC x.1 (q+s2),q2-s2,r2)->∃(x:z1),x=f1/\c2/\True/\(g1/\y1/\h2/\∀(i:Nat),letI t1:=AVal.famx (fun(k:Nat)=>AVal.by_ (x.2.fst i k)) (x.fst i);i<x.snd.2.fst->SubA 0 t1 t1)/\gd (Nat.beq x_1.snd.2.fst x.snd.2.fst) (x_1.snd.2.snd=x.snd.2.snd/\x.snd.2.fst<=x_1.snd.2.fst/\SubF (fun(q:Nat)=>AVal.famx (fun(k:Nat)=>AVal.by_ (x_1.2.fst q k)) (x_1.fst q)) (fun(q:Nat)=>AVal.famx (fun(k:Nat)=>AVal.by_ (x.2.fst q k)) (x.fst q)) x.snd.2.fst []/\gd (Nat.ble x.snd.2.snd x_1.snd.2.snd) True)))) (∃(x_1:z1),x_1=f1/\c2/\True/\(g1/\y1/\h2/\∀(i:Nat),letI q1:=AVal.famx (fun(k:Nat)=>AVal.by_ (x_1.2.fst i k)) (x_1.fst i);i<x_1.snd.2.fst->SubA 0 q1 q1)/\gd (Nat.beq x.2.fst x_1.snd.2.fst) (x.snd.2.snd=x_1.snd.2.snd/\x_1.snd.2.fst<=x.2.fst/\SubF x.1 (fun(q:Nat)=>AVal.famx (fun(k:Nat)=>AVal.by_ (x_1.2.fst q k)) (x_1.fst q)) x_1.snd.2.fst []/\gd (Nat.ble x_1.snd.2.snd x.snd.2.snd) True))))));gd (decide (Int.ofNat 0<=w)&&(decide (w<=t2)&&(decide (Int.ofNat 24*w<=t2)&&true))) (gd (Nat.ble u u&&Nat.blt v 9223372036854775808&&true) (br (Nat.ble 1 v) (z/\(c2/\m/\n/\d/\u1/\v=a1/\1=1/\0=rn h1 0/\0=0/\gd (Nat.ble a1 u) (0=0/\0<=0/\True))/\a) (z/\(c2/\m/\n/\d/\u1/\False)/\a)))
theorem C_Q(T:TD)(hT:TD.Ok (T.wh true)/\((T.wh true).skip&&allE (rn (T.wh true)) (rc (T.wh true)) (nR (T.wh true)))=false):C_O T:=by
 unfold C_O
 obtain⟨hT,ha⟩:=hT
 have hr:=hT.r
 have hr2:=hT.r2
 have hc2:=hT.c2
 have hc:=hT.c
 simp only[TD.wh] at hr hr2 hc2 hc
 have e1:∀m:Nat,m<=1000->IntKind.wrap IntKind.i64 (Int.ofNat m)=Int.ofNat m:=fun m h=>a_o ab ab
 have e2:=e1 (T.R-1+1) ac
 have e3:=e1 (T.R+1) ac
 have e4:=e1 (T.R-0+1) ac
 have tn:∀n:Nat,Int.toNat (Int.ofNat n)=n:=fun n=>rfl
 have hrn:∀T:TD,T.Ok->∀q,rn T q<=1000:=fun T ok q=>by
  have:=ok.c2
  unfold rn;cases T.hd with
  |true=>have:=this q;simp only[cond_true];omega
  |false=>cases q with
   |zero=>simp
   |succ q=>have:=this q;simp only[cond_false];omega
 have hrn:=hrn _ hT
 simp only[TD.wh,nR,hN,cond_true,cond_false,Nat.sub_zero] at hrn ha
 simp only[TD.wh,hN,nR,cond_true,cond_false,e2,e3,e4,tn,Nat.sub_zero,Nat.add_zero]
 simp only[sj3,eq_self,implies_true,forall_eq,b_F,b_P,Nat.le_eq,b_l,b_m,Nat.mul_one,sj2,a_e,sj0]
 cases hs:T.skip<;>simp only[hs,Bool.true_and,Bool.false_and,Bool.false_eq_true] at ha<;>(try exact ha.elim)<;>(try simp only[hs,ha,Bool.true_eq_false,Bool.false_eq_true,false_implies,true_implies,and_true])<;>cases hp:T.promote<;>try simp only[finR,kI,kN,fB,nR,hN,hs,hp,cond_true,cond_false,Nat.add_zero,Nat.sub_zero,Bool.true_eq_false,Bool.false_eq_true,false_implies,true_implies,and_true,true_and]
 all_goals repeat' (first|omega|exact trivial|exact Nat.le_refl _|(simpa only[TD.wh,hp,hs] using hT;done)|exact d_Y ac|exact Nat.le_trans d_X ac|exact fun _=>hrn _|exact hT|exact hrn|exact hrn _|exact rfl|exact fun _ _ _=>SubA.famx fun _ _=>byA|exact fun _ _ _=>byA|exact fun _ _ _=>a_7|exact fun _ _ _=>a_g rfl|exact SubA.famx fun _ _=>byA|intro _|refine And.intro ?_ ?_)
theorem C_R(T:TD)(hT:TD.Ok (T.wh false)/\((T.wh false).skip&&allE (rn (T.wh false)) (rc (T.wh false)) (nR (T.wh false)))=false):C_P T:=by
 unfold C_P
 obtain⟨hT,ha⟩:=hT
 have hr:=hT.r
 have hr2:=hT.r2
 have hc2:=hT.c2
 have hc:=hT.c
 simp only[TD.wh] at hr hr2 hc2 hc
 have e1:∀m:Nat,m<=1000->IntKind.wrap IntKind.i64 (Int.ofNat m)=Int.ofNat m:=fun m h=>a_o ab ab
 have e2:=e1 (T.R-1+1) ac
 have e3:=e1 (T.R+1) ac
 have e4:=e1 (T.R-0+1) ac
 have tn:∀n:Nat,Int.toNat (Int.ofNat n)=n:=fun n=>rfl
 have hrn:∀T:TD,T.Ok->∀q,rn T q<=1000:=fun T ok q=>by
  have:=ok.c2
  unfold rn;cases T.hd with
  |true=>have:=this q;simp only[cond_true];omega
  |false=>cases q with
   |zero=>simp
   |succ q=>have:=this q;simp only[cond_false];omega
 have hrn:=hrn _ hT
 simp only[TD.wh,nR,hN,cond_true,cond_false,Nat.sub_zero] at hrn ha
 simp only[TD.wh,hN,nR,cond_true,cond_false,e2,e3,e4,tn,Nat.sub_zero,Nat.add_zero]
 simp only[sj3,eq_self,implies_true,forall_eq,b_F,b_P,Nat.le_eq,b_l,b_m,Nat.mul_one,sj2,a_e,sj0]
 cases hs:T.skip<;>simp only[hs,Bool.true_and,Bool.false_and,Bool.false_eq_true] at ha<;>(try exact ha.elim)<;>(try simp only[hs,ha,Bool.true_eq_false,Bool.false_eq_true,false_implies,true_implies,and_true])<;>cases hp:T.promote<;>try simp only[finR,kI,kN,fB,nR,hN,hs,hp,cond_true,cond_false,Nat.add_zero,Nat.sub_zero,Bool.true_eq_false,Bool.false_eq_true,false_implies,true_implies,and_true,true_and]
 all_goals repeat' (first|omega|exact trivial|exact Nat.le_refl _|(simpa only[TD.wh,hp,hs] using hT;done)|exact d_Y ac|exact Nat.le_trans d_X ac|exact fun _=>hrn _|exact hT|exact hrn|exact hrn _|exact rfl|exact fun _ _ _=>SubA.famx fun _ _=>byA|exact fun _ _ _=>byA|exact fun _ _ _=>a_7|exact fun _ _ _=>a_g rfl|exact SubA.famx fun _ _=>byA|intro _|refine And.intro ?_ ?_)
theorem C_S(T:TD):(crS T).Body Tryz.prog 422/\(crS T).BodyD Tryz.prog 422:=by
 refine a_c (fn:=Tryz.f422) (b:=a_b Tryz.f422) (LT:=fun _=>[([0,1,0,1,1,1,1],(czD T).at (0:Nat))]) a_l (j_7 T) 1000 (fun _ ha=>LTok.cons (fun fr H K hk=>LoopD.ok (s_T T ha.1) hk) (LTok.nil)) aa aa ?_
 intro a ha
 cases hh:T.hd with
 |true=>
  obtain⟨T',rfl⟩:∃T':TD,T=T'.wh true:=⟨T,ag⟩
  exact Ho.of (C_O T') aa (C_Q T' ha)
 |false=>
  obtain⟨T',rfl⟩:∃T':TD,T=T'.wh false:=⟨T,ag⟩
  exact Ho.of (C_P T') aa (C_R T' ha)
end Tk

