/- Lemmas of this claim; the last text says what is proved. -/
import Derived.Test.YtblencgndjjleaaGreatDoorK28
import Derived.Test.YtblencgndjjleaaGreatDoorK17
set_option linter.all false
set_option maxRecDepth 1000000
namespace Tk
open Go Go.Sx Go.Proofs
open Q
variable [Syms]
def C_T(T:TD):Prop:=
 letI t2:=True/\True;letI s2:=List (Nat×AVal);letI r2:=a_f (TD.wh T true);letI p2:=fun(x:Nat)=>AVal.e0;letI n2:=Int.ofNat 281474976710656;letI g2:=Value.int .i64 (Int.ofNat 0);letI e2:=AVal.lit (Value.slice none 0 0);letI z1:=r2=r2;letI v1:=fun(q:Nat)=>AVal.sp (SId.mk 4 (q+1) 0) 0;letI u1:=fun(x:Nat)=>e2;letI s1:=(Nat->Nat)×(Nat->Nat->By)×Nat×Nat;letI p1:=g2=g2;letI h1:=TD.mk T.R T.2 true T.4 T.pad T.keep T.span T.promote T.pres T.skip T.role T.12 T.13 T.14 T.15 T.oP T.oK T.oM;letI g1:=h1.R;letI e1:=g1-1;letI d1:=h1.promote;letI c1:=e1+1;letI a1:=Nat.le 0 e1;letI z:=Value.int .i64 (Int.ofNat e1);letI y:=IntKind.wrap .i64 (Int.ofNat c1);letI w:=Int.toNat y;letI v:=w*1;letI p:=SubF v1 v1 e1 [];letI n:=e1=e1;letI m:=c1<=c1;letI h:=Nat.beq c1 c1;letI f:=fun(q:Nat)=>AVal.famx (fun(c:Nat)=>AVal.by_ (rc h1 q c)) (rn h1 q);letI e:=z=z;letI d:=((((((True/\t2)/\t2)/\t2)/\t2)/\t2)/\True)/\([]:s2)=([]:s2)/\([]:List AVal)=([]:List AVal)/\∀(i:Nat),i<0->SubA 0 e2 e2;letI b:=∃(x:Unit),True/\z1/\True/\d/\False;letI a:=∀(x:Unit),True->z1/\((∀(i:Nat),letI g:=AVal.famx (fun(c:Nat)=>AVal.by_ (rc h1 i c)) (rn h1 i);SubA 0 g g)/\c1<=100/\m)/\gd h (c1=c1/\gd h (m/\SubF f f c1 []/\gd (Nat.ble c1 c1) (m/\SubF p2 p2 c1 []/\∀(x:(Nat->AVal)×Nat×Nat×Nat),letI u2:=rowsN x.1;letI v2:=rowsC x.1;letI q2:=(x.2.fst,x.snd.2.snd);letI h2:=q2.fst;letI k2:=q2.snd;letI m2:=b1 u2 v2;letI b2:=h2<=x.2.fst;letI a2:=x.snd.2.snd=k2;letI y1:=Nat.beq x.2.fst h2;letI w1:=Nat.ble k2 x.snd.2.snd;letI t1:=(u2,v2,x.2.fst,x.snd.2.snd).fst;letI r1:=allE u2 v2 h2;letI q1:=kp (eR u2 v2) h2;letI t:=SubF x.1 (fun(q:Nat)=>AVal.famx (fun(k:Nat)=>AVal.by_ ((v2,x.2.fst,x.snd.2.snd).fst q k)) (t1 q)) h2 [];letI r:=(∀(q:Nat),t1 q<=1000)/\1<=h2/\h2<=100/\h2<=k2;x=(f,c1,c1,c1)->br h1.skip (br r1 (z1/\(r/\r1=true)/\gd y1 (a2/\b2/\t/\gd w1 (∀(x:Unit),True->br d1 (z1/\True/\∀(x:Unit),True->b) b))) (z1/\(r/\r1=false)/\gd y1 (a2/\b2/\t/\gd w1 (∀(x_1:s1),letI f2:=(x_1.snd.2.fst,x_1.snd.2.snd);letI c2:=f2.fst;letI d2:=f2.snd;letI n1:=fun(q:Nat)=>AVal.famx (fun(k:Nat)=>AVal.by_ (x_1.2.fst q k)) (x_1.fst q);letI k1:=rowsN n1;letI m1:=rowsC n1;letI u:=b1 k1 m1;letI s:=(k1,m1,x_1.snd.2.fst,x_1.snd.2.snd).fst;x_1=(fun(q:Nat)=>t1 (at0 q1 q),fun(q:Nat)=>rowsC x.1 (at0 q1 q),List.length q1,k2)->br d1 (z1/\(((∀(q:Nat),s q<=1000)/\1<=c2/\c2<=100/\c2<=d2)/\d2<=1000)/\gd (Nat.beq x_1.snd.2.fst c2) (x_1.snd.2.snd=d2/\c2<=x_1.snd.2.fst/\SubF n1 (fun(q:Nat)=>AVal.famx (fun(k:Nat)=>AVal.by_ ((m1,x_1.snd.2.fst,x_1.snd.2.snd).fst q k)) (s q)) c2 []/\gd (Nat.ble d2 x_1.snd.2.snd) (∀(x:s1),x=(fun(q:Nat)=>s (q+u),fun(q:Nat)=>rowsC n1 (q+u),c2-u,d2)->∃(x_2:Unit),True/\z1/\True/\d/\gd (Nat.beq x.snd.2.fst 0) (x.snd.2.snd=c1/\0<=x.snd.2.fst/\SubF (fun(q:Nat)=>AVal.famx (fun(k:Nat)=>AVal.by_ (x.2.fst q k)) (x.fst q)) u1 0 []/\gd (Nat.ble c1 x.snd.2.snd) True)))) (∃(x:Unit),True/\z1/\True/\d/\gd (Nat.beq x_1.snd.2.fst 0) (x_1.snd.2.snd=c1/\0<=x_1.snd.2.fst/\SubF n1 u1 0 []/\gd (Nat.ble c1 x_1.snd.2.snd) True)))))) (br d1 (z1/\(r/\k2<=1000)/\gd y1 (a2/\b2/\t/\gd w1 (∀(x_1:s1),x_1=(fun(q:Nat)=>t1 (q+m2),fun(q:Nat)=>rowsC x.1 (q+m2),h2-m2,k2)->∃(x:Unit),True/\z1/\True/\d/\gd (Nat.beq x_1.snd.2.fst 0) (x_1.snd.2.snd=c1/\0<=x_1.snd.2.fst/\SubF (fun(q:Nat)=>AVal.famx (fun(k:Nat)=>AVal.by_ (x_1.2.fst q k)) (x_1.fst q)) u1 0 []/\gd (Nat.ble c1 x_1.snd.2.snd) True)))) (∃(x_1:Unit),True/\z1/\True/\d/\gd (Nat.beq x.2.fst 0) (x.snd.2.snd=c1/\0<=x.2.fst/\SubF x.1 u1 0 []/\gd (Nat.ble c1 x.snd.2.snd) True))))));gd (decide (Int.ofNat 0<=y)&&(decide (y<=n2)&&(decide (Int.ofNat 24*y<=n2)&&true))) (z1/\(0<g1/\TD.Ok h1)/\∀(x:Nat),letI f1:=h1.C x;x=0->gd (Nat.ble v v&&Nat.blt w 9223372036854775808&&true) (br (Nat.ble 1 w) (a1/\(z1/\n/\p/\e/\p1/\w=c1/\1=1/\f1=rn h1 0/\SubF (fun(q:Nat)=>AVal.by_ (ct h1 x q)) (fun(c:Nat)=>AVal.by_ (rc h1 0 c)) f1 []/\gd (Nat.ble c1 v) (1=1/\True))/\a) (a1/\(z1/\n/\p/\e/\p1/\False)/\a)))
def C_U(T:TD):Prop:=
 letI s2:=True/\True;letI r2:=List (Nat×AVal);letI q2:=a_f (TD.wh T false);letI n2:=fun(x:Nat)=>AVal.e0;letI m2:=Int.ofNat 281474976710656;letI f2:=Value.int .i64 (Int.ofNat 0);letI d2:=AVal.lit (Value.slice none 0 0);letI y1:=fun(q:Nat)=>AVal.sp (SId.mk 4 q 0) 0;letI v1:=q2=q2;letI t1:=fun(x:Nat)=>d2;letI r1:=(Nat->Nat)×(Nat->Nat->By)×Nat×Nat;letI n1:=f2=f2;letI g1:=TD.mk T.R T.2 false T.4 T.pad T.keep T.span T.promote T.pres T.skip T.role T.12 T.13 T.14 T.15 T.oP T.oK T.oM;letI f1:=g1.R-0;letI e1:=g1.promote;letI c1:=f1+1;letI d1:=f1+0;letI a1:=Nat.le 0 f1;letI z:=Value.int .i64 (Int.ofNat f1);letI y:=IntKind.wrap .i64 (Int.ofNat c1);letI w:=Int.toNat y;letI v:=w*1;letI p:=SubF y1 y1 f1 [];letI n:=f1=f1;letI m:=c1<=c1;letI h:=(d1,c1).fst;letI f:=fun(q:Nat)=>AVal.famx (fun(c:Nat)=>AVal.by_ (rc g1 q c)) (rn g1 q);letI e:=z=z;letI d:=((((((True/\s2)/\s2)/\s2)/\s2)/\s2)/\True)/\([]:r2)=([]:r2)/\([]:List AVal)=([]:List AVal)/\∀(i:Nat),i<0->SubA 0 d2 d2;letI b:=∃(x:Unit),True/\v1/\True/\d/\False;letI a:=∀(x:Unit),True->v1/\((∀(i:Nat),letI g:=AVal.famx (fun(c:Nat)=>AVal.by_ (rc g1 i c)) (rn g1 i);SubA 0 g g)/\h<=100/\m)/\gd (Nat.beq c1 c1) (c1=c1/\gd (Nat.beq d1 h) (m/\SubF f f c1 []/\gd (Nat.ble c1 c1) (h<=d1/\SubF n2 n2 h []/\∀(x:(Nat->AVal)×Nat×Nat×Nat),letI t2:=rowsN x.1;letI u2:=rowsC x.1;letI p2:=(x.2.fst,x.snd.2.snd);letI g2:=p2.fst;letI h2:=p2.snd;letI k2:=b1 t2 u2;letI a2:=g2<=x.2.fst;letI z1:=x.snd.2.snd=h2;letI w1:=Nat.beq x.2.fst g2;letI u1:=Nat.ble h2 x.snd.2.snd;letI s1:=(t2,u2,x.2.fst,x.snd.2.snd).fst;letI q1:=allE t2 u2 g2;letI p1:=kp (eR t2 u2) g2;letI t:=SubF x.1 (fun(q:Nat)=>AVal.famx (fun(k:Nat)=>AVal.by_ ((u2,x.2.fst,x.snd.2.snd).fst q k)) (s1 q)) g2 [];letI r:=(∀(q:Nat),s1 q<=1000)/\1<=g2/\g2<=100/\g2<=h2;x=(f,c1,d1,c1)->br g1.skip (br q1 (v1/\(r/\q1=true)/\gd w1 (z1/\a2/\t/\gd u1 (∀(x:Unit),True->br e1 (v1/\True/\∀(x:Unit),True->b) b))) (v1/\(r/\q1=false)/\gd w1 (z1/\a2/\t/\gd u1 (∀(x_1:r1),letI e2:=(x_1.snd.2.fst,x_1.snd.2.snd);letI b2:=e2.fst;letI c2:=e2.snd;letI m1:=fun(q:Nat)=>AVal.famx (fun(k:Nat)=>AVal.by_ (x_1.2.fst q k)) (x_1.fst q);letI h1:=rowsN m1;letI k1:=rowsC m1;letI u:=b1 h1 k1;letI s:=(h1,k1,x_1.snd.2.fst,x_1.snd.2.snd).fst;x_1=(fun(q:Nat)=>s1 (at0 p1 q),fun(q:Nat)=>rowsC x.1 (at0 p1 q),List.length p1,h2)->br e1 (v1/\(((∀(q:Nat),s q<=1000)/\1<=b2/\b2<=100/\b2<=c2)/\c2<=1000)/\gd (Nat.beq x_1.snd.2.fst b2) (x_1.snd.2.snd=c2/\b2<=x_1.snd.2.fst/\SubF m1 (fun(q:Nat)=>AVal.famx (fun(k:Nat)=>AVal.by_ ((k1,x_1.snd.2.fst,x_1.snd.2.snd).fst q k)) (s q)) b2 []/\gd (Nat.ble c2 x_1.snd.2.snd) (∀(x:r1),x=(fun(q:Nat)=>s (q+u),fun(q:Nat)=>rowsC m1 (q+u),b2-u,c2)->∃(x_2:Unit),True/\v1/\True/\d/\gd (Nat.beq x.snd.2.fst 0) (x.snd.2.snd=c1/\0<=x.snd.2.fst/\SubF (fun(q:Nat)=>AVal.famx (fun(k:Nat)=>AVal.by_ (x.2.fst q k)) (x.fst q)) t1 0 []/\gd (Nat.ble c1 x.snd.2.snd) True)))) (∃(x:Unit),True/\v1/\True/\d/\gd (Nat.beq x_1.snd.2.fst 0) (x_1.snd.2.snd=c1/\0<=x_1.snd.2.fst/\SubF m1 t1 0 []/\gd (Nat.ble c1 x_1.snd.2.snd) True)))))) (br e1 (v1/\(r/\h2<=1000)/\gd w1 (z1/\a2/\t/\gd u1 (∀(x_1:r1),x_1=(fun(q:Nat)=>s1 (q+k2),fun(q:Nat)=>rowsC x.1 (q+k2),g2-k2,h2)->∃(x:Unit),True/\v1/\True/\d/\gd (Nat.beq x_1.snd.2.fst 0) (x_1.snd.2.snd=c1/\0<=x_1.snd.2.fst/\SubF (fun(q:Nat)=>AVal.famx (fun(k:Nat)=>AVal.by_ (x_1.2.fst q k)) (x_1.fst q)) t1 0 []/\gd (Nat.ble c1 x_1.snd.2.snd) True)))) (∃(x_1:Unit),True/\v1/\True/\d/\gd (Nat.beq x.2.fst 0) (x.snd.2.snd=c1/\0<=x.2.fst/\SubF x.1 t1 0 []/\gd (Nat.ble c1 x.snd.2.snd) True))))));gd (decide (Int.ofNat 0<=y)&&(decide (y<=m2)&&(decide (Int.ofNat 24*y<=m2)&&true))) (gd (Nat.ble v v&&Nat.blt w 9223372036854775808&&true) (br (Nat.ble 1 w) (a1/\(v1/\n/\p/\e/\n1/\w=c1/\1=1/\0=rn g1 0/\0=0/\gd (Nat.ble c1 v) (0=0/\0<=0/\True))/\a) (a1/\(v1/\n/\p/\e/\n1/\False)/\a)))
theorem C_V(T:TD)(hT:TD.Ok (T.wh true)/\(T.wh true).skip=false/\nilR (T.wh true)=true):C_T T:=by
 unfold C_T
 obtain⟨hT,hs,ha⟩:=hT
 have hr:=hT.r
 have hr2:=hT.r2
 have hc2:=hT.c2
 have hc:=hT.c
 unfold nilR at ha
 rw[hs,cond_false,Bool.and_eq_true,Bool.and_eq_true] at ha
 obtain⟨hp,hn,he⟩:=ha
 have hs:T.skip=false:=hs
 have hp:T.promote=true:=hp
 have hn:=a_k.1 hn
 have hb:∀(f:Nat->Nat) (g:Nat->Nat->By),eR f g 0=true->b1 f g=1:=fun f g h=>by unfold b1;rw[h];rfl
 simp only[TD.wh] at hr hr2 hc2 hc
 simp only[TD.wh,nR,hN,cond_true,cond_false,Nat.sub_zero] at hn
 have e1:∀m:Nat,m<=1000->IntKind.wrap IntKind.i64 (Int.ofNat m)=Int.ofNat m:=fun m h=>a_o ab ab
 have e2:=e1 (T.R-1+1) ac
 have e3:=e1 (T.R+1) ac
 have e4:=e1 (T.R-0+1) ac
 have tn:∀n:Nat,Int.toNat (Int.ofNat n)=n:=fun n=>rfl
 have hrn:∀T:TD,T.Ok->∀q,rn T q<=1000:=fun T ok q=>by
  have:=u_h ok q;omega
 have hrn:=hrn _ hT
 have hb:=hb _ _ he
 simp only[TD.wh,nR,hN,cond_true,cond_false,Nat.sub_zero] at hrn hb
 simp only[TD.wh,hN,nR,cond_true,cond_false,e2,e3,e4,tn,Nat.sub_zero,Nat.add_zero]
 simp only[sj3,eq_self,implies_true,forall_eq,b_F,b_P,Nat.le_eq,b_l,b_m,Nat.mul_one,sj2,a_e,sj0]
 try simp only[hb]
 simp only[hs,hp,Bool.true_eq_false,Bool.false_eq_true,false_implies,true_implies,and_true,true_and]
 repeat' (first|omega|exact trivial|(simpa only[TD.wh,hp,hs] using hT;done)|exact fun _=>hrn _|exact hT|exact hrn|exact hrn _|exact rfl|exact fun _ _ _=>SubA.famx fun _ _=>byA|exact fun _ _ _=>byA|exact fun _ _ _=>a_7|exact fun _ _ _=>a_g rfl|exact SubA.famx fun _ _=>byA|exact fun q hq=>absurd hq ac|intro _|refine And.intro ?_ ?_)
theorem C_W(T:TD)(hT:TD.Ok (T.wh false)/\(T.wh false).skip=false/\nilR (T.wh false)=true):C_U T:=by
 unfold C_U
 obtain⟨hT,hs,ha⟩:=hT
 have hr:=hT.r
 have hr2:=hT.r2
 have hc2:=hT.c2
 have hc:=hT.c
 unfold nilR at ha
 rw[hs,cond_false,Bool.and_eq_true,Bool.and_eq_true] at ha
 obtain⟨hp,hn,he⟩:=ha
 have hs:T.skip=false:=hs
 have hp:T.promote=true:=hp
 have hn:=a_k.1 hn
 have hb:∀(f:Nat->Nat) (g:Nat->Nat->By),eR f g 0=true->b1 f g=1:=fun f g h=>by unfold b1;rw[h];rfl
 simp only[TD.wh] at hr hr2 hc2 hc
 simp only[TD.wh,nR,hN,cond_true,cond_false,Nat.sub_zero] at hn
 exfalso;omega
theorem C_X(T:TD):(cqS T).Body Tryz.prog 422/\(cqS T).BodyD Tryz.prog 422:=by
 refine a_c (fn:=Tryz.f422) (b:=a_b Tryz.f422) (LT:=fun _=>[([0,1,0,1,1,1,1],(czD T).at (0:Nat))]) a_l (j_7 T) 1000 (fun _ ha=>LTok.cons (fun fr H K hk=>LoopD.ok (s_T T ha.1) hk) (LTok.nil)) aa aa ?_
 intro a ha
 cases hh:T.hd with
 |true=>
  obtain⟨T',rfl⟩:∃T':TD,T=T'.wh true:=⟨T,ag⟩
  exact Ho.of (C_T T') aa (C_V T' ha)
 |false=>
  obtain⟨T',rfl⟩:∃T':TD,T=T'.wh false:=⟨T,ag⟩
  exact Ho.of (C_U T') aa (C_W T' ha)
def C_Y(T:TD)(l:By)(c:Nat)(i:Nat):Prop:=
 letI e:=List.length l;letI d:=a_f T=a_f T;letI b:=Value.int IntKind.u8 (Int.ofNat c);letI a:=decide (Int.ofNat i<Int.ofNat e);br a (gd a (gd (Nat.blt i e) (br (Int.ofNat (UInt8.toNat (List.getD l i (0:UInt8)))==Int.ofNat c) False (∃(j':Nat),Nat.le j' e/\e-j'<e-i/\d/\l=l/\b=b/\Value.int .i64 (IntKind.wrap .i64 (Int.ofNat (i+1)))=Value.int .i64 (Int.ofNat j')/\True)))) (∃(x:Unit),True/\d/\True)
def zhR(T:TD)(l:By)(c:Nat):Prop:=
 letI e:=a_f T=a_f T;letI d:=Value.bool false;letI b:=Value.int .i64 (Int.ofNat 0);letI a:=Value.int IntKind.u8 (Int.ofNat c);Nat.le 0 (List.length l)/\(e/\l=l/\a=a/\b=b/\True)/\∀(x:Unit),True->∃(x:Unit),True/\e/\True/\True/\d=d/\True
theorem C_Z(T:TD)(l:By)(c:Nat)(i:Nat)(hd:(∀b∈l,b.toNat≠c)/\l.length<=a_i/\c<256)(hi:i<=l.length):C_Y T l c i:=by
 unfold C_Y
 obtain⟨h1,h2,h3⟩:=hd
 simp only[a_i] at h2
 have e1:i<l.length->IntKind.wrap IntKind.i64 (Int.ofNat (i+1))=Int.ofNat (i+1):=fun h=>ae
 simp only[sj3,b_F,b_P,sj2,a_e,sj0]
 exact⟨fun g=>⟨g,g,fun e=>absurd e (h1 _ (b_a g)),fun _=>⟨i+1,Nat.succ_le_of_lt g,ac,congrArg _ (e1 g)⟩⟩,fun g=>trivial⟩
theorem C_0(T:TD)(l:By)(c:Nat)(hd:(∀b∈l,b.toNat≠c)/\l.length<=a_i/\c<256):(zhD T l c).Body Tryz.prog (sub (a_b Tryz.f440) [0,0,1,0,1]):=by
 refine LoopD.bodyH (root:=(a_b Tryz.f440)) [0,0,1,0,1] a_l (a_y) (LTok.nil) 1000 ?_
 exact fun i hi=>Ho.of (C_Y T l c i) aa (C_Z T l c i hd hi)
theorem H_X(T:TD)(l:By)(c:Nat):zhR T l c:=by
 unfold zhR
 try simp only[a_j,a_p,Bool.and_eq_true,sj5,a_m,a_e,sj4,sj8]
 repeat' (first|done|omega|exact rfl|exact trivial|assumption|exact Nat.zero_le _|exact()|intro _|refine⟨?_,?_⟩)
theorem v_W:a_t Tryz.prog 440:=⟨Tryz.f440,aa,rfl,aa⟩
theorem C_1(T:TD):(zhS T).Body Tryz.prog 440/\(zhS T).BodyD Tryz.prog 440:=by
 refine a_c (fn:=Tryz.f440) (b:=a_b Tryz.f440) (LT:=fun⟨l,c⟩=>[([0,1,0,1],(zhD T l c).at (0:Nat))]) a_l (a_y) 1000 (fun⟨l,c⟩ ha=>LTok.cons (fun fr H K hk=>LoopD.ok (C_0 T l c ha) hk) (LTok.nil)) aa aa ?_
 exact fun a ha=>Ho.of (zhR T a.1 a.2) aa (H_X T a.1 a.2)
theorem C_2(T:TD)(i:Nat)(hd:i<T.R/\0<T.C i/\T.C i<=12):(fbD T i).Bodyn (H_f T i) Tryz.prog (sub (a_b Tryz.f442) [0,0,0,1,1,1]):=by
 refine List.forall_mem_cons.2 ⟨b_G (root:=(a_b Tryz.f442)) [0,0,0,1,1,1] a_l (a_y) (LTok.nil) 1000 ?_,List.forall_mem_cons.2 ⟨b_G (root:=(a_b Tryz.f442)) [0,0,0,1,1,1] a_l (a_y) (LTok.nil) 1000 ?_,List.forall_mem_cons.2 ⟨b_G (root:=(a_b Tryz.f442)) [0,0,0,1,1,1] a_l (a_y) (LTok.nil) 1000 ?_,List.forall_mem_cons.2 ⟨b_G (root:=(a_b Tryz.f442)) [0,0,0,1,1,1] a_l (a_y) (LTok.nil) 1000 ?_,fun _ h=>absurd h List.not_mem_nil⟩⟩⟩⟩
 ·exact fun j hj=>Ho.of (x_F T i) aa (v_A T i hd)
 ·exact fun j hj=>Ho.of (p_w T i j) aa (q_z T i j hd hj)
 ·exact fun j hj=>Ho.of (p_x T i j) aa (q_A T i j hd hj)
 ·exact fun j hj=>Ho.of (p_y T i) aa (q_B T i hd)
theorem C_3(T:TD):(fbS T).Body Tryz.prog 442/\(fbS T).BodyD Tryz.prog 442:=by
 refine a_c (fn:=Tryz.f442) (b:=a_b Tryz.f442) (LT:=fun i=>[([0,0,1,1,1],(fbD T i).at ())]) a_l (a_y) 1000 (fun i ha=>LTok.cons (fun fr H K hk=>LoopD.okn (C_2 T i ha) hk) (LTok.nil)) aa aa ?_
 exact fun a ha=>Ho.of (faR T a) aa (G_O T a)
def C_4(T:TD):Prop:=
 letI m:=T.C 0;letI k:=m+1;letI h:=a_f T=a_f T;letI g:=Int.ofNat m;letI f:=Value.int .i64 (Int.ofNat 1);letI e:=Value.int .i64 g;letI d:=decide (Int.ofNat 0<g);letI c:=fun(q:Nat)=>AVal.sp (SId.mk 5 0 q) 0;letI b:=e=e;letI a:=SubF c c m [];br d (gd d (gd (Nat.blt 0 m) ((∃(j':Unit),True/\k<k/\h/\m=m/\a/\b/\f=Value.int .i64 (Int.ofNat 0)/\False)\/∃(j':Nat),(0<j'/\j'<=m)/\m-j'<k/\h/\m=m/\a/\b/\f=Value.int .i64 (Int.ofNat j')/\gd (Nat.beq 1 j') (j'=1/\([]:List UInt8)=[]/\True)))) ((∃(x:Unit),True/\h/\m=0/\True)\/False)
def C_5(T:TD)(k:Nat):Prop:=
 letI p:=T.C 0;letI r:=k+1;letI n:=a_f T=a_f T;letI m:=Int.ofNat p;letI h:=fun(x:Nat)=>AVal.str [];letI g:=Value.int .i64 m;letI f:=decide (Int.ofNat k<m);letI e:=fun(q:Nat)=>AVal.sp (SId.mk 5 0 q) 0;letI d:=Value.int .i64 (IntKind.wrap .i64 (Int.ofNat r));letI b:=g=g;letI c:=SubF h h k [];letI a:=SubF e e p [];br f (gd f (gd (Nat.blt k p) (gd (Nat.beq k k&&(Nat.ble (r*16) 140737488355328&&(Nat.ble r 140737488355328&&true))) ((∃(j':Unit),True/\p+1<p-k/\n/\p=p/\a/\b/\d=Value.int .i64 (Int.ofNat 0)/\False)\/∃(j':Nat),(0<j'/\j'<=p)/\p-j'<p-k/\n/\p=p/\a/\b/\d=Value.int .i64 (Int.ofNat j')/\gd (Nat.beq r j') (j'=r/\c/\([]:List UInt8)=[]/\True))))) ((∃(x:Unit),True/\n/\k=p/\k=k/\c/\True)\/False)
def C_6(T:TD):Prop:=
 letI k:=AVal.str [];letI h:=a_f (TD.wh T true);letI f:=Value.int .i64 (Int.ofNat 0);letI g:=fun(x:Nat)=>k;letI e:=h=h;letI d:=TD.mk T.R T.2 true T.4 T.pad T.keep T.span T.promote T.pres T.skip T.role T.12 T.13 T.14 T.15 T.oP T.oK T.oM;letI c:=d.C;letI a:=c 0;e/\(0<d.R/\0<a/\a<=12)/\∀(x:Nat),letI b:=c x;x=0->True/\(e/\b=a/\SubF (fun(q:Nat)=>AVal.sp (SId.mk 5 x q) 0) (fun(q:Nat)=>AVal.sp (SId.mk 5 0 q) 0) b []/\Value.int .i64 (Int.ofNat b)=Value.int .i64 (Int.ofNat a)/\f=f/\True)/\∀(x:Unit),True->∃(x:Unit),True/\e/\(∀(i:Nat),i<a->SubA 0 k k)/\True/\a=a/\SubF g g a []/\True
def C_7(T:TD):Prop:=
 letI r:=AVal.str [];letI p:=a_f (TD.wh T false);letI m:=Value.int .i64 (Int.ofNat 0);letI n:=fun(x:Nat)=>r;letI k:=p=p;letI h:=TD.mk T.R T.2 false T.4 T.pad T.keep T.span T.promote T.pres T.skip T.role T.12 T.13 T.14 T.15 T.oP T.oK T.oM;letI f:=h.R;letI g:=h.C;letI d:=g 0;letI c:=f-0;letI b:=Int.ofNat c;letI a:=∀(i:Nat),i<d->SubA 0 r r;br (decide (b≥Int.ofNat 1)) (gd (decide (Int.ofNat 0<b)) (gd (Nat.blt 0 c) (k/\(0<f/\0<d/\d<=12)/\∀(x:Nat),letI e:=g x;x=0->True/\(k/\e=d/\SubF (fun(q:Nat)=>AVal.sp (SId.mk 5 x q) 0) (fun(q:Nat)=>AVal.sp (SId.mk 5 0 q) 0) e []/\Value.int .i64 (Int.ofNat e)=Value.int .i64 (Int.ofNat d)/\m=m/\True)/\∀(x:Unit),True->∃(x:Unit),True/\k/\a/\True/\d=d/\SubF n n d []/\True))) (∃(x:Unit),True/\k/\a/\True/\d=0/\True)
theorem q_R(T:TD):TabOk Tryz.prog (caU T):=by
 refine⟨fun f s h=>?_,fun f s h=>?_⟩
 ·unfold caU at h
  simp only at h
  split at h
  ·cases h;exact a_d q_C (C_3 T).1
  ·cases h
 ·cases h
theorem C_8(T:TD)(hT:T.Ok):C_4 T:=by
 unfold C_4
 have hc:=hT.c 0 hT.r
 have hc2:=hT.c2 0
 have e1:∀m:Nat,m<=1000->IntKind.wrap IntKind.i64 (Int.ofNat m)=Int.ofNat m:=fun m h=>a_o ab ab
 simp only[Nat.zero_add,e1 1 ac]
 simp only[sj3,eq_self,implies_true,forall_eq,b_F,b_P,Nat.le_eq,sj2,a_e,sj0]
 repeat' (first|omega|exact trivial|exact hT|exact hT.r|exact rfl|exact fun _ _ _=>a_7|exact fun _ _ _=>a_g rfl|exact a_g rfl|refine⟨1,?_⟩|intro _|refine And.intro ?_ ?_)
theorem C_9(T:TD)(k:Nat)(hT:T.Ok)(h:0<k/\k<=T.C 0):C_5 T k:=by
 unfold C_5
 have hc:=hT.c 0 hT.r
 have hc2:=hT.c2 0
 have e1:∀m:Nat,m<=1000->IntKind.wrap IntKind.i64 (Int.ofNat m)=Int.ofNat m:=fun m h=>a_o ab ab
 simp only[e1 (k+1) ac]
 simp only[sj3,eq_self,implies_true,forall_eq,b_F,b_P,Nat.le_eq,sj2,a_e,sj0]
 repeat' (first|omega|exact trivial|exact hT|exact hT.r|exact rfl|exact fun _ _ _=>a_7|exact fun _ _ _=>a_g rfl|exact a_g rfl|refine⟨k+1,?_⟩|intro _|refine And.intro ?_ ?_)
theorem D_a(T:TD)(hT:T.Ok):(caD T).Body2 (H_g T) Tryz.prog (sub (a_b Tryz.f425) [0,0,1,0,1,1,1,1,1]):=by
 refine LoopD.bodyH2 (root:=(a_b Tryz.f425)) (LT:=[]) [0,0,1,0,1,1,1,1,1] a_l (q_R T) (LTok.nil) 1000 ?_ ?_
 ·exact fun j hj=>Ho.of (C_4 T) aa (C_8 T hT)
 ·exact fun j hj=>Ho.of (C_5 T j) aa (C_9 T j hT hj)
theorem D_b(T:TD)(hT:TD.Ok (T.wh true)):C_6 T:=by
 unfold C_6
 have hc:=hT.c 0 hT.r
 have hc2:=hT.c2 0
 have e1:∀m:Nat,m<=1000->IntKind.wrap IntKind.i64 (Int.ofNat m)=Int.ofNat m:=fun m h=>a_o ab ab
 simp only[TD.wh] at hc hc2⊢
 simp only[sj3,eq_self,implies_true,forall_eq,b_F,b_P,Nat.le_eq,sj2,a_e,sj0]
 repeat' (first|omega|exact trivial|exact hT|exact hT.r|exact rfl|exact fun _ _ _=>a_7|exact fun _ _ _=>a_g rfl|exact a_g rfl|refine⟨0,?_⟩|intro _|refine And.intro ?_ ?_)
theorem D_c(T:TD)(hT:TD.Ok (T.wh false)):C_7 T:=by
 unfold C_7
 have hc:=hT.c 0 hT.r
 have hc2:=hT.c2 0
 have e1:∀m:Nat,m<=1000->IntKind.wrap IntKind.i64 (Int.ofNat m)=Int.ofNat m:=fun m h=>a_o ab ab
 have hr:=hT.r
 simp only[TD.wh] at hr hc hc2⊢
 simp only[sj3,eq_self,implies_true,forall_eq,b_F,b_P,Nat.le_eq,sj2,a_e,sj0]
 repeat' (first|omega|exact trivial|exact hT|exact hT.r|exact rfl|exact fun _ _ _=>a_7|exact fun _ _ _=>a_g rfl|exact a_g rfl|refine⟨0,?_⟩|intro _|refine And.intro ?_ ?_)
theorem v_X:a_t Tryz.prog 425:=⟨Tryz.f425,aa,rfl,aa⟩
theorem D_d(T:TD):(caS T).Body Tryz.prog 425/\(caS T).BodyD Tryz.prog 425:=by
 refine a_c (fn:=Tryz.f425) (b:=a_b Tryz.f425) (LT:=fun _=>[([0,1,0,1,1,1,1,1],(caD T).at ())]) a_l (q_R T) 1000 (fun _ ha=>LTok.cons (fun fr H K hk=>LoopD.ok2 (D_a T ha) hk) (LTok.nil)) aa aa ?_
 intro a ha
 cases hh:T.hd with
 |true=>
  obtain⟨T',rfl⟩:∃T':TD,T=T'.wh true:=⟨T,ag⟩
  exact Ho.of (C_6 T') aa (D_b T' ha)
 |false=>
  obtain⟨T',rfl⟩:∃T':TD,T=T'.wh false:=⟨T,ag⟩
  exact Ho.of (C_7 T') aa (D_c T' ha)
def n_6(T:TD)(i:Nat)(j:Nat):Prop:=
 letI d:=SId×Bool;letI c:=SId.mk 3 0 0;letI b:=a_f T=a_f T;letI a:=TD.mu T (SId.mk 5 i j,false);br (TD.hasT T i j) (∃(j':d),(j'.snd=false->j'.1=c\/(∃(i:Nat),i<T.R/\j'.1=SId.mk 4 i 0)\/(∃(i:Nat),∃(k:Nat),i<T.R/\k<T.C i/\j'.1=SId.mk 5 i k)\/∃(i:Nat),∃(k:Nat),i<T.R/\k<T.C i/\j'.1=SId.mk 6 i k)/\TD.mu T j'<a/\b/\br j'.snd False (gd (Nat.beq 6 j'.fst.1&&(Nat.beq i j'.fst.2&&Nat.beq j j'.fst.3)&&true) True)) (br (Nat.blt (j+1) (T.C i)) (∃(j':d),(j'.snd=false->j'.1=c\/(∃(i:Nat),i<T.R/\j'.1=SId.mk 4 i 0)\/(∃(i:Nat),∃(k:Nat),i<T.R/\k<T.C i/\j'.1=SId.mk 5 i k)\/∃(i:Nat),∃(k:Nat),i<T.R/\k<T.C i/\j'.1=SId.mk 6 i k)/\TD.mu T j'<a/\b/\br j'.snd False (gd (Nat.beq 5 j'.fst.1&&(Nat.beq i j'.fst.2&&Nat.beq (j+1) j'.fst.3)&&true) True)) (br (Nat.blt (i+1) T.R) (∃(j':d),(j'.snd=false->j'.1=c\/(∃(i:Nat),i<T.R/\j'.1=SId.mk 4 i 0)\/(∃(i:Nat),∃(k:Nat),i<T.R/\k<T.C i/\j'.1=SId.mk 5 i k)\/∃(i:Nat),∃(k:Nat),i<T.R/\k<T.C i/\j'.1=SId.mk 6 i k)/\TD.mu T j'<a/\b/\br j'.snd False (gd (Nat.beq 4 j'.fst.1&&(Nat.beq (i+1) j'.fst.2&&Nat.beq 0 j'.fst.3)&&true) True)) (∃(j':d),(j'.snd=false->j'.1=c\/(∃(i:Nat),i<T.R/\j'.1=SId.mk 4 i 0)\/(∃(i:Nat),∃(k:Nat),i<T.R/\k<T.C i/\j'.1=SId.mk 5 i k)\/∃(i:Nat),∃(k:Nat),i<T.R/\k<T.C i/\j'.1=SId.mk 6 i k)/\TD.mu T j'<a/\b/\br j'.snd True False)))
theorem s_U(T:TD)(i j:Nat)(h:i<T.R)(hc:j<T.C i):n_6 T i j:=by
 unfold n_6
 try simp only[p_9,sj5,sj9,false_implies,true_implies]
 repeat' (first|done|(refine b_V (p_h h hc) (TD.sdTx h hc) ?_;simp[a_j,a_p,b_S,doc,tbl,tbd,Tk.tr,Tk.td,Tk.tx];done)|(refine b_V (g_b h ac) (TD.sdTd h ac) ?_;simp[a_j,a_p,b_S,doc,tbl,tbd,Tk.tr,Tk.td,Tk.tx];done)|(refine b_V (g_c ac hc) (TD.sdTr ac) ?_;simp[a_j,a_p,b_S,doc,tbl,tbd,Tk.tr,Tk.td,Tk.tx];done)|(refine b_V (g_d h hc) (TD.sdTe) ?_;simp[a_j,a_p,b_S,doc,tbl,tbd,Tk.tr,Tk.td,Tk.tx];done)|exact rfl|exact trivial|omega|exact TD.sdT0|exact Or.inl trivial|exact Or.inl rfl|exact()|intro _|refine⟨?_,?_⟩)
theorem D_e(T:TD)(hT:T.Ok):(f9D T).Body Tryz.prog (sub (a_b Tryz.f429) [0,0,0,1,1,1]):=by
 refine LoopD.bodyH (root:=(a_b Tryz.f429)) [0,0,0,1,1,1] a_l (a_y) (LTok.nil) 1000 ?_
 rintro⟨x,e⟩ hj
 cases e with
 |true=>exact Ho.of (c_I T x) aa (e_Y T x)
 |false=>
  have hv:=hj rfl
  rcases hv with h|⟨i,hi,h⟩|⟨i,k,hi,hk,h⟩|⟨i,k,hi,hk,h⟩<;>simp only at h<;>subst h
  ·exact Ho.of (e_u T) aa (e_X T hT.1)
  ·exact Ho.of (g_B T i) aa (h_H T i hi (hT.2 i hi))
  ·exact Ho.of (n_6 T i k) aa (s_U T i k hi hk)
  ·exact Ho.of (g_C T i k) aa (h_I T i k hi hk)
theorem D_f(T:TD):(f9S T).Body Tryz.prog 429/\(f9S T).BodyD Tryz.prog 429:=by
 refine a_c (fn:=Tryz.f429) (b:=a_b Tryz.f429) (LT:=fun _=>[([0,0,1,1,1],(f9D T).at (tbd,false))]) a_l (a_y) 1000 (fun _ ha=>LTok.cons (fun fr H K hk=>LoopD.ok (D_e T ha) hk) (LTok.nil)) aa aa ?_
 exact fun a ha=>Ho.of (f3R T) aa (x_E T)
theorem v_Y(T:TD):TabOk Tryz.prog (cnU T):=by
 refine⟨fun f s h=>?_,fun f s h=>?_⟩
 ·unfold cnU at h
  simp only at h
  split at h
  ·cases h;exact a_d f_J (D_f T).1
  ·cases h
 ·cases h
theorem H_Y(T:TD)(hT:T.Ok):e_W T:=by
 unfold e_W
 try simp only[a_j,a_p,Bool.and_eq_true,sj5,a_m,a_e,sj4,sj8]
 repeat' (first|done|exact hT|exact rfl|exact trivial|exact()|intro _|refine⟨?_,?_⟩)
theorem v_Z:a_t Tryz.prog 426:=⟨Tryz.f426,aa,rfl,aa⟩
theorem D_g(T:TD):(cnS T).Body Tryz.prog 426/\(cnS T).BodyD Tryz.prog 426:=by
 refine a_c (fn:=Tryz.f426) (b:=a_b Tryz.f426) (LT:=fun _=>[]) a_l (v_Y T) 1000 (fun a ha=>LTok.nil) aa aa ?_
 exact fun a ha=>Ho.of (e_W T) aa (H_Y T ha)
def kzR(T:TD):Prop:=
 letI p:=TD.Ok T;letI n:=T.R-hN T;letI m:=True/\True;letI k:=a_f T=a_f T;letI h:=p/\T.skip=false/\nilR T=true;letI g:=fun(q:Nat)=>AVal.sp (SId.mk 4 (q+hN T) 0) 0;letI f:=p/\(T.skip&&allE (rn T) (rc T) (n+1))=true;letI e:=∃(x:Unit),True/\k/\True/\((((((True/\m)/\m)/\m)/\m)/\m)/\True)/\True;letI d:=n=n/\SubF g g n []/\∀(x:Unit),True->e;letI b:=br T.hd d False;letI c:=br T.hd False d;letI a:=k/\p/\∀(x:Unit),True->k/\p/\∀(x:Unit),True->br T.hd (k/\p/\br T.hd (∀(x:Unit),True->br T.skip (k/\f/\b) (k/\h/\b)) False) (k/\p/\br T.hd False (∀(x:Unit),True->br T.skip (k/\f/\c) (k/\h/\c)));br T.role (br (!T.pres) e a) a
theorem v_0(T:TD):TabOk Tryz.prog (kzU T):=by
 refine⟨fun f s h=>?_,fun f s h=>?_⟩
 ·unfold kzU at h
  simp only at h
  split at h
  ·cases h;exact a_d f_J (s_H T).1
  ·cases h;exact a_d q_x (v_s T).1
  ·cases h;exact a_d q_y (v_z T).1
  ·cases h;exact d_a (a_d n_5 (C_N T).1) (a_d n_5 (C_X T).1)
  ·cases h
 ·cases h
theorem H_Z(T:TD)(hT:T.Ok/\noT T=true):kzR T:=by
 unfold kzR
 obtain⟨h1,h2⟩:=hT
 have h3:(T.role&& !T.pres)=false->T.skip=true->(T.skip&&allE (rn T) (rc T) (T.R-hN T+1))=true:=fun g s=>by
  unfold noT nilR at h2
  rw[g,s,cond_true,Bool.false_or] at h2
  rw[s];exact h2
 have h4:(T.role&& !T.pres)=false->T.skip=false->nilR T=true:=fun g s=>by
  unfold noT at h2
  rw[g,Bool.false_or] at h2
  exact h2
 simp only[sj3,eq_self,implies_true,forall_eq,sj2,a_e,sj0]
 cases hr:T.role<;>cases hq:T.pres<;>cases hs:T.skip<;>(try simp only[hr,hq,hs,Bool.true_eq_false,Bool.false_eq_true,false_implies,true_implies,and_true,true_and,Bool.false_and,Bool.true_and,Bool.not_true,Bool.not_false] at h3 h4⊢)
 repeat' (first|exact h1|exact h3|exact h4|exact rfl|exact trivial|exact fun _ _ _=>a_7|exact()|(exfalso;simp_all;done)|intro _|refine And.intro ?_ ?_)
theorem q_S:a_t Tryz.prog 413:=⟨Tryz.f413,aa,rfl,aa⟩
theorem D_h(T:TD):(kzS T).Body Tryz.prog 413/\(kzS T).BodyD Tryz.prog 413:=by
 refine a_c (fn:=Tryz.f413) (b:=a_b Tryz.f413) (LT:=fun _=>[]) a_l (v_0 T) 1000 (fun _ ha=>LTok.nil) aa aa ?_
 exact fun a ha=>Ho.of (kzR T) aa (H_Z T ha)
def tNR(T:TD):Prop:=
 letI g:=Int.ofNat 0;letI f:=True/\True;letI e:=a_f T=a_f T;letI d:=True/\f;letI c:=Value.int .i64 g;letI b:=Value.int IntKind.i8 g;letI a:=c=c;e/\(TD.Ok T/\noT T=true)/\∀(x:Unit),True->∃(x:Unit),True/\e/\True/\(d/\((((d/\f)/\f)/\f)/\f)/\True)/\a/\a/\b=b/\True
theorem v_1(T:TD):TabOk Tryz.prog (tNU T):=by
 refine⟨fun f s h=>?_,fun f s h=>?_⟩
 ·unfold tNU at h
  simp only at h
  split at h
  ·cases h;exact a_d q_S (D_h T).1
  ·cases h
 ·cases h
theorem H_0(T:TD)(hT:T.Ok/\noT T=true):tNR T:=by
 unfold tNR
 simp only[sj3,eq_self,implies_true,forall_eq,b_F,b_P,Nat.le_eq,sj2,a_e,sj0]
 exact hT
theorem q_T:a_t Tryz.prog 411:=⟨Tryz.f411,aa,rfl,aa⟩
theorem D_i(T:TD):(tNS T).Body Tryz.prog 411/\(tNS T).BodyD Tryz.prog 411:=by
 refine a_c (fn:=Tryz.f411) (b:=a_b Tryz.f411) (LT:=fun _=>[]) a_l (v_1 T) 1000 (fun a ha=>LTok.nil) aa aa ?_
 exact fun a ha=>Ho.of (tNR T) aa (H_0 T ha)
end Tk

