/- Lemmas of this claim; the last text says what is proved. -/
import Derived.Test.YtjkgmpkgfhhaiaaGreatK22
import Derived.Test.YtjkgmpkgfhhaiaaGreatK32
import Derived.Test.YtjkgmpkgfhhaiaaGreatK33
import Derived.Test.YtjkgmpkgfhhaiaaGreatK34
import Derived.Test.YtjkgmpkgfhhaiaaGreatK30
import Derived.Test.YtjkgmpkgfhhaiaaGreatK25
import Derived.Test.YtjkgmpkgfhhaiaaGreatK29
import Derived.Test.YtjkgmpkgfhhaiaaGreatK24
set_option linter.all false
set_option maxRecDepth 1000000
namespace Tk
open Go Go.Sx Go.Proofs
open Q
variable [Syms]
def crRh (T:TD):Prop:=
 letI w2:=True/\True;letI v2:=List (Nat×AVal);letI u2:=domB (TD.wh T true);letI s2:=fun(x:Nat)=>AVal.e0;letI r2:=Int.ofNat 281474976710656;letI n2:=Value.int .i64 (Int.ofNat 0);letI g2:=([]:List AVal)=([]:List AVal);letI d2:=u2=u2;letI a2:=fun(q:Nat)=>AVal.sp (SId.mk 4 (q+1) 0) 0;letI y1:=(Nat->Nat)×(Nat->Nat->By)×Nat×Nat;letI w1:=([]:v2)=([]:v2);letI t1:=n2=n2;letI k1:=TD.mk T.R T.2 true T.4 T.pad T.keep T.span T.promote T.pres T.10 T.11 T.12 T.13 T.oP T.oK T.oM;letI h1:=k1.R;letI f1:=finR k1;letI e1:=h1-1;letI d1:=k1.promote;letI c1:=e1+1;letI z:=Nat.le 0 e1;letI a1:=(((((True/\w2)/\w2)/\w2)/\w2)/\w2)/\True;letI y:=Value.int .i64 (Int.ofNat e1);letI w:=IntKind.wrap .i64 (Int.ofNat c1);letI v:=Int.toNat w;letI u:=v*1;letI r:=e1=e1;letI p:=SubF a2 a2 e1 [];letI h:=c1<=c1;letI g:=Nat.beq c1 c1;letI e:=fun(q:Nat)=>AVal.famx (fun(c:Nat)=>AVal.by_ (rc k1 q c)) (rn k1 q);letI d:=y=y;letI b:=∃(x:y1),x=f1/\d2/\True/\(a1/\w1/\g2/\∀(i:Nat),letI r1:=AVal.famx (fun(k:Nat)=>AVal.by_ (x.2.fst i k)) (x.fst i);i<x.snd.2.fst->SubA 0 r1 r1)/\False;letI a:=∀(x:Unit),True->d2/\((∀(i:Nat),letI f:=AVal.famx (fun(c:Nat)=>AVal.by_ (rc k1 i c)) (rn k1 i);SubA 0 f f)/\c1<=100/\h)/\gd g (c1=c1/\gd g (h/\SubF e e c1 []/\gd (Nat.ble c1 c1) (h/\SubF s2 s2 c1 []/\∀(x:(Nat->AVal)×Nat×Nat×Nat),letI y2:=rowsN x.1;letI z2:=rowsC x.1;letI t2:=(x.2.fst,x.snd.2.snd);letI p2:=t2.fst;letI q2:=t2.snd;letI f2:=p2<=x.2.fst;letI e2:=x.snd.2.snd=q2;letI c2:=Nat.beq x.2.fst p2;letI b2:=Nat.ble q2 x.snd.2.snd;letI z1:=(y2,z2,x.2.fst,x.snd.2.snd).fst;letI v1:=allE y2 z2 p2;letI u1:=kp (eR y2 z2) p2;letI s:=SubF x.1 (fun(q:Nat)=>AVal.famx (fun(k:Nat)=>AVal.by_ ((z2,x.2.fst,x.snd.2.snd).fst q k)) (z1 q)) p2 [];letI m:=(∀(q:Nat),z1 q<=1000)/\1<=p2/\p2<=100/\p2<=q2;x=(e,c1,c1,c1)->br v1 (d2/\(m/\v1=true)/\gd c2 (e2/\f2/\s/\gd b2 (∀(x:Unit),True->br d1 (d2/\True/\∀(x:Unit),True->b) b))) (d2/\(m/\v1=false)/\gd c2 (e2/\f2/\s/\gd b2 (∀(x_1:y1),letI m2:=(x_1.snd.2.fst,x_1.snd.2.snd);letI h2:=m2.fst;letI k2:=m2.snd;letI p1:=fun(q:Nat)=>AVal.famx (fun(k:Nat)=>AVal.by_ (x_1.2.fst q k)) (x_1.fst q);letI m1:=rowsN p1;letI n1:=rowsC p1;letI t:=b1 m1 n1;letI n:=(m1,n1,x_1.snd.2.fst,x_1.snd.2.snd).fst;x_1=(fun(q:Nat)=>z1 (at0 u1 q),fun(q:Nat)=>rowsC x.1 (at0 u1 q),List.length u1,q2)->br d1 (d2/\(((∀(q:Nat),n q<=1000)/\1<=h2/\h2<=100/\h2<=k2)/\k2<=1000)/\gd (Nat.beq x_1.snd.2.fst h2) (x_1.snd.2.snd=k2/\h2<=x_1.snd.2.fst/\SubF p1 (fun(q:Nat)=>AVal.famx (fun(k:Nat)=>AVal.by_ ((n1,x_1.snd.2.fst,x_1.snd.2.snd).fst q k)) (n q)) h2 []/\gd (Nat.ble k2 x_1.snd.2.snd) (∀(x:y1),x=(fun(q:Nat)=>n (q+t),fun(q:Nat)=>rowsC p1 (q+t),h2-t,k2)->∃(x_2:y1),x_2=f1/\d2/\True/\(a1/\w1/\g2/\∀(i:Nat),letI q1:=AVal.famx (fun(k:Nat)=>AVal.by_ (x_2.2.fst i k)) (x_2.fst i);i<x_2.snd.2.fst->SubA 0 q1 q1)/\gd (Nat.beq x.snd.2.fst x_2.snd.2.fst) (x.snd.2.snd=x_2.snd.2.snd/\x_2.snd.2.fst<=x.snd.2.fst/\SubF (fun(q:Nat)=>AVal.famx (fun(k:Nat)=>AVal.by_ (x.2.fst q k)) (x.fst q)) (fun(q:Nat)=>AVal.famx (fun(k:Nat)=>AVal.by_ (x_2.2.fst q k)) (x_2.fst q)) x_2.snd.2.fst []/\gd (Nat.ble x_2.snd.2.snd x.snd.2.snd) True)))) (∃(x:y1),x=f1/\d2/\True/\(a1/\w1/\g2/\∀(i:Nat),letI s1:=AVal.famx (fun(k:Nat)=>AVal.by_ (x.2.fst i k)) (x.fst i);i<x.snd.2.fst->SubA 0 s1 s1)/\gd (Nat.beq x_1.snd.2.fst x.snd.2.fst) (x_1.snd.2.snd=x.snd.2.snd/\x.snd.2.fst<=x_1.snd.2.fst/\SubF p1 (fun(q:Nat)=>AVal.famx (fun(k:Nat)=>AVal.by_ (x.2.fst q k)) (x.fst q)) x.snd.2.fst []/\gd (Nat.ble x.snd.2.snd x_1.snd.2.snd) True))))))));gd (decide (Int.ofNat 0<=w)&&(decide (w<=r2)&&(decide (Int.ofNat 24*w<=r2)&&true))) (d2/\(0<h1/\TD.Ok k1)/\∀(x:Nat),letI g1:=k1.C x;x=0->gd (Nat.ble u u&&Nat.blt v 9223372036854775808&&true) (br (Nat.ble 1 v) (z/\(d2/\r/\p/\d/\t1/\v=c1/\1=1/\g1=rn k1 0/\SubF (fun(q:Nat)=>AVal.by_ (ct k1 x q)) (fun(c:Nat)=>AVal.by_ (rc k1 0 c)) g1 []/\gd (Nat.ble c1 u) (1=1/\True))/\a) (z/\(d2/\r/\p/\d/\t1/\False)/\a)))
def crRf (T:TD):Prop:=
 letI v2:=True/\True;letI u2:=List (Nat×AVal);letI t2:=domB (TD.wh T false);letI r2:=fun(x:Nat)=>AVal.e0;letI q2:=Int.ofNat 281474976710656;letI m2:=Value.int .i64 (Int.ofNat 0);letI f2:=([]:List AVal)=([]:List AVal);letI c2:=fun(q:Nat)=>AVal.sp (SId.mk 4 q 0) 0;letI a2:=t2=t2;letI w1:=(Nat->Nat)×(Nat->Nat->By)×Nat×Nat;letI v1:=([]:u2)=([]:u2);letI s1:=m2=m2;letI h1:=TD.mk T.R T.2 false T.4 T.pad T.keep T.span T.promote T.pres T.10 T.11 T.12 T.13 T.oP T.oK T.oM;letI g1:=finR h1;letI f1:=h1.R-0;letI e1:=h1.promote;letI c1:=f1+1;letI d1:=f1+0;letI a1:=(((((True/\v2)/\v2)/\v2)/\v2)/\v2)/\True;letI z:=Nat.le 0 f1;letI y:=Value.int .i64 (Int.ofNat f1);letI w:=IntKind.wrap .i64 (Int.ofNat c1);letI v:=Int.toNat w;letI u:=v*1;letI r:=SubF c2 c2 f1 [];letI p:=f1=f1;letI h:=c1<=c1;letI g:=(d1,c1).fst;letI e:=fun(q:Nat)=>AVal.famx (fun(c:Nat)=>AVal.by_ (rc h1 q c)) (rn h1 q);letI d:=y=y;letI b:=∃(x:w1),x=g1/\a2/\True/\(a1/\v1/\f2/\∀(i:Nat),letI q1:=AVal.famx (fun(k:Nat)=>AVal.by_ (x.2.fst i k)) (x.fst i);i<x.snd.2.fst->SubA 0 q1 q1)/\False;letI a:=∀(x:Unit),True->a2/\((∀(i:Nat),letI f:=AVal.famx (fun(c:Nat)=>AVal.by_ (rc h1 i c)) (rn h1 i);SubA 0 f f)/\g<=100/\h)/\gd (Nat.beq c1 c1) (c1=c1/\gd (Nat.beq d1 g) (h/\SubF e e c1 []/\gd (Nat.ble c1 c1) (g<=d1/\SubF r2 r2 g []/\∀(x:(Nat->AVal)×Nat×Nat×Nat),letI w2:=rowsN x.1;letI y2:=rowsC x.1;letI s2:=(x.2.fst,x.snd.2.snd);letI n2:=s2.fst;letI p2:=s2.snd;letI e2:=n2<=x.2.fst;letI d2:=x.snd.2.snd=p2;letI b2:=Nat.beq x.2.fst n2;letI z1:=Nat.ble p2 x.snd.2.snd;letI y1:=(w2,y2,x.2.fst,x.snd.2.snd).fst;letI u1:=allE w2 y2 n2;letI t1:=kp (eR w2 y2) n2;letI s:=SubF x.1 (fun(q:Nat)=>AVal.famx (fun(k:Nat)=>AVal.by_ ((y2,x.2.fst,x.snd.2.snd).fst q k)) (y1 q)) n2 [];letI m:=(∀(q:Nat),y1 q<=1000)/\1<=n2/\n2<=100/\n2<=p2;x=(e,c1,d1,c1)->br u1 (a2/\(m/\u1=true)/\gd b2 (d2/\e2/\s/\gd z1 (∀(x:Unit),True->br e1 (a2/\True/\∀(x:Unit),True->b) b))) (a2/\(m/\u1=false)/\gd b2 (d2/\e2/\s/\gd z1 (∀(x_1:w1),letI k2:=(x_1.snd.2.fst,x_1.snd.2.snd);letI g2:=k2.fst;letI h2:=k2.snd;letI n1:=fun(q:Nat)=>AVal.famx (fun(k:Nat)=>AVal.by_ (x_1.2.fst q k)) (x_1.fst q);letI k1:=rowsN n1;letI m1:=rowsC n1;letI t:=b1 k1 m1;letI n:=(k1,m1,x_1.snd.2.fst,x_1.snd.2.snd).fst;x_1=(fun(q:Nat)=>y1 (at0 t1 q),fun(q:Nat)=>rowsC x.1 (at0 t1 q),List.length t1,p2)->br e1 (a2/\(((∀(q:Nat),n q<=1000)/\1<=g2/\g2<=100/\g2<=h2)/\h2<=1000)/\gd (Nat.beq x_1.snd.2.fst g2) (x_1.snd.2.snd=h2/\g2<=x_1.snd.2.fst/\SubF n1 (fun(q:Nat)=>AVal.famx (fun(k:Nat)=>AVal.by_ ((m1,x_1.snd.2.fst,x_1.snd.2.snd).fst q k)) (n q)) g2 []/\gd (Nat.ble h2 x_1.snd.2.snd) (∀(x:w1),x=(fun(q:Nat)=>n (q+t),fun(q:Nat)=>rowsC n1 (q+t),g2-t,h2)->∃(x_2:w1),x_2=g1/\a2/\True/\(a1/\v1/\f2/\∀(i:Nat),letI p1:=AVal.famx (fun(k:Nat)=>AVal.by_ (x_2.2.fst i k)) (x_2.fst i);i<x_2.snd.2.fst->SubA 0 p1 p1)/\gd (Nat.beq x.snd.2.fst x_2.snd.2.fst) (x.snd.2.snd=x_2.snd.2.snd/\x_2.snd.2.fst<=x.snd.2.fst/\SubF (fun(q:Nat)=>AVal.famx (fun(k:Nat)=>AVal.by_ (x.2.fst q k)) (x.fst q)) (fun(q:Nat)=>AVal.famx (fun(k:Nat)=>AVal.by_ (x_2.2.fst q k)) (x_2.fst q)) x_2.snd.2.fst []/\gd (Nat.ble x_2.snd.2.snd x.snd.2.snd) True)))) (∃(x:w1),x=g1/\a2/\True/\(a1/\v1/\f2/\∀(i:Nat),letI r1:=AVal.famx (fun(k:Nat)=>AVal.by_ (x.2.fst i k)) (x.fst i);i<x.snd.2.fst->SubA 0 r1 r1)/\gd (Nat.beq x_1.snd.2.fst x.snd.2.fst) (x_1.snd.2.snd=x.snd.2.snd/\x.snd.2.fst<=x_1.snd.2.fst/\SubF n1 (fun(q:Nat)=>AVal.famx (fun(k:Nat)=>AVal.by_ (x.2.fst q k)) (x.fst q)) x.snd.2.fst []/\gd (Nat.ble x.snd.2.snd x_1.snd.2.snd) True))))))));gd (decide (Int.ofNat 0<=w)&&(decide (w<=q2)&&(decide (Int.ofNat 24*w<=q2)&&true))) (gd (Nat.ble u u&&Nat.blt v 9223372036854775808&&true) (br (Nat.ble 1 v) (z/\(a2/\p/\r/\d/\s1/\v=c1/\1=1/\0=rn h1 0/\0=0/\gd (Nat.ble c1 u) (0=0/\0<=0/\True))/\a) (z/\(a2/\p/\r/\d/\s1/\False)/\a)))
theorem cr_rh (T:TD) (hT:TD.Ok (T.wh true)/\allE (rn (T.wh true)) (rc (T.wh true)) (nR (T.wh true))=false):crRh T:=by
 unfold crRh
 obtain⟨hT,ha⟩:=hT
 have hr:=hT.r
 have hr2:=hT.r2
 have hc2:=hT.c2
 have hc:=hT.c
 simp only[TD.wh] at hr hr2 hc2 hc
 have e1:∀m:Nat,m<=1000->IntKind.wrap IntKind.i64 (Int.ofNat m)=Int.ofNat m:=fun m h=>wrapI (by simp only[Int.ofNat_eq_natCast];omega) (by simp only[Int.ofNat_eq_natCast];omega)
 have e2:=e1 (T.R-1+1) (by omega)
 have e3:=e1 (T.R+1) (by omega)
 have e4:=e1 (T.R-0+1) (by omega)
 have tn:∀n:Nat,Int.toNat (Int.ofNat n)=n:=fun n=>rfl
 have hrn:∀T:TD,T.Ok->∀q,rn T q<=1000:=fun T ok q=>by
  have:=ok.c2
  unfold rn;cases T.hd with
  |true=>have:=this q;simp only[cond_true];omega
  |false=>cases q with
   |zero=>simp
   |succ q=>have:=this q;simp only[cond_false];omega
 have hrn:=hrn _ hT
 simp only[TD.wh,nR,hN,cond_true,cond_false,Nat.sub_zero] at hrn ha
 simp only[TD.wh,hN,nR,cond_true,cond_false,e2,e3,e4,tn,Nat.sub_zero,Nat.add_zero]
 simp only[sj2,eq_self,implies_true,forall_eq,intE,intF,Nat.le_eq,rowsN_famx,rowsC_famx,Nat.mul_one,sj1,leB_iff',sj0]
 simp only[ha,Bool.true_eq_false,Bool.false_eq_true,false_implies,true_implies,and_true]
 cases hp:T.promote<;>try simp only[finR,kR,nR,hN,hp,cond_true,cond_false,Nat.add_zero,Nat.sub_zero,Bool.true_eq_false,Bool.false_eq_true,false_implies,true_implies,and_true,true_and]
 all_goals repeat' (first|omega|exact trivial|(simpa only[TD.wh,hp] using hT;done)|exact kp_pos (by omega)|exact Nat.le_trans kp_len (by omega)|exact fun _=>hrn _|exact hT|exact hrn|exact hrn _|exact rfl|exact fun _ _ _=>SubA.famx fun _ _=>byA|exact fun _ _ _=>byA|exact fun _ _ _=>pinA|exact fun _ _ _=>nlS_sub rfl|exact SubA.famx fun _ _=>byA|intro _|refine And.intro ?_ ?_)
theorem cr_rf (T:TD) (hT:TD.Ok (T.wh false)/\allE (rn (T.wh false)) (rc (T.wh false)) (nR (T.wh false))=false):crRf T:=by
 unfold crRf
 obtain⟨hT,ha⟩:=hT
 have hr:=hT.r
 have hr2:=hT.r2
 have hc2:=hT.c2
 have hc:=hT.c
 simp only[TD.wh] at hr hr2 hc2 hc
 have e1:∀m:Nat,m<=1000->IntKind.wrap IntKind.i64 (Int.ofNat m)=Int.ofNat m:=fun m h=>wrapI (by simp only[Int.ofNat_eq_natCast];omega) (by simp only[Int.ofNat_eq_natCast];omega)
 have e2:=e1 (T.R-1+1) (by omega)
 have e3:=e1 (T.R+1) (by omega)
 have e4:=e1 (T.R-0+1) (by omega)
 have tn:∀n:Nat,Int.toNat (Int.ofNat n)=n:=fun n=>rfl
 have hrn:∀T:TD,T.Ok->∀q,rn T q<=1000:=fun T ok q=>by
  have:=ok.c2
  unfold rn;cases T.hd with
  |true=>have:=this q;simp only[cond_true];omega
  |false=>cases q with
   |zero=>simp
   |succ q=>have:=this q;simp only[cond_false];omega
 have hrn:=hrn _ hT
 simp only[TD.wh,nR,hN,cond_true,cond_false,Nat.sub_zero] at hrn ha
 simp only[TD.wh,hN,nR,cond_true,cond_false,e2,e3,e4,tn,Nat.sub_zero,Nat.add_zero]
 simp only[sj2,eq_self,implies_true,forall_eq,intE,intF,Nat.le_eq,rowsN_famx,rowsC_famx,Nat.mul_one,sj1,leB_iff',sj0]
 simp only[ha,Bool.true_eq_false,Bool.false_eq_true,false_implies,true_implies,and_true]
 cases hp:T.promote<;>try simp only[finR,kR,nR,hN,hp,cond_true,cond_false,Nat.add_zero,Nat.sub_zero,Bool.true_eq_false,Bool.false_eq_true,false_implies,true_implies,and_true,true_and]
 all_goals repeat' (first|omega|exact trivial|(simpa only[TD.wh,hp] using hT;done)|exact kp_pos (by omega)|exact Nat.le_trans kp_len (by omega)|exact fun _=>hrn _|exact hT|exact hrn|exact hrn _|exact rfl|exact fun _ _ _=>SubA.famx fun _ _=>byA|exact fun _ _ _=>byA|exact fun _ _ _=>pinA|exact fun _ _ _=>nlS_sub rfl|exact SubA.famx fun _ _=>byA|intro _|refine And.intro ?_ ?_)
theorem cr_ok (T:TD):(crS T).Body Tryz.prog 415/\(crS T).BodyD Tryz.prog 415:=by
 refine genS_body (fn:=Tryz.f415) (b:=(bodyOf Tryz.f415)) (LT:=fun _=>[([0,1,0,1,1,1,1],(czD T).at (0:Nat))]) ftOk (czU_ok T) 1000 (fun _ ha=>LTok.cons (fun fr H K hk=>LoopD.ok (czD_b T ha.1) hk) (LTok.nil)) (by kernel_rfl) (by kernel_rfl) ?_
 intro a ha
 cases hh:T.hd with
 |true=>
  obtain⟨T',rfl⟩:∃T':TD,T=T'.wh true:=⟨T,by cases T;simp only[TD.wh] at hh⊢;rw[hh]⟩
  exact Ho.of (crRh T') (by kernel_rfl) (cr_rh T' ha)
 |false=>
  obtain⟨T',rfl⟩:∃T':TD,T=T'.wh false:=⟨T,by cases T;simp only[TD.wh] at hh⊢;rw[hh]⟩
  exact Ho.of (crRf T') (by kernel_rfl) (cr_rf T' ha)
def zhDR (T:TD) (l:By) (c:Nat) (i:Nat):Prop:=
 letI e:=List.length l;letI d:=domB T=domB T;letI b:=Value.int IntKind.u8 (Int.ofNat c);letI a:=decide (Int.ofNat i<Int.ofNat e);br a (gd a (gd (Nat.blt i e) (br (Int.ofNat (UInt8.toNat (List.getD l i (0:UInt8)))==Int.ofNat c) False (∃(j':Nat),Nat.le j' e/\e-j'<e-i/\d/\l=l/\b=b/\Value.int .i64 (IntKind.wrap .i64 (Int.ofNat (i+1)))=Value.int .i64 (Int.ofNat j')/\True)))) (∃(x:Unit),True/\d/\True)
def zhR (T:TD) (l:By) (c:Nat):Prop:=
 letI e:=domB T=domB T;letI d:=Value.bool false;letI b:=Value.int .i64 (Int.ofNat 0);letI a:=Value.int IntKind.u8 (Int.ofNat c);Nat.le 0 (List.length l)/\(e/\l=l/\a=a/\b=b/\True)/\∀(x:Unit),True->∃(x:Unit),True/\e/\True/\True/\d=d/\True
theorem zhD_r (T:TD) (l:By) (c:Nat) (i:Nat) (hd:(∀b∈l,b.toNat≠c)/\l.length<=bufMax/\c<256) (hi:i<=l.length):zhDR T l c i:=by
 unfold zhDR
 obtain⟨h1,h2,h3⟩:=hd
 simp only[bufMax] at h2
 have e1:i<l.length->IntKind.wrap IntKind.i64 (Int.ofNat (i+1))=Int.ofNat (i+1):=fun h=>by rw[wrapI (by simp only[Int.ofNat_eq_natCast];omega) (by simp only[Int.ofNat_eq_natCast];omega)]
 simp only[sj2,intE,intF,sj1,leB_iff',sj0]
 exact⟨fun g=>⟨g,g,fun e=>absurd e (h1 _ (getD_mem g)),fun _=>⟨i+1,Nat.succ_le_of_lt g,by omega,congrArg _ (e1 g)⟩⟩,fun g=>trivial⟩
theorem zhD_b (T:TD) (l:By) (c:Nat) (hd:(∀b∈l,b.toNat≠c)/\l.length<=bufMax/\c<256):(zhD T l c).Body Tryz.prog (sub (bodyOf Tryz.f433) [0,0,1,0,1]):=by
 refine LoopD.bodyH (root:=(bodyOf Tryz.f433)) [0,0,1,0,1] ftOk (nofOk) (LTok.nil) 1000 ?_
 exact fun i hi=>Ho.of (zhDR T l c i) (by kernel_rfl) (zhD_r T l c i hd hi)
theorem zh_r (T:TD) (l:By) (c:Nat):zhR T l c:=by
 unfold zhR
 try simp only[br_iff,gd_iff,Bool.and_eq_true,sj5,leB_iff,leB_iff',sj3,sj7]
 repeat' (first|done|omega|exact rfl|exact trivial|assumption|exact Nat.zero_le _|exact()|intro _|refine⟨?_,?_⟩)
theorem zh_fok:FunOk Tryz.prog 433:=⟨Tryz.f433,by kernel_rfl,rfl,by kernel_rfl⟩
theorem zh_ok (T:TD):(zhS T).Body Tryz.prog 433/\(zhS T).BodyD Tryz.prog 433:=by
 refine genS_body (fn:=Tryz.f433) (b:=(bodyOf Tryz.f433)) (LT:=fun⟨l,c⟩=>[([0,1,0,1],(zhD T l c).at (0:Nat))]) ftOk (nofOk) 1000 (fun⟨l,c⟩ ha=>LTok.cons (fun fr H K hk=>LoopD.ok (zhD_b T l c ha) hk) (LTok.nil)) (by kernel_rfl) (by kernel_rfl) ?_
 exact fun a ha=>Ho.of (zhR T a.1 a.2) (by kernel_rfl) (zh_r T a.1 a.2)
theorem fbD_b (T:TD) (i:Nat) (hd:i<T.R/\0<T.C i/\T.C i<=12):(fbD T i).Bodyn (fbDL T i) Tryz.prog (sub (bodyOf Tryz.f435) [0,0,0,1,1,1]):=by
 refine List.forall_mem_cons.2 ⟨bodynH (root:=(bodyOf Tryz.f435)) [0,0,0,1,1,1] ftOk (nofOk) (LTok.nil) 1000 ?_,List.forall_mem_cons.2 ⟨bodynH (root:=(bodyOf Tryz.f435)) [0,0,0,1,1,1] ftOk (nofOk) (LTok.nil) 1000 ?_,List.forall_mem_cons.2 ⟨bodynH (root:=(bodyOf Tryz.f435)) [0,0,0,1,1,1] ftOk (nofOk) (LTok.nil) 1000 ?_,List.forall_mem_cons.2 ⟨bodynH (root:=(bodyOf Tryz.f435)) [0,0,0,1,1,1] ftOk (nofOk) (LTok.nil) 1000 ?_,fun _ h=>absurd h List.not_mem_nil⟩⟩⟩⟩
 ·exact fun j hj=>Ho.of (faDR T i) (by kernel_rfl) (faD_r T i hd)
 ·exact fun j hj=>Ho.of (faDRA T i j) (by kernel_rfl) (faD_rA T i j hd hj)
 ·exact fun j hj=>Ho.of (faDRB T i j) (by kernel_rfl) (faD_rB T i j hd hj)
 ·exact fun j hj=>Ho.of (faDRZ T i) (by kernel_rfl) (faD_rZ T i hd)
theorem fb_ok (T:TD):(fbS T).Body Tryz.prog 435/\(fbS T).BodyD Tryz.prog 435:=by
 refine genS_body (fn:=Tryz.f435) (b:=(bodyOf Tryz.f435)) (LT:=fun i=>[([0,0,1,1,1],(fbD T i).at ())]) ftOk (nofOk) 1000 (fun i ha=>LTok.cons (fun fr H K hk=>LoopD.okn (fbD_b T i ha) hk) (LTok.nil)) (by kernel_rfl) (by kernel_rfl) ?_
 exact fun a ha=>Ho.of (faR T a) (by kernel_rfl) (fa_r T a)
def caDR (T:TD):Prop:=
 letI m:=T.C 0;letI k:=m+1;letI h:=domB T=domB T;letI g:=Int.ofNat m;letI f:=Value.int .i64 (Int.ofNat 1);letI e:=Value.int .i64 g;letI d:=decide (Int.ofNat 0<g);letI c:=fun(q:Nat)=>AVal.sp (SId.mk 5 0 q) 0;letI b:=e=e;letI a:=SubF c c m [];br d (gd d (gd (Nat.blt 0 m) ((∃(j':Unit),True/\k<k/\h/\m=m/\a/\b/\f=Value.int .i64 (Int.ofNat 0)/\False)\/∃(j':Nat),(0<j'/\j'<=m)/\m-j'<k/\h/\m=m/\a/\b/\f=Value.int .i64 (Int.ofNat j')/\gd (Nat.beq 1 j') (j'=1/\([]:List UInt8)=[]/\True)))) ((∃(x:Unit),True/\h/\m=0/\True)\/False)
def caDQ (T:TD) (k:Nat):Prop:=
 letI p:=T.C 0;letI r:=k+1;letI n:=domB T=domB T;letI m:=Int.ofNat p;letI h:=fun(x:Nat)=>AVal.str [];letI g:=Value.int .i64 m;letI f:=decide (Int.ofNat k<m);letI e:=fun(q:Nat)=>AVal.sp (SId.mk 5 0 q) 0;letI d:=Value.int .i64 (IntKind.wrap .i64 (Int.ofNat r));letI b:=g=g;letI c:=SubF h h k [];letI a:=SubF e e p [];br f (gd f (gd (Nat.blt k p) (gd (Nat.beq k k&&(Nat.ble (0+k+1+k+1+k+1+k+1+k+1+k+1+k+1+k+1+k+1+k+1+k+1+k+1+k+1+k+1+k+1+k+1) 140737488355328&&(Nat.ble r 140737488355328&&true))) ((∃(j':Unit),True/\p+1<p-k/\n/\p=p/\a/\b/\d=Value.int .i64 (Int.ofNat 0)/\False)\/∃(j':Nat),(0<j'/\j'<=p)/\p-j'<p-k/\n/\p=p/\a/\b/\d=Value.int .i64 (Int.ofNat j')/\gd (Nat.beq r j') (j'=r/\c/\([]:List UInt8)=[]/\True))))) ((∃(x:Unit),True/\n/\k=p/\k=k/\c/\True)\/False)
def caRh (T:TD):Prop:=
 letI k:=AVal.str [];letI h:=domB (TD.wh T true);letI f:=Value.int .i64 (Int.ofNat 0);letI g:=fun(x:Nat)=>k;letI e:=h=h;letI d:=TD.mk T.R T.2 true T.4 T.pad T.keep T.span T.promote T.pres T.10 T.11 T.12 T.13 T.oP T.oK T.oM;letI c:=d.C;letI a:=c 0;e/\(0<d.R/\0<a/\a<=12)/\∀(x:Nat),letI b:=c x;x=0->True/\(e/\b=a/\SubF (fun(q:Nat)=>AVal.sp (SId.mk 5 x q) 0) (fun(q:Nat)=>AVal.sp (SId.mk 5 0 q) 0) b []/\Value.int .i64 (Int.ofNat b)=Value.int .i64 (Int.ofNat a)/\f=f/\True)/\∀(x:Unit),True->∃(x:Unit),True/\e/\(∀(i:Nat),i<a->SubA 0 k k)/\True/\a=a/\SubF g g a []/\True
def caRf (T:TD):Prop:=
 letI r:=AVal.str [];letI p:=domB (TD.wh T false);letI m:=Value.int .i64 (Int.ofNat 0);letI n:=fun(x:Nat)=>r;letI k:=p=p;letI h:=TD.mk T.R T.2 false T.4 T.pad T.keep T.span T.promote T.pres T.10 T.11 T.12 T.13 T.oP T.oK T.oM;letI f:=h.R;letI g:=h.C;letI d:=g 0;letI c:=f-0;letI b:=Int.ofNat c;letI a:=∀(i:Nat),i<d->SubA 0 r r;br (decide (b≥Int.ofNat 1)) (gd (decide (Int.ofNat 0<b)) (gd (Nat.blt 0 c) (k/\(0<f/\0<d/\d<=12)/\∀(x:Nat),letI e:=g x;x=0->True/\(k/\e=d/\SubF (fun(q:Nat)=>AVal.sp (SId.mk 5 x q) 0) (fun(q:Nat)=>AVal.sp (SId.mk 5 0 q) 0) e []/\Value.int .i64 (Int.ofNat e)=Value.int .i64 (Int.ofNat d)/\m=m/\True)/\∀(x:Unit),True->∃(x:Unit),True/\k/\a/\True/\d=d/\SubF n n d []/\True))) (∃(x:Unit),True/\k/\a/\True/\d=0/\True)
theorem caU_ok (T:TD):TabOk Tryz.prog (caU T):=by
 refine⟨fun f s h=>?_,fun f s h=>?_⟩
 ·unfold caU at h
  simp only at h
  split at h
  ·cases h;exact genS_ok fa_fok (fb_ok T).1
  ·cases h
 ·cases h
theorem caD_r (T:TD) (hT:T.Ok):caDR T:=by
 unfold caDR
 have hc:=hT.c 0 hT.r
 have hc2:=hT.c2 0
 have e1:∀m:Nat,m<=1000->IntKind.wrap IntKind.i64 (Int.ofNat m)=Int.ofNat m:=fun m h=>wrapI (by simp only[Int.ofNat_eq_natCast];omega) (by simp only[Int.ofNat_eq_natCast];omega)
 simp only[Nat.zero_add,e1 1 (by omega)]
 simp only[sj2,eq_self,implies_true,forall_eq,intE,intF,Nat.le_eq,sj1,leB_iff',sj0]
 repeat' (first|omega|exact trivial|exact hT|exact hT.r|exact rfl|exact fun _ _ _=>pinA|exact fun _ _ _=>nlS_sub rfl|exact nlS_sub rfl|refine⟨1,?_⟩|intro _|refine And.intro ?_ ?_)
theorem caD_q (T:TD) (k:Nat) (hT:T.Ok) (h:0<k/\k<=T.C 0):caDQ T k:=by
 unfold caDQ
 have hc:=hT.c 0 hT.r
 have hc2:=hT.c2 0
 have e1:∀m:Nat,m<=1000->IntKind.wrap IntKind.i64 (Int.ofNat m)=Int.ofNat m:=fun m h=>wrapI (by simp only[Int.ofNat_eq_natCast];omega) (by simp only[Int.ofNat_eq_natCast];omega)
 simp only[e1 (k+1) (by omega)]
 simp only[sj2,eq_self,implies_true,forall_eq,intE,intF,Nat.le_eq,sj1,leB_iff',sj0]
 repeat' (first|omega|exact trivial|exact hT|exact hT.r|exact rfl|exact fun _ _ _=>pinA|exact fun _ _ _=>nlS_sub rfl|exact nlS_sub rfl|refine⟨k+1,?_⟩|intro _|refine And.intro ?_ ?_)
theorem caD_b (T:TD) (hT:T.Ok):(caD T).Body2 (caDE T) Tryz.prog (sub (bodyOf Tryz.f418) [0,0,1,0,1,1,1,1,1]):=by
 refine LoopD.bodyH2 (root:=(bodyOf Tryz.f418)) [0,0,1,0,1,1,1,1,1] ftOk (caU_ok T) (LTok.nil) 1000 ?_ ?_
 ·exact fun j hj=>Ho.of (caDR T) (by kernel_rfl) (caD_r T hT)
 ·exact fun j hj=>Ho.of (caDQ T j) (by kernel_rfl) (caD_q T j hT hj)
theorem ca_rh (T:TD) (hT:TD.Ok (T.wh true)):caRh T:=by
 unfold caRh
 have hc:=hT.c 0 hT.r
 have hc2:=hT.c2 0
 have e1:∀m:Nat,m<=1000->IntKind.wrap IntKind.i64 (Int.ofNat m)=Int.ofNat m:=fun m h=>wrapI (by simp only[Int.ofNat_eq_natCast];omega) (by simp only[Int.ofNat_eq_natCast];omega)
 simp only[TD.wh] at hc hc2⊢
 simp only[sj2,eq_self,implies_true,forall_eq,intE,intF,Nat.le_eq,sj1,leB_iff',sj0]
 repeat' (first|omega|exact trivial|exact hT|exact hT.r|exact rfl|exact fun _ _ _=>pinA|exact fun _ _ _=>nlS_sub rfl|exact nlS_sub rfl|refine⟨0,?_⟩|intro _|refine And.intro ?_ ?_)
theorem ca_rf (T:TD) (hT:TD.Ok (T.wh false)):caRf T:=by
 unfold caRf
 have hc:=hT.c 0 hT.r
 have hc2:=hT.c2 0
 have e1:∀m:Nat,m<=1000->IntKind.wrap IntKind.i64 (Int.ofNat m)=Int.ofNat m:=fun m h=>wrapI (by simp only[Int.ofNat_eq_natCast];omega) (by simp only[Int.ofNat_eq_natCast];omega)
 have hr:=hT.r
 simp only[TD.wh] at hr hc hc2⊢
 simp only[sj2,eq_self,implies_true,forall_eq,intE,intF,Nat.le_eq,sj1,leB_iff',sj0]
 repeat' (first|omega|exact trivial|exact hT|exact hT.r|exact rfl|exact fun _ _ _=>pinA|exact fun _ _ _=>nlS_sub rfl|exact nlS_sub rfl|refine⟨0,?_⟩|intro _|refine And.intro ?_ ?_)
theorem ca_fok:FunOk Tryz.prog 418:=⟨Tryz.f418,by kernel_rfl,rfl,by kernel_rfl⟩
theorem ca_ok (T:TD):(caS T).Body Tryz.prog 418/\(caS T).BodyD Tryz.prog 418:=by
 refine genS_body (fn:=Tryz.f418) (b:=(bodyOf Tryz.f418)) (LT:=fun _=>[([0,1,0,1,1,1,1,1],(caD T).at ())]) ftOk (caU_ok T) 1000 (fun _ ha=>LTok.cons (fun fr H K hk=>LoopD.ok2 (caD_b T ha) hk) (LTok.nil)) (by kernel_rfl) (by kernel_rfl) ?_
 intro a ha
 cases hh:T.hd with
 |true=>
  obtain⟨T',rfl⟩:∃T':TD,T=T'.wh true:=⟨T,by cases T;simp only[TD.wh] at hh⊢;rw[hh]⟩
  exact Ho.of (caRh T') (by kernel_rfl) (ca_rh T' ha)
 |false=>
  obtain⟨T',rfl⟩:∃T':TD,T=T'.wh false:=⟨T,by cases T;simp only[TD.wh] at hh⊢;rw[hh]⟩
  exact Ho.of (caRf T') (by kernel_rfl) (ca_rf T' ha)
def f9DRTd (T:TD) (i:Nat) (j:Nat):Prop:=
 letI d:=SId×Bool;letI c:=SId.mk 3 0 0;letI b:=domB T=domB T;letI a:=TD.mu T (SId.mk 5 i j,false);br (TD.hasT T i j) (∃(j':d),(j'.snd=false->j'.1=c\/(∃(i:Nat),i<T.R/\j'.1=SId.mk 4 i 0)\/(∃(i:Nat),∃(k:Nat),i<T.R/\k<T.C i/\j'.1=SId.mk 5 i k)\/∃(i:Nat),∃(k:Nat),i<T.R/\k<T.C i/\j'.1=SId.mk 6 i k)/\TD.mu T j'<a/\b/\br j'.snd False (gd (Nat.beq 6 j'.fst.1&&(Nat.beq i j'.fst.2&&Nat.beq j j'.fst.3)&&true) True)) (br (Nat.blt (j+1) (T.C i)) (∃(j':d),(j'.snd=false->j'.1=c\/(∃(i:Nat),i<T.R/\j'.1=SId.mk 4 i 0)\/(∃(i:Nat),∃(k:Nat),i<T.R/\k<T.C i/\j'.1=SId.mk 5 i k)\/∃(i:Nat),∃(k:Nat),i<T.R/\k<T.C i/\j'.1=SId.mk 6 i k)/\TD.mu T j'<a/\b/\br j'.snd False (gd (Nat.beq 5 j'.fst.1&&(Nat.beq i j'.fst.2&&Nat.beq (j+1) j'.fst.3)&&true) True)) (br (Nat.blt (i+1) T.R) (∃(j':d),(j'.snd=false->j'.1=c\/(∃(i:Nat),i<T.R/\j'.1=SId.mk 4 i 0)\/(∃(i:Nat),∃(k:Nat),i<T.R/\k<T.C i/\j'.1=SId.mk 5 i k)\/∃(i:Nat),∃(k:Nat),i<T.R/\k<T.C i/\j'.1=SId.mk 6 i k)/\TD.mu T j'<a/\b/\br j'.snd False (gd (Nat.beq 4 j'.fst.1&&(Nat.beq (i+1) j'.fst.2&&Nat.beq 0 j'.fst.3)&&true) True)) (∃(j':d),(j'.snd=false->j'.1=c\/(∃(i:Nat),i<T.R/\j'.1=SId.mk 4 i 0)\/(∃(i:Nat),∃(k:Nat),i<T.R/\k<T.C i/\j'.1=SId.mk 5 i k)\/∃(i:Nat),∃(k:Nat),i<T.R/\k<T.C i/\j'.1=SId.mk 6 i k)/\TD.mu T j'<a/\b/\br j'.snd True False)))
theorem f9D_rTd (T:TD) (i j:Nat) (h:i<T.R) (hc:j<T.C i):f9DRTd T i j:=by
 unfold f9DRTd
 try simp only[sj11,sj5,sj8,false_implies,true_implies]
 repeat' (first|done|(refine nx_goT (nx_td h hc) (TD.sdTx h hc) ?_;simp[br_iff,gd_iff,nodeV,doc,tbl,tbd,Tk.tr,Tk.td,Tk.tx];done)|(refine nx_goT (nx_tdn h (by omega)) (TD.sdTd h (by omega)) ?_;simp[br_iff,gd_iff,nodeV,doc,tbl,tbd,Tk.tr,Tk.td,Tk.tx];done)|(refine nx_goT (nx_tdr (by omega) hc) (TD.sdTr (by omega)) ?_;simp[br_iff,gd_iff,nodeV,doc,tbl,tbd,Tk.tr,Tk.td,Tk.tx];done)|(refine nx_goT (nx_tde h hc) (TD.sdTe) ?_;simp[br_iff,gd_iff,nodeV,doc,tbl,tbd,Tk.tr,Tk.td,Tk.tx];done)|exact rfl|exact trivial|omega|exact TD.sdT0|exact Or.inl trivial|exact Or.inl rfl|exact()|intro _|refine⟨?_,?_⟩)
theorem f9D_b (T:TD) (hT:T.Ok):(f9D T).Body Tryz.prog (sub (bodyOf Tryz.f422) [0,0,0,1,1,1]):=by
 refine LoopD.bodyH (root:=(bodyOf Tryz.f422)) [0,0,0,1,1,1] ftOk (nofOk) (LTok.nil) 1000 ?_
 rintro⟨x,e⟩ hj
 cases e with
 |true=>exact Ho.of (maREnd T x) (by kernel_rfl) (f3D_rEnd T x)
 |false=>
  have hv:=hj rfl
  rcases hv with h|⟨i,hi,h⟩|⟨i,k,hi,hk,h⟩|⟨i,k,hi,hk,h⟩<;>simp only at h<;>subst h
  ·exact Ho.of (f3DRTbd T) (by kernel_rfl) (f3D_rTbd T hT.1)
  ·exact Ho.of (f3DRTr T i) (by kernel_rfl) (f3D_rTr T i hi (hT.2 i hi))
  ·exact Ho.of (f9DRTd T i k) (by kernel_rfl) (f9D_rTd T i k hi hk)
  ·exact Ho.of (f3DRTx T i k) (by kernel_rfl) (f3D_rTx T i k hi hk)
theorem f9_ok (T:TD):(f9S T).Body Tryz.prog 422/\(f9S T).BodyD Tryz.prog 422:=by
 refine genS_body (fn:=Tryz.f422) (b:=(bodyOf Tryz.f422)) (LT:=fun _=>[([0,0,1,1,1],(f9D T).at (tbd,false))]) ftOk (nofOk) 1000 (fun _ ha=>LTok.cons (fun fr H K hk=>LoopD.ok (f9D_b T ha) hk) (LTok.nil)) (by kernel_rfl) (by kernel_rfl) ?_
 exact fun a ha=>Ho.of (f3R T) (by kernel_rfl) (f3_r T)
theorem cnU_ok (T:TD):TabOk Tryz.prog (cnU T):=by
 refine⟨fun f s h=>?_,fun f s h=>?_⟩
 ·unfold cnU at h
  simp only at h
  split at h
  ·cases h;exact genS_ok f3_fok (f9_ok T).1
  ·cases h
 ·cases h
theorem cn_r (T:TD) (hT:T.Ok):rmR5 T:=by
 unfold rmR5
 try simp only[br_iff,gd_iff,Bool.and_eq_true,sj5,leB_iff,leB_iff',sj3,sj7]
 repeat' (first|done|exact hT|exact rfl|exact trivial|exact()|intro _|refine⟨?_,?_⟩)
theorem cn_fok:FunOk Tryz.prog 419:=⟨Tryz.f419,by kernel_rfl,rfl,by kernel_rfl⟩
theorem cn_ok (T:TD):(cnS T).Body Tryz.prog 419/\(cnS T).BodyD Tryz.prog 419:=by
 refine genS_body (fn:=Tryz.f419) (b:=(bodyOf Tryz.f419)) (LT:=fun _=>[]) ftOk (cnU_ok T) 1000 (fun a ha=>LTok.nil) (by kernel_rfl) (by kernel_rfl) ?_
 exact fun a ha=>Ho.of (rmR5 T) (by kernel_rfl) (cn_r T ha)
end Tk
