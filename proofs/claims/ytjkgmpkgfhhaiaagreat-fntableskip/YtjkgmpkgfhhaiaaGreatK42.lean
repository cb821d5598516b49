/- Lemmas of this claim; the last text says what is proved. -/
import Derived.Test.YtjkgmpkgfhhaiaaGreatK23
import Derived.Test.YtjkgmpkgfhhaiaaGreatK38
import Derived.Test.YtjkgmpkgfhhaiaaGreatK39
import Derived.Test.YtjkgmpkgfhhaiaaGreatK40
import Derived.Test.YtjkgmpkgfhhaiaaGreatK41
import Derived.Test.YtjkgmpkgfhhaiaaGreatK31
import Derived.Test.YtjkgmpkgfhhaiaaGreatK36
import Derived.Test.YtjkgmpkgfhhaiaaGreatK24
set_option linter.all false
set_option maxRecDepth 1000000
namespace Tk
open Go Go.Sx Go.Proofs
open Q
variable [Syms]
def tADR (T:TD) (rn:Nat->Nat) (rc:Nat->Nat->By) (m:Nat) (c:Nat) (nA:Nat) (l0:By) (k:Nat):Prop:=
 letI q1:=m-1;letI p1:=fc rn rc;letI n1:=List UInt8;letI m1:=cnt rn rc m;letI h1:=[(10:UInt8)];letI g1:=domB T=domB T;letI f1:=wd m1;letI e1:=Int.ofNat q1;letI d1:=List.length m1;letI b1:=Value.int .i64 (Int.ofNat 0);letI c1:=fun(x:Nat)=>AVal.str [];letI z:=Value.int IntKind.i8 (Int.ofNat 0);letI a1:=Value.int .i64 e1;letI y:=decide (Int.ofNat k<e1);letI w:=fun(c:Nat)=>byOf (AVal.by_ (fc rn rc (1+k) c));letI v:=b1=b1;letI u:=z=z;letI t:=fun(i:Nat)=>AVal.lit (Value.int .i64 (Int.ofNat (wd m1 i)));letI s:=l0++bdyT T.pad f1 d1 p1 k;letI h:=fun(i:Nat)=>litN (AVal.lit (Value.int .i64 (Int.ofNat (wd m1 i))));letI n:=(w,d1);letI p:=l0++bdyT T.pad f1 d1 p1 q1;letI g:=n.snd;letI f:=List.length s;letI e:=fun(i:Nat)=>AVal.fam (fun(c:Nat)=>AVal.by_ (fc rn rc i c)) d1;letI d:=(d1,w,d1).fst;letI b:=(s,h,d1,w,d1).fst;letI a:=nA=nA/\SubF c1 c1 nA []/\gd (Nat.beq m m) (c=c/\m<=m/\SubF e e m []/\gd (Nat.ble c c) True);br y (gd y (gd (Nat.blt (1+k) m) (g1/\OwOk T b h d w g/\d1=d/\SubF t (fun(i:Nat)=>AVal.lit (Value.int .i64 (Int.ofNat ((h,d1,w,d1).fst i)))) d1 []/\d1=g/\SubF (fun(c:Nat)=>AVal.by_ (fc rn rc (1+k) c)) (fun(c:Nat)=>AVal.by_ (n.fst c)) d1 []/\gd (Nat.beq f (List.length b)) (v/\u/\(∃(r:n1),s=b++r)/\∀(x:n1),letI k1:=List.length x;x=b++rowT T.pad h w g->g1/\Nat.le (k1+1) 70368744177664/\h1=h1/\gd (Nat.beq k1 k1) (v/\u/\(∃(r:n1),x=x++r)/\∀(x_1:n1),x_1=x++h1->∃(j':Nat),letI q:=l0++bdyT T.pad f1 d1 p1 j';Nat.le j' q1/\m-j'<m-k/\g1/\d1=d1/\SubF t t d1 []/\gd (Nat.beq q1 q1) (c-1=c-1/\a1=a1/\Value.int .i64 (IntKind.wrap .i64 (Int.ofNat (k+1)))=Value.int .i64 (Int.ofNat j')/\gd (Nat.beq (List.length x_1) (List.length q)) (v/\u/\(∃(r:n1),x_1=q++r)/\a))))))) (∃(x:Unit),True/\g1/\gd (Nat.beq f (List.length p)) (v/\u/\(∃(r:n1),s=p++r)/\a))
def tAR (T:TD):Prop:=
 letI e3:=T.C 0;letI d3:=finR T;letI b3:=List UInt8;letI c3:=d3.1;letI a3:=Int.ofNat 0;letI z2:=True/\True;letI w2:=[(10:UInt8)];letI y2:=d3.snd.1;letI s2:=domB T=domB T;letI m2:=Nat->Nat->By;letI n2:=[(10:UInt8),10];letI p2:=d3.snd.2.fst;letI q2:=d3.snd.2.snd;letI h2:=p2-1;letI k2:=True/\z2;letI y1:=Value.int .i64 a3;letI b2:=fun(x:Nat)=>AVal.str [];letI c2:=fc c3 y2;letI d2:=Value.int .i64 (Int.ofNat 1);letI t1:=w2=w2;letI s1:=Value.int IntKind.i8 a3;letI p1:=n2=n2;letI m1:=cnt c3 y2 p2;letI k1:=taL T c3 y2 p2;letI h1:=wd m1;letI f1:=y1=y1;letI e1:=List.length m1;letI c1:=s1=s1;letI a1:=SubF b2 b2 e3 [];letI f:=k1++bdyT T.pad h1 e1 c2 0;letI d:=k1++bdyT T.pad h1 e1 c2 h2;letI b:=(d,n2).fst;letI a:=List.length b;s2/\(TD.Ok T/\allE (rn T) (rc T) (T.R-hN T+1)=false)/\∀(x:(Nat->Nat)×m2×Nat×Nat),letI e2:=(x.snd.2.fst,x.snd.2.snd);letI u1:=e2.fst;letI v1:=e2.snd;letI y:=fun(q:Nat)=>AVal.famx (fun(k:Nat)=>AVal.by_ (x.2.fst q k)) (x.fst q);letI u:=rowsC y;letI v:=rowsN y;letI s:=(u,x.snd.2.fst,x.snd.2.snd).fst;letI h:=(v,u,x.snd.2.fst,x.snd.2.snd).fst;x=d3->s2/\((∀(q k:Nat),letI p:=s q k;WT p/\List.length p<=2147483647)/\(∀(q:Nat),h q<=12)/\u1<=14/\u1<=v1/\v1<=14)/\gd (Nat.beq x.snd.2.fst u1) (x.snd.2.snd=v1/\u1<=x.snd.2.fst/\SubF y (fun(q:Nat)=>AVal.famx (fun(k:Nat)=>AVal.by_ (s q k)) (h q)) u1 []/\gd (Nat.ble v1 x.snd.2.snd) (∀(x_1:List Nat),letI t2:=List.length x_1;letI f2:=(t2,e3);letI z1:=f2.fst;letI a2:=f2.snd;letI w1:=(x.snd.2.snd,t2);letI q1:=w1.fst;letI r1:=w1.snd;letI n1:=(x.snd.2.fst,x.snd.2.snd,t2).fst;letI d1:=fun(i:Nat)=>AVal.lit (Value.int .i64 (Int.ofNat (wd x_1 i)));letI b1:=fun(i:Nat)=>litN (AVal.lit (Value.int .i64 (Int.ofNat (wd x_1 i))));letI n:=(u,x.snd.2.fst,x.snd.2.snd,t2).fst;letI g:=(v,u,x.snd.2.fst,x.snd.2.snd,t2);letI e:=g.fst;x_1=cnt v u u1->s2/\(((∀(q k:Nat),letI m:=n q k;WT m/\List.length m<=2147483647)/\(∀(q:Nat),e q<=12)/\n1<=14/\n1<=q1/\q1<=14)/\r1<=12/\∀(q:Nat),q<n1->e q<=r1)/\gd (Nat.beq x.snd.2.fst n1) (x.snd.2.snd=q1/\Value.int .i64 (Int.ofNat t2)=Value.int .i64 (Int.ofNat r1)/\n1<=x.snd.2.fst/\SubF y (fun(q:Nat)=>AVal.famx (fun(k:Nat)=>AVal.by_ (n q k)) (e q)) n1 []/\gd (Nat.ble q1 x.snd.2.snd) (∀(x_2:(Nat->Nat)×m2×Nat×Nat×Nat),letI r2:=x_2.snd.2.fst-1;letI g2:=Int.ofNat x_2.snd.2.fst;letI g1:=fun(c:Nat)=>byOf (AVal.by_ (fc x_2.1 x_2.snd.1 0 c));letI z:=(g1,x_2.snd.snd.2.snd);letI w:=z.snd;letI t:=(t2,g1,x_2.snd.snd.2.snd).fst;x_2=g->s2/\(0<2/\2<=70368744177664)/\p1/\f1/\c1/\∀(x:b3),x=n2->gd (decide (a3<g2)) (gd (Nat.blt 0 x_2.snd.2.fst) (s2/\OwOk T x b1 t g1 w/\t2=t/\SubF d1 (fun(i:Nat)=>AVal.lit (Value.int .i64 (Int.ofNat ((b1,t2,g1,x_2.snd.snd.2.snd).fst i)))) t2 []/\x_2.snd.snd.2.snd=w/\SubF (fun(c:Nat)=>AVal.by_ (fc x_2.1 x_2.snd.1 0 c)) (fun(c:Nat)=>AVal.by_ (z.fst c)) x_2.snd.snd.2.snd []/\gd (Nat.beq (List.length x) (List.length x)) (f1/\c1/\(∃(r:b3),x=x++r)/\∀(x_3:b3),letI u2:=List.length x_3;x_3=x++rowT T.pad b1 g1 w->s2/\Nat.le (u2+1) 70368744177664/\t1/\gd (Nat.beq u2 u2) (f1/\c1/\(∃(r:b3),x_3=x_3++r)/\∀(x:b3),x=x_3++w2->s2/\UwOk T x b1 z1 a2/\e3=a2/\a1/\t2=z1/\SubF d1 (fun(i:Nat)=>AVal.lit (Value.int .i64 (Int.ofNat ((b1,t2,e3).fst i)))) t2 []/\gd (Nat.beq (List.length x) (List.length x)) (f1/\c1/\(∃(r:b3),x=x++r)/\∀(x_4:b3),letI v2:=List.length x_4;x_4=x++undT T.pad b1 z1->s2/\Nat.le (v2+1) 70368744177664/\t1/\gd (Nat.beq v2 v2) (f1/\c1/\(∃(r:b3),x_4=x_4++r)/\∀(x:b3),x=x_4++w2->gd (decide (Int.ofNat 1<=g2)&&decide (g2<=Int.ofNat x_2.snd.snd.2.fst)) (Nat.le 0 h2/\(s2/\t2=e1/\SubF d1 (fun(i:Nat)=>AVal.lit (Value.int .i64 (Int.ofNat (wd m1 i)))) t2 []/\gd (Nat.beq r2 h2) (x_2.snd.snd.2.fst-1=q2-1/\Value.int .i64 (Int.ofNat r2)=Value.int .i64 (Int.ofNat h2)/\f1/\gd (Nat.beq (List.length x) (List.length f)) (f1/\c1/\(∃(r:b3),x=f++r)/\e3=e3/\a1/\gd (Nat.beq x_2.snd.2.fst p2) (x_2.snd.snd.2.fst=q2/\p2<=x_2.snd.2.fst/\SubF (fun(i:Nat)=>AVal.fam (fun(c:Nat)=>AVal.by_ (fc x_2.1 x_2.snd.1 i c)) x_2.snd.snd.2.snd) (fun(i:Nat)=>AVal.fam (fun(c:Nat)=>AVal.by_ (fc c3 y2 i c)) e1) p2 []/\gd (Nat.ble q2 x_2.snd.snd.2.fst) True))))/\∀(x:Unit),True->s2/\Nat.le (a+1+1) 70368744177664/\p1/\gd (Nat.beq (List.length d) a) (f1/\c1/\(∃(r:b3),d=b++r)/\∀(x:b3),x=b++n2->∃(x_5:By),x_5=tabF T/\s2/\True/\(k2/\(((((k2/\z2)/\z2)/\z2)/\z2)/\True)/\True)/\d2=d2/\gd (Nat.beq (List.length x) (List.length x_5)) (f1/\c1/\(∃(r:b3),x=x_5++r)/\True)))))))))))))
theorem taOk_fin {T:TD} (hT:T.Ok) (he:allE (rn T) (rc T) (nR T)=false):TaOk T (finR T).1 (finR T).2.1 (finR T).2.2.1 (finR T).2.2.2 (T.C 0) (taL T (finR T).1 (finR T).2.1 (finR T).2.2.1):=by
 have hr:=finR_ok hT
 refine⟨hr,finR_pos he,by have:=hT.c2 0;omega,?_,hT.pd⟩
 have hW:∀k,wd (cnt (finR T).1 (finR T).2.1 (finR T).2.2.1) k<=maxC:=cnt_ok (fun q k=>(hr.1 q k).2) (by simp[maxC])
 have hw:=cnt_len (rc:=(finR T).2.1) (m:=(finR T).2.2.1) hr.2.1
 have h1:=rowT_len (p:=T.pad) hW (g:=fc (finR T).1 (finR T).2.1 0) (fun k=>fc_len (hr.1 0 k).2) (cnt (finR T).1 (finR T).2.1 (finR T).2.2.1).length
 have h2:=undT_len (p:=T.pad) hW (cnt (finR T).1 (finR T).2.1 (finR T).2.2.1).length
 have h3:(cnt (finR T).1 (finR T).2.1 (finR T).2.2.1).length*4294967300<=12*4294967300:=Nat.mul_le_mul_right _ hw
 simp only[taL,List.length_append,List.length_cons,List.length_nil]
 omega
theorem tAU_ok (T:TD):TabOk Tryz.prog (tAU T):=by
 refine⟨fun f s h=>?_,fun f s h=>?_⟩
 ·unfold tAU at h
  simp only at h
  split at h
  ·cases h;exact genS_ok kz_fok (kt_ok T).1
  ·cases h;exact genS_ok mw_fok (mw_ok T).1
  ·cases h;exact genS_ok fu_fok (fu_ok T).1
  ·cases h;exact genS_ok ow_fok (ow_ok T).1
  ·cases h;exact genS_ok uw_fok (uw_ok T).1
  ·cases h;exact orS_ok (genS_ok wn_fok (wn_ok T).1) (genS_ok wn_fok (ws_ok T))
  ·cases h
 ·cases h
theorem tAD_r (T:TD) (rn:Nat->Nat) (rc:Nat->Nat->By) (m c nA:Nat) (l0:By) (k:Nat) (hd:TaOk T rn rc m c nA l0) (h:k<=m-1):tADR T rn rc m c nA l0 k:=by
 unfold tADR
 obtain⟨hr,h1,hA,hl0,hp⟩:=hd
 have hW:∀k,wd (cnt rn rc m) k<=maxC:=cnt_ok (fun q k=>(hr.1 q k).2) (by simp[maxC])
 have hw:(cnt rn rc m).length<=12:=cnt_len hr.2.1
 have hg:∀q c,WT (fc rn rc q c)/\(fc rn rc q c).length<=maxC:=fun q c=>⟨fc_wt (hr.1 q c).1,fc_len (hr.1 q c).2⟩
 have hB:=fun k=>bdyT_len (p:=T.pad) (f:=fc rn rc) hW (fun q c=>(hg q c).2) hw k
 have hR:=fun q=>rowT_len (p:=T.pad) (g:=fc rn rc q) hW (fun c=>(hg q c).2) (cnt rn rc m).length
 have hU:=undT_len (p:=T.pad) hW (cnt rn rc m).length
 have hw2:(cnt rn rc m).length*4294967300<=12*4294967300:=Nat.mul_le_mul_right _ hw
 have hm:m<=14:=hr.2.2.1
 have hc:c<=14:=hr.2.2.2.2
 have hmc:m<=c:=hr.2.2.2.1
 have eR:∀q,(rowT T.pad (fun i=>wd (cnt rn rc m) i) (fun c=>fc rn rc q c) (cnt rn rc m).length).length=(rowT T.pad (wd (cnt rn rc m)) (fc rn rc q) (cnt rn rc m).length).length:=fun _=>rfl
 have eU:(undT T.pad (fun i=>wd (cnt rn rc m) i) (cnt rn rc m).length).length=(undT T.pad (wd (cnt rn rc m)) (cnt rn rc m).length).length:=rfl
 have sr:SubF (fun q=>AVal.famx (fun k=>AVal.by_ (rc q k)) (rn q)) (fun q=>AVal.famx (fun k=>AVal.by_ (rc q k)) (rn q)) m []:=fun _ _ _=>SubA.famx fun _ _=>byA
 have sf:SubF (fun i=>AVal.fam (fun c=>AVal.by_ (fc rn rc i c)) (cnt rn rc m).length) (fun i=>AVal.fam (fun c=>AVal.by_ (fc rn rc i c)) (cnt rn rc m).length) m []:=fun _ _ _=>SubA.fam fcSub
 have hBk:=hB k
 have hRk:=hR (k+1)
 have hk:k*51539607601<=13*51539607601:=Nat.mul_le_mul_right _ (by omega)
 have e1:IntKind.wrap IntKind.i64 ((k+1:Nat):Int)=((k+1:Nat):Int):=wrapI (by omega) (by omega)
 have bE:bdyT T.pad (wd (cnt rn rc m)) (cnt rn rc m).length (fc rn rc) (k+1)=bdyT T.pad (wd (cnt rn rc m)) (cnt rn rc m).length (fc rn rc) k++(rowT T.pad (wd (cnt rn rc m)) (fc rn rc (k+1)) (cnt rn rc m).length++[10]):=rfl
 have ok:OwOk T (l0++bdyT T.pad (wd (cnt rn rc m)) (cnt rn rc m).length (fc rn rc) k) (wd (cnt rn rc m)) (cnt rn rc m).length (fc rn rc (k+1)) (cnt rn rc m).length:=⟨by simp only[bufMax,List.length_append];omega,hW,Nat.le_refl _,hw,hg _,hp⟩
 simp only[sj2,eq_self,implies_true,forall_eq,intE,intF,Nat.le_eq,litN_cast,byOf_by,Nat.add_comm 1 k,e1,eR,sj1,leB_iff',sj0]
 repeat' (first|done|omega|exact trivial|exact rfl|assumption|exact fun _ _ _=>nlS_sub rfl|exact fun _ _ _=>byA|exact⟨[],(List.append_nil _).symm⟩|(refine⟨(k+1:Nat),?_⟩)|(rw[bE];simp only[List.length_append,List.length_cons,List.length_nil];omega)|(refine⟨[],?_⟩;rw[bE];simp;done)|(have hkn:k=m-1:=(by omega);subst hkn;(first|exact rfl|exact⟨[],by simp⟩))|intro _|refine And.intro ?_ ?_)
theorem tAD_b (T:TD) (rn:Nat->Nat) (rc:Nat->Nat->By) (m c nA:Nat) (l0:By) (hd:TaOk T rn rc m c nA l0):(tAD T rn rc m c nA l0).Body Tryz.prog (sub (bodyOf Tryz.f404) [0,0,1,0,1,1,1,1,1,1,1,1,1,1]):=by
 refine LoopD.bodyH (root:=(bodyOf Tryz.f404)) [0,0,1,0,1,1,1,1,1,1,1,1,1,1] ftOk (tAU_ok T) (LTok.nil) 1000 ?_
 exact fun k hk=>Ho.of (tADR T rn rc m c nA l0 k) (by kernel_rfl) (tAD_r T rn rc m c nA l0 k hd hk)
theorem tA_r (T:TD) (hT:T.Ok/\allE (rn T) (rc T) (nR T)=false):tAR T:=by
 unfold tAR
 obtain⟨h1,h2⟩:=hT
 have h3:allE (rn T) (rc T) (T.R-hN T+1)=false:=h2
 have hpos:=finR_pos h2
 have hr:=finR_ok h1
 have hW:∀k,wd (cnt (finR T).1 (finR T).2.1 (finR T).2.2.1) k<=maxC:=cnt_ok (fun q k=>(hr.1 q k).2) (by simp[maxC])
 have hw:(cnt (finR T).1 (finR T).2.1 (finR T).2.2.1).length<=12:=cnt_len hr.2.1
 have hg:∀q c,WT (fc (finR T).1 (finR T).2.1 q c)/\(fc (finR T).1 (finR T).2.1 q c).length<=maxC:=fun q c=>⟨fc_wt (hr.1 q c).1,fc_len (hr.1 q c).2⟩
 have hB:=fun k=>bdyT_len (p:=T.pad) (f:=fc (finR T).1 (finR T).2.1) hW (fun q c=>(hg q c).2) hw k
 have hR:=fun q=>rowT_len (p:=T.pad) (g:=fc (finR T).1 (finR T).2.1 q) hW (fun c=>(hg q c).2) (cnt (finR T).1 (finR T).2.1 (finR T).2.2.1).length
 have hU:=undT_len (p:=T.pad) hW (cnt (finR T).1 (finR T).2.1 (finR T).2.2.1).length
 have hw2:(cnt (finR T).1 (finR T).2.1 (finR T).2.2.1).length*4294967300<=12*4294967300:=Nat.mul_le_mul_right _ hw
 have hm:(finR T).2.2.1<=14:=hr.2.2.1
 have hc:(finR T).2.2.2<=14:=hr.2.2.2.2
 have hmc:(finR T).2.2.1<=(finR T).2.2.2:=hr.2.2.2.1
 have eR:∀q,(rowT T.pad (fun i=>wd (cnt (finR T).1 (finR T).2.1 (finR T).2.2.1) i) (fun c=>fc (finR T).1 (finR T).2.1 q c) (cnt (finR T).1 (finR T).2.1 (finR T).2.2.1).length).length=(rowT T.pad (wd (cnt (finR T).1 (finR T).2.1 (finR T).2.2.1)) (fc (finR T).1 (finR T).2.1 q) (cnt (finR T).1 (finR T).2.1 (finR T).2.2.1).length).length:=fun _=>rfl
 have eU:(undT T.pad (fun i=>wd (cnt (finR T).1 (finR T).2.1 (finR T).2.2.1) i) (cnt (finR T).1 (finR T).2.1 (finR T).2.2.1).length).length=(undT T.pad (wd (cnt (finR T).1 (finR T).2.1 (finR T).2.2.1)) (cnt (finR T).1 (finR T).2.1 (finR T).2.2.1).length).length:=rfl
 have sr:SubF (fun q=>AVal.famx (fun k=>AVal.by_ ((finR T).2.1 q k)) ((finR T).1 q)) (fun q=>AVal.famx (fun k=>AVal.by_ ((finR T).2.1 q k)) ((finR T).1 q)) (finR T).2.2.1 []:=fun _ _ _=>SubA.famx fun _ _=>byA
 have sf:SubF (fun i=>AVal.fam (fun c=>AVal.by_ (fc (finR T).1 (finR T).2.1 i c)) (cnt (finR T).1 (finR T).2.1 (finR T).2.2.1).length) (fun i=>AVal.fam (fun c=>AVal.by_ (fc (finR T).1 (finR T).2.1 i c)) (cnt (finR T).1 (finR T).2.1 (finR T).2.2.1).length) (finR T).2.2.1 []:=fun _ _ _=>SubA.fam fcSub
 have ok:OwOk T [10,10] (wd (cnt (finR T).1 (finR T).2.1 (finR T).2.2.1)) (cnt (finR T).1 (finR T).2.1 (finR T).2.2.1).length (fc (finR T).1 (finR T).2.1 0) (cnt (finR T).1 (finR T).2.1 (finR T).2.2.1).length:=⟨by simp[bufMax],hW,Nat.le_refl _,hw,hg _,h1.pd⟩
 have hR0:=hR 0
 have ok2:UwOk T ([10,10]++rowT T.pad (wd (cnt (finR T).1 (finR T).2.1 (finR T).2.2.1)) (fc (finR T).1 (finR T).2.1 0) (cnt (finR T).1 (finR T).2.1 (finR T).2.2.1).length++[10]) (wd (cnt (finR T).1 (finR T).2.1 (finR T).2.2.1)) (cnt (finR T).1 (finR T).2.1 (finR T).2.2.1).length (T.C 0):=⟨by simp only[bufMax,List.length_append,List.length_cons,List.length_nil];omega,hW,hw,by have:=h1.c2 0;omega,trivial,h1.pd⟩
 have hge:∀q,q<(finR T).2.2.1->(finR T).1 q<=(cnt (finR T).1 (finR T).2.1 (finR T).2.2.1).length:=fun q h=>cnt_ge h
 have hBm:=hB ((finR T).2.2.1-1)
 have hBk:((finR T).2.2.1-1)*51539607601<=13*51539607601:=Nat.mul_le_mul_right _ (by omega)
 have w1:IntKind.wrap IntKind.i64 (((finR T).2.2.1:Nat):Int)=(((finR T).2.2.1:Nat):Int):=wrapI (by omega) (by omega)
 simp only[rowsN_famx,rowsC_famx,litN_cast,byOf_by]
 simp only[sj2,rowsN_famx,rowsC_famx,eq_self,implies_true,forall_eq,intE,intF,Nat.le_eq,litN_cast,byOf_by,eR,eU,sj1,leB_iff',sj0]
 repeat' (first|done|omega|exact trivial|exact rfl|assumption|exact hr|exact fun _ _ _=>nlS_sub rfl|exact fun _ _=>nlS_sub rfl|exact fun _ _ _=>byA|exact fun _ _=>byA|exact fun _ _=>SubA.fam fcSub|exact⟨[],(List.append_nil _).symm⟩|exact⟨[],rfl⟩|(refine⟨[],?_⟩;simp[taL,tabF,tabT,bdyT];done)|(simp[taL,tabF,tabT,bdyT];done)|(simp only[taL,tabF,tabT,bdyT,List.length_append,List.length_cons,List.length_nil];done)|(simp only[taL,tabF,tabT,bdyT,List.length_append,List.length_cons,List.length_nil];omega)|intro _|refine And.intro ?_ ?_)
theorem tA_ok (T:TD):(tAS T).Body Tryz.prog 404/\(tAS T).BodyD Tryz.prog 404:=by
 refine genS_body (fn:=Tryz.f404) (b:=(bodyOf Tryz.f404)) (LT:=fun _=>[([0,1,0,1,1,1,1,1,1,1,1,1,1],(tAD T (finR T).1 (finR T).2.1 (finR T).2.2.1 (finR T).2.2.2 (T.C 0) (taL T (finR T).1 (finR T).2.1 (finR T).2.2.1)).at (0:Nat))]) ftOk (tAU_ok T) 1000 (fun a ha=>LTok.cons (fun fr H K hk=>LoopD.ok (tAD_b T (finR T).1 (finR T).2.1 (finR T).2.2.1 (finR T).2.2.2 (T.C 0) (taL T (finR T).1 (finR T).2.1 (finR T).2.2.1) (taOk_fin ha.1 ha.2)) hk) (LTok.nil)) (by kernel_rfl) (by kernel_rfl) ?_
 exact fun a ha=>Ho.of (tAR T) (by kernel_rfl) (tA_r T ha)
def zTR (T:TD):Prop:=
 letI k:=Int.ofNat 0;letI h:=True/\True;letI g:=domB T=domB T;letI f:=True/\h;letI d:=Value.int .i64 k;letI e:=Value.int .i64 (Int.ofNat 1);letI c:=Value.int IntKind.i8 k;letI b:=d=d;letI a:=c=c;g/\True/\∀(x:Unit),True->g/\(TD.Ok T/\allE (rn T) (rc T) (T.R-hN T+1)=false)/\b/\a/\∀(x:List UInt8),x=tabF T->∃(x_1:By),x_1=tabF T/\g/\True/\(f/\(((((f/\h)/\h)/\h)/\h)/\True)/\True)/\e=e/\gd (Nat.beq (List.length x) (List.length x_1)) (b/\a/\(∃(r:List UInt8),x=x_1++r)/\True)
theorem zTU_ok (T:TD):TabOk Tryz.prog (zTU T):=by
 refine⟨fun f s h=>?_,fun f s h=>?_⟩
 ·unfold zTU at h
  simp only at h
  split at h
  ·cases h;exact genS_ok gh_fok (gh_ok T).1
  ·cases h;exact genS_ok tN_fok (tA_ok T).1
  ·cases h
 ·cases h
theorem zT_r (T:TD) (hT:T.Ok/\allE (rn T) (rc T) (nR T)=false):zTR T:=by
 unfold zTR
 simp only[sj2,eq_self,implies_true,forall_eq,intE,intF,Nat.le_eq,sj1,leB_iff',sj0]
 exact fun _ _=>⟨hT,[],by simp⟩
theorem zT_ok (T:TD):(zTS T).Body Tryz.prog 51/\(zTS T).BodyD Tryz.prog 51:=by
 refine genS_body (fn:=Tryz.f51) (b:=(bodyOf Tryz.f51)) (LT:=fun _=>[]) ftOk (zTU_ok T) 1000 (fun a ha=>LTok.nil) (by kernel_rfl) (by kernel_rfl) ?_
 exact fun a ha=>Ho.of (zTR T) (by kernel_rfl) (zT_r T ha)
def yDR (T:TD):Prop:=
 letI q:=List UInt8;letI p:=Int.ofNat 0;letI n:=True/\True;letI m:=domB T=domB T;letI k:=True/\n;letI g:=Value.int .i64 p;letI h:=Value.int .i64 (Int.ofNat 1);letI f:=Value.int IntKind.i8 p;letI e:=allE (rn T) (rc T) (T.R-hN T+1);letI c:=g=g;letI d:=h=h;letI b:=f=f;letI a:=k/\(((((k/\n)/\n)/\n)/\n)/\True)/\True;m/\True/\∀(x:Unit),True->br e (m/\(TD.Ok T/\e=true)/\c/\b/\∀(x:q),x=fbF T->∃(x_1:By),x_1=docF T/\m/\True/\a/\d/\gd (Nat.beq (List.length x) (List.length x_1)) (c/\b/\(∃(r:q),x=x_1++r)/\True)) (m/\(TD.Ok T/\e=false)/\c/\b/\∀(x:q),x=tabF T->∃(x_1:By),x_1=docF T/\m/\True/\a/\d/\gd (Nat.beq (List.length x) (List.length x_1)) (c/\b/\(∃(r:q),x=x_1++r)/\True))
theorem yDU_ok (T:TD):TabOk Tryz.prog (yDU T):=by
 refine⟨fun f s h=>?_,fun f s h=>?_⟩
 ·unfold yDU at h
  simp only at h
  split at h
  ·cases h;exact genS_ok gh_fok (gh_ok T).1
  ·cases h;exact iteS_ok (genS_ok xd_fok (yT_ok T).1) (genS_ok xd_fok (zT_ok T).1)
  ·cases h
 ·cases h
theorem yD_r (T:TD) (hT:T.Ok):yDR T:=by
 unfold yDR
 have ea:allE (rn T) (rc T) (T.R-hN T+1)=true->docF T=fbF T:=fun h=>by
  have h:allE (rn T) (rc T) (nR T)=true:=h
  unfold docF;rw[h];rfl
 have eb:allE (rn T) (rc T) (T.R-hN T+1)=false->docF T=tabF T:=fun h=>by
  have h:allE (rn T) (rc T) (nR T)=false:=h
  unfold docF;rw[h];rfl
 simp only[sj2,eq_self,implies_true,forall_eq,intE,intF,Nat.le_eq,sj1,leB_iff',sj0]
 exact fun _ _=>⟨fun h=>⟨⟨hT,h⟩,by rw[ea h],[],by rw[ea h];simp⟩,fun h=>⟨⟨hT,h⟩,by rw[eb h],[],by rw[eb h];simp⟩⟩
theorem yD_ok (T:TD):(yDS T).Body Tryz.prog 51/\(yDS T).BodyD Tryz.prog 51:=by
 refine genS_body (fn:=Tryz.f51) (b:=(bodyOf Tryz.f51)) (LT:=fun _=>[]) ftOk (yDU_ok T) 1000 (fun a ha=>LTok.nil) (by kernel_rfl) (by kernel_rfl) ?_
 exact fun a ha=>Ho.of (yDR T) (by kernel_rfl) (yD_r T ha)
end Tk
