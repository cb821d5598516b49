/- Lemmas of this claim; the last text says what is proved. -/
import Derived.Test.YtjkgmpkgfhhaiaaGreatK23
import Derived.Test.YtjkgmpkgfhhaiaaGreatK38
import Derived.Test.YtjkgmpkgfhhaiaaGreatK36
set_option linter.all false
set_option maxRecDepth 1000000
namespace Tk
open Go Go.Sx Go.Proofs
open Q
variable [Syms]
def mwIR (T:TD) (rn:Nat->Nat) (rc:Nat->Nat->By) (m:Nat) (c:Nat) (q:Nat) (V:List Nat) (k:Nat) (W:List Nat):Prop:=
 letI h2:=m<=m;letI g2:=rn q-k;letI b2:=Int.ofNat k;letI d2:=Nat.beq m m;letI e2:=rn q=rn q;letI f2:=Nat.ble c c;letI z1:=List.length W;letI a2:=List.length V;letI w1:=domB T=domB T;letI y1:=Nat×List Nat;letI q1:=Int.ofNat (rn q);letI n1:=z1+0;letI p1:=z1+1;letI m1:=List.length (rc q k);letI g1:=Int.ofNat z1;letI h1:=Nat.blt k z1;letI k1:=Nat.beq k z1;letI c1:=Value.int .i64 (Int.ofNat m);letI d1:=Value.int .i64 (Int.ofNat q);letI f1:=Value.int .i64 (Int.ofNat 1);letI a1:=Value.int .i64 q1;letI b1:=h1&&true;letI z:=fun(k:Nat)=>AVal.by_ (rc q k);letI y:=decide (b2<q1);letI u:=decide (b2<g1);letI t:=decide (b2<Int.ofNat p1);letI s:=Value.int .i64 (IntKind.wrap .i64 (Int.ofNat (k+1)));letI p:=c1=c1;letI r:=d1=d1;letI n:=fun(i:Nat)=>AVal.lit (Value.int .i64 (Int.ofNat (wd W i)));letI h:=a1=a1;letI g:=fun(q:Nat)=>AVal.famx (fun(k:Nat)=>AVal.by_ (rc q k)) (rn q);letI f:=SubF z z (rn q) [];letI e:=SubF g g m [];letI d:=∃(j':y1),letI t1:=List.length j'.2;mcI (rc q) (rn q) V j'.fst j'.2/\rn q-j'.fst<g2/\w1/\gd d2 (c=c/\p/\r/\gd (Nat.beq p1 t1) (e2/\f/\h/\s=Value.int .i64 (Int.ofNat j'.fst)/\h2/\e/\gd f2 (t1=p1/\SubF n (fun(i:Nat)=>AVal.lit (Value.int .i64 (Int.ofNat (wd j'.2 i)))) z1 []/\f1=Value.int .i64 (Int.ofNat (wd j'.2 z1))/\True)));br y (gd y (gd (Nat.blt k (rn q)) (w1/\((∀(b:UInt8),b∈rc q k->UInt8.toNat b<128)/\m1<=70368744177664)/\rc q k=rc q k/\∀(x:Nat),letI c2:=Int.ofNat x;letI e1:=Value.int .i64 c2;letI w:=decide (c2>Int.ofNat (wd W k));letI v:=[(k,AVal.lit e1)];letI a:=gd t (br h1 (∃(j':y1),letI r1:=List.length j'.2;mcI (rc q) (rn q) V j'.fst j'.2/\rn q-j'.fst<g2/\w1/\gd d2 (c=c/\p/\r/\gd (Nat.beq p1 r1) (e2/\f/\h/\s=Value.int .i64 (Int.ofNat j'.fst)/\h2/\e/\gd f2 (r1=p1/\SubF n (fun(i:Nat)=>AVal.lit (Value.int .i64 (Int.ofNat (wd j'.2 i)))) z1 v/\gd b1 (e1=Value.int .i64 (Int.ofNat (wd j'.2 k))/\f1=Value.int .i64 (Int.ofNat (wd j'.2 z1))/\True))))) (gd k1 (∃(j':y1),letI s1:=List.length j'.2;mcI (rc q) (rn q) V j'.fst j'.2/\rn q-j'.fst<g2/\w1/\gd d2 (c=c/\p/\r/\gd (Nat.beq p1 s1) (e2/\f/\h/\s=Value.int .i64 (Int.ofNat j'.fst)/\h2/\e/\gd f2 (s1=p1/\SubF n (fun(i:Nat)=>AVal.lit (Value.int .i64 (Int.ofNat (wd j'.2 i)))) z1 []/\e1=Value.int .i64 (Int.ofNat (wd j'.2 z1))/\True))))));x=m1->br (decide (b2≥g1)) (gd (Nat.beq z1 n1&&(Nat.ble (0+z1+1+z1+1+z1+1+z1+1+z1+1+z1+1+z1+1+z1+1) 140737488355328&&(Nat.ble p1 140737488355328&&true))) (gd t (br h1 (br w a d) (gd k1 (br (decide (c2>Int.ofNat 1)) a d))))) (gd u (gd h1 (br w (gd u (gd b1 (∃(j':y1),letI u1:=List.length j'.2;mcI (rc q) (rn q) V j'.fst j'.2/\rn q-j'.fst<g2/\w1/\gd d2 (c=c/\p/\r/\gd (Nat.beq z1 u1) (e2/\f/\h/\s=Value.int .i64 (Int.ofNat j'.fst)/\h2/\e/\gd f2 (u1=n1/\SubF n (fun(i:Nat)=>AVal.lit (Value.int .i64 (Int.ofNat (wd j'.2 i)))) z1 v/\gd b1 (e1=Value.int .i64 (Int.ofNat (wd j'.2 k))/\True))))))) (∃(j':y1),letI v1:=List.length j'.2;mcI (rc q) (rn q) V j'.fst j'.2/\rn q-j'.fst<g2/\w1/\gd d2 (c=c/\p/\r/\gd (Nat.beq z1 v1) (e2/\f/\h/\s=Value.int .i64 (Int.ofNat j'.fst)/\h2/\e/\gd f2 (v1<=z1/\SubF n (fun(i:Nat)=>AVal.lit (Value.int .i64 (Int.ofNat (wd j'.2 i)))) v1 []/\True)))))))))) (∃(x:Unit),True/\w1/\gd d2 (c=c/\p/\r/\gd (Nat.beq z1 a2) (h2/\e/\gd f2 (a2<=z1/\SubF n (fun(i:Nat)=>AVal.lit (Value.int .i64 (Int.ofNat (wd V i)))) a2 []/\True))))
def mwDR (T:TD) (rn:Nat->Nat) (rc:Nat->Nat->By) (m:Nat) (c:Nat) (q:Nat) (W:List Nat):Prop:=
 letI y:=Nat.beq m m;letI z:=Nat.ble c c;letI w:=List.length W;letI v:=domB T=domB T;letI t:=cntC (rc q) (rn q) 0 W;letI p:=Value.int .i64 (Int.ofNat m);letI r:=Value.int .i64 (Int.ofNat q);letI s:=Value.int .i64 (Int.ofNat 0);letI n:=Value.int .i64 (Int.ofNat (rn q));letI g:=decide (Int.ofNat q<Int.ofNat m);letI h:=fun(k:Nat)=>AVal.by_ (rc q k);letI f:=List.length t;letI e:=p=p;letI d:=fun(i:Nat)=>AVal.lit (Value.int .i64 (Int.ofNat (wd W i)));letI b:=fun(q:Nat)=>AVal.famx (fun(k:Nat)=>AVal.by_ (rc q k)) (rn q);letI a:=SubF b b m [];br g (gd g (gd (Nat.blt q m) (mcI (rc q) (rn q) t 0 W/\(v/\gd y (c=c/\e/\r=r/\gd (Nat.beq w w) (rn q=rn q/\SubF h h (rn q) []/\n=n/\s=s/\m<=m/\a/\gd z (w<=w/\SubF d d w []/\True))))/\∀(x:Unit),True->∃(j':Nat×List Nat),letI u:=List.length j'.2;moI rn rc m j'.fst j'.2/\m-j'.fst<m-q/\v/\gd y (c=c/\e/\Value.int .i64 (IntKind.wrap .i64 (Int.ofNat (q+1)))=Value.int .i64 (Int.ofNat j'.fst)/\gd (Nat.beq f u) (m<=m/\a/\gd z (u<=f/\SubF (fun(i:Nat)=>AVal.lit (Value.int .i64 (Int.ofNat (wd t i)))) (fun(i:Nat)=>AVal.lit (Value.int .i64 (Int.ofNat (wd j'.2 i)))) u []/\True)))))) (∃(x:Unit),True/\v/\w=List.length (cnt rn rc m)/\w=w+0/\SubF d (fun(i:Nat)=>AVal.lit (Value.int .i64 (Int.ofNat (wd (cnt rn rc m) i)))) w []/\m<=m/\a/\gd z True)
def mwR (T:TD) (rn:Nat->Nat) (rc:Nat->Nat->By) (m:Nat) (c:Nat):Prop:=
 letI g:=cnt rn rc m;letI f:=domB T=domB T;letI e:=List.length g;letI b:=Value.int .i64 (Int.ofNat m);letI d:=Value.int .i64 (Int.ofNat 0);moI rn rc m 0 []/\(f/\gd (Nat.beq m m) (c=c/\b=b/\d=d/\m<=m/\SubF (fun(q:Nat)=>AVal.famx (fun(k:Nat)=>AVal.by_ ((rc,m,c).fst q k)) ((rn,rc,m,c).fst q)) (fun(q:Nat)=>AVal.famx (fun(k:Nat)=>AVal.by_ (rc q k)) (rn q)) m []/\gd (Nat.ble c c) (0=0/\0<=0/\True)))/\∀(x:Unit),True->∃(x:List Nat),x=g/\f/\(∀(i:Nat),letI a:=AVal.lit (Value.int .i64 (Int.ofNat (wd x i)));i<List.length x->SubA 0 a a)/\True/\e=List.length x/\SubF (fun(i:Nat)=>AVal.lit (Value.int .i64 (Int.ofNat (wd g i)))) (fun(i:Nat)=>AVal.lit (Value.int .i64 (Int.ofNat (wd x i)))) e []/\True
theorem mwU_ok (T:TD):TabOk Tryz.prog (mwU T):=by
 refine⟨fun f s h=>?_,fun f s h=>?_⟩
 ·unfold mwU at h
  simp only at h
  split at h
  ·cases h;exact genS_ok rc_fok (rc_ok T).1
  ·cases h
 ·cases h
theorem mwI_r (T:TD) (rn:Nat->Nat) (rc:Nat->Nat->By) (m c:Nat) (q:Nat) (V:List Nat) (k:Nat) (W:List Nat) (hd:RowsOk rn rc m c) (h:mcI (rc q) (rn q) V k W):mwIR T rn rc m c q V k W:=by
 unfold mwIR
 obtain⟨hw,hn,hm,hmc,hc⟩:=hd
 have e1:∀m:Nat,m<=1000->IntKind.wrap IntKind.i64 (Int.ofNat m)=Int.ofNat m:=fun m h=>wrapI (by simp only[Int.ofNat_eq_natCast];omega) (by simp only[Int.ofNat_eq_natCast];omega)
 have sr:SubF (fun q=>AVal.famx (fun k=>AVal.by_ (rc q k)) (rn q)) (fun q=>AVal.famx (fun k=>AVal.by_ (rc q k)) (rn q)) m []:=fun _ _ _=>SubA.famx fun _ _=>byA
 obtain⟨g1,g2,g3,g4⟩:=id h
 have hq:=hn q
 simp only[e1 (k+1) (by omega)]
 simp only[sj2,eq_self,implies_true,forall_eq,intE,intF,Nat.le_eq,sj1,leB_iff',sj0]
 have h128:∀b∈rc q k,b.toNat<128:=fun b hb=>by have:=(hw q k).1 b hb;unfold wc at this;omega
 have hl:=(hw q k).2
 have se:SubF (fun k=>AVal.by_ (rc q k)) (fun k=>AVal.by_ (rc q k)) (rn q) []:=fun _ _ _=>byA
 have nx:=fun hk:k<rn q=>mcI_s h hk hq
 refine⟨fun hk=>⟨hk,hk,⟨h128,by omega⟩,fun hW=>⟨⟨by omega,by omega⟩,by omega,fun c1=>absurd c1 (by omega),fun _=>⟨by omega,fun n1=>⟨by omega,fun c1=>absurd c1 (by omega),fun _=>⟨by omega,(k+1,mcS W k (rc q k).length),nx hk,?_⟩⟩,fun n1=>⟨(k+1,mcS W k (rc q k).length),nx hk,?_⟩⟩⟩,fun hW=>⟨by omega,by omega,fun n1=>⟨by omega,by omega,(k+1,mcS W k (rc q k).length),nx hk,?_⟩,fun n1=>⟨(k+1,mcS W k (rc q k).length),nx hk,?_⟩⟩⟩,fun hk=>?_⟩
 ·rw[mcS_a (by omega) n1]
  have hkW:k=W.length:=by omega
  exact⟨by simp only[];omega,by simp,se,rfl,Nat.le_refl _,sr,Nat.le_refl _,by simp,litA fun i hi _=>by rw[wdN (by omega),wdA hi],by rw[←hkW,wdS (by simp;omega)]⟩
 ·rw[mcS_b (by omega) n1]
  exact⟨by simp only[];omega,by simp,se,rfl,Nat.le_refl _,sr,Nat.le_refl _,by simp,litA fun i hi _=>by rw[wdA hi],by rw[wdL]⟩
 ·rw[mcS_c (by omega) n1]
  exact⟨by simp only[];omega,by simp,se,rfl,Nat.le_refl _,sr,Nat.le_refl _,by simp,litA fun i hi hu=>by rw[wdN (fun e=>by subst e;simp[notIn] at hu)],by omega,by rw[wdS (by omega)]⟩
 ·rw[mcS_d (by omega) n1]
  exact⟨by simp only[];omega,rfl,se,rfl,Nat.le_refl _,sr,Nat.le_refl _,Nat.le_refl _,litA fun _ _ _=>rfl⟩
 ·have e:=mcI_end h (by omega)
  subst e
  exact⟨rfl,Nat.le_refl _,sr,Nat.le_refl _,Nat.le_refl _,litA fun _ _ _=>rfl⟩
theorem mwI_b (T:TD) (rn:Nat->Nat) (rc:Nat->Nat->By) (m c:Nat) (q:Nat) (V:List Nat) (hd:RowsOk rn rc m c):(mwI T rn rc m c q V).Body Tryz.prog (sub (bodyOf Tryz.f407) [0,0,1,1,0,0,1,1,0,0,1,0,1,1]):=by
 refine LoopD.bodyH (root:=(bodyOf Tryz.f407)) [0,0,1,1,0,0,1,1,0,0,1,0,1,1] ftOk (mwU_ok T) (LTok.nil) 1000 ?_
 exact fun j hj=>Ho.of (mwIR T rn rc m c q V j.1 j.2) (by kernel_rfl) (mwI_r T rn rc m c q V j.1 j.2 hd hj)
theorem mwD_r (T:TD) (rn:Nat->Nat) (rc:Nat->Nat->By) (m c:Nat) (q:Nat) (W:List Nat) (hd:RowsOk rn rc m c) (h:moI rn rc m q W):mwDR T rn rc m c q W:=by
 unfold mwDR
 obtain⟨hw,hn,hm,hmc,hc⟩:=hd
 have e1:∀m:Nat,m<=1000->IntKind.wrap IntKind.i64 (Int.ofNat m)=Int.ofNat m:=fun m h=>wrapI (by simp only[Int.ofNat_eq_natCast];omega) (by simp only[Int.ofNat_eq_natCast];omega)
 have sr:SubF (fun q=>AVal.famx (fun k=>AVal.by_ (rc q k)) (rn q)) (fun q=>AVal.famx (fun k=>AVal.by_ (rc q k)) (rn q)) m []:=fun _ _ _=>SubA.famx fun _ _=>byA
 have h2:=h.2.1
 have hq1:=h.1
 by_cases hqm:q<m
 ·simp only[e1 (q+1) (by omega)]
  simp only[sj2,eq_self,implies_true,forall_eq,intE,intF,Nat.le_eq,sj1,leB_iff',sj0]
  exact⟨fun g=>⟨g,g,mcI_0 h2,⟨fun _ _ _=>byA,Nat.le_refl _,sr,Nat.le_refl _,Nat.le_refl _,litA fun _ _ _=>rfl⟩,fun _ _=>⟨(q+1,cntC (rc q) (rn q) 0 W),moI_s h g (hn q),by simp only[];omega,rfl,rfl,Nat.le_refl _,sr,Nat.le_refl _,Nat.le_refl _,litA fun _ _ _=>rfl⟩⟩,fun g=>absurd hqm g⟩
 ·simp only[e1 (q+1) (by omega)]
  simp only[sj2,eq_self,implies_true,forall_eq,intE,intF,Nat.le_eq,sj1,leB_iff',sj0]
  have e:=moI_end h (by omega)
  subst e
  exact⟨fun g=>absurd g hqm,fun _=>⟨rfl,litA fun _ _ _=>rfl,Nat.le_refl _,sr,Nat.le_refl _⟩⟩
theorem mwD_b (T:TD) (rn:Nat->Nat) (rc:Nat->Nat->By) (m c:Nat) (hd:RowsOk rn rc m c):(mwD T rn rc m c).Body Tryz.prog (sub (bodyOf Tryz.f407) [0,0,1,0,1,1]):=by
 refine LoopD.bodyHj (root:=(bodyOf Tryz.f407)) (LT:=fun(j:Nat×List Nat)=>[([0,1,1,0,0,1,1,0,0,1,0,1,1],(mwI T rn rc m c j.1 (cntC (rc j.1) (rn j.1) 0 j.2)).at (0,j.2))]) [0,0,1,0,1,1] ftOk (mwU_ok T) (fun(j:Nat×List Nat) hi=>LTok.cons (fun fr H K hk=>LoopD.ok (mwI_b T rn rc m c j.1 (cntC (rc j.1) (rn j.1) 0 j.2) hd) hk) (LTok.nil)) 1000 ?_
 exact fun j hj=>Ho.of (mwDR T rn rc m c j.1 j.2) (by kernel_rfl) (mwD_r T rn rc m c j.1 j.2 hd hj)
theorem mw_r (T:TD) (rn:Nat->Nat) (rc:Nat->Nat->By) (m c:Nat) (hd:RowsOk rn rc m c):mwR T rn rc m c:=by
 unfold mwR
 obtain⟨hw,hn,hm,hmc,hc⟩:=hd
 have e1:∀m:Nat,m<=1000->IntKind.wrap IntKind.i64 (Int.ofNat m)=Int.ofNat m:=fun m h=>wrapI (by simp only[Int.ofNat_eq_natCast];omega) (by simp only[Int.ofNat_eq_natCast];omega)
 have sr:SubF (fun q=>AVal.famx (fun k=>AVal.by_ (rc q k)) (rn q)) (fun q=>AVal.famx (fun k=>AVal.by_ (rc q k)) (rn q)) m []:=fun _ _ _=>SubA.famx fun _ _=>byA
 simp only[sj2,eq_self,implies_true,forall_eq,intE,intF,Nat.le_eq,sj1,leB_iff',sj0]
 exact⟨moI_0,⟨Nat.le_refl _,sr,Nat.le_refl _,Nat.le_refl _⟩,fun _ _=>⟨fun _ _=>nlS_sub rfl,litA fun _ _ _=>rfl⟩⟩
theorem mw_fok:FunOk Tryz.prog 407:=⟨Tryz.f407,by kernel_rfl,rfl,by kernel_rfl⟩
theorem mw_ok (T:TD):(mwS T).Body Tryz.prog 407/\(mwS T).BodyD Tryz.prog 407:=by
 refine genS_body (fn:=Tryz.f407) (b:=(bodyOf Tryz.f407)) (LT:=fun a=>[([0,1,0,1,1],(mwD T a.1 a.2.1 a.2.2.1 a.2.2.2).at (0,[]))]) ftOk (mwU_ok T) 1000 (fun a ha=>LTok.cons (fun fr H K hk=>LoopD.ok (mwD_b T a.1 a.2.1 a.2.2.1 a.2.2.2 ha) hk) (LTok.nil)) (by kernel_rfl) (by kernel_rfl) ?_
 exact fun a ha=>Ho.of (mwR T a.1 a.2.1 a.2.2.1 a.2.2.2) (by kernel_rfl) (mw_r T a.1 a.2.1 a.2.2.1 a.2.2.2 ha)
def fuIR (T:TD) (rn:Nat->Nat) (rc:Nat->Nat->By) (m:Nat) (c:Nat) (w:Nat) (q:Nat):Prop:=
 letI c1:=rn q+1;letI b1:=Nat.beq m m;letI a1:=domB T=domB T;letI z:=Nat.blt q m&&true;letI y:=Int.ofNat (w-rn q);letI v:=gd (Nat.ble c c) True;letI u:=[]=fc rn rc q (rn q);letI p:=Value.int .i64 (Int.ofNat w);letI r:=Value.int .i64 (Int.ofNat m);letI s:=Value.int .i64 (Int.ofNat q);letI t:=Value.int .i64 (Int.ofNat 1);letI n:=decide (Int.ofNat q<Int.ofNat m);letI k:=Value.int .i64 y;letI f:=p=p;letI g:=r=r;letI h:=s=s;letI e:=k=k;letI d:=SubF (fun(c:Nat)=>AVal.by_ (rc q c)) (fun(c:Nat)=>AVal.by_ (fc rn rc q c)) (rn q) [];letI b:=fun(i:Nat)=>AVal.ite (Nat.blt i q) (AVal.fam (fun(c:Nat)=>AVal.by_ (fc rn rc i c)) w) (AVal.famx (fun(c:Nat)=>AVal.by_ (rc i c)) (rn i));letI a:=SubF b b m [(q,AVal.slc (3+1) 0 c1 (ACap.u 3 0))];br (decide (Int.ofNat 0<y)) (gd n (gd (Nat.blt q m) (br (Nat.blt q q) False (gd (Nat.ble (0+rn q+1+rn q+1+rn q+1+rn q+1+rn q+1+rn q+1+rn q+1+rn q+1+rn q+1+rn q+1+rn q+1+rn q+1+rn q+1+rn q+1+rn q+1+rn q+1+rn q+1+rn q+1+rn q+1+rn q+1+rn q+1+rn q+1+rn q+1+rn q+1) 140737488355328&&Nat.ble c1 140737488355328) (gd n (gd z ((∃(j':Unit),Nat.le (q+1) m/\w+1<w+1/\a1/\gd b1 (c=c/\f/\gd b1 (c=c/\g/\h/\h/\e/\t=Value.int .i64 (Int.ofNat 0)/\m=m/\a/\gd z (br (Nat.blt q q) (c1=w/\c1=c1/\d/\0<=0/\u/\v) False))))\/∃(j':Nat),(q<m/\0<j'/\j'<=w-rn q)/\w-j'<w+1/\a1/\gd b1 (c=c/\f/\gd b1 (c=c/\g/\h/\h/\e/\t=Value.int .i64 (Int.ofNat j')/\m=m/\q=q/\q<m/\True/\a/\gd (Nat.beq c1 (rn q+j')) (gd (Nat.ble c c) (rn q+j'=c1/\d/\0<=0/\u/\True))))))))))) ((∃(x:Unit),True/\a1/\gd b1 (c=c/\f/\gd b1 (c=c/\g/\h/\m<=m/\SubF b (fun(i:Nat)=>AVal.ite (Nat.blt i (q+1)) (AVal.fam (fun(c:Nat)=>AVal.by_ (fc rn rc i c)) w) (AVal.famx (fun(c:Nat)=>AVal.by_ (rc i c)) (rn i))) m []/\v)))\/False)
def fuIQ (T:TD) (rn:Nat->Nat) (rc:Nat->Nat->By) (m:Nat) (c:Nat) (w:Nat) (q:Nat) (k:Nat):Prop:=
 letI v1:=q+1;letI w1:=c=c;letI t1:=rn q+k;letI u1:=rn q+1;letI p1:=Nat.blt q m;letI q1:=Nat.beq m m;letI r1:=Nat.blt q q;letI s1:=Nat.ble c c;letI n1:=t1+1;letI m1:=q=q/\True;letI k1:=domB T=domB T;letI h1:=p1&&true;letI g1:=Int.ofNat (w-rn q);letI f1:=[]=fc rn rc q (rn q);letI e1:=[]=fc rn rc q t1;letI b1:=Value.int .i64 (Int.ofNat w);letI c1:=Value.int .i64 (Int.ofNat m);letI d1:=Value.int .i64 (Int.ofNat q);letI a1:=decide (Int.ofNat q<Int.ofNat m);letI y:=Value.int .i64 g1;letI z:=p1&&(!Nat.beq q q&&true);letI v:=fun(c:Nat)=>AVal.by_ (fc rn rc q c);letI u:=(q,AVal.slc 1 0 t1 (ACap.u 2 0));letI t:=(q,AVal.slc (5+1) 0 u1 (ACap.u 5 0));letI s:=(q,AVal.slc (5+1) 0 n1 (ACap.u 5 0));letI r:=Value.int .i64 (IntKind.wrap .i64 (Int.ofNat (k+1)));letI h:=b1=b1;letI n:=c1=c1;letI p:=d1=d1;letI g:=y=y;letI f:=r=Value.int .i64 (Int.ofNat 0);letI e:=SubF (fun(c:Nat)=>AVal.by_ (rc q c)) v (rn q) [];letI d:=SubF v v t1 [];letI b:=fun(i:Nat)=>AVal.ite (Nat.blt i q) (AVal.fam (fun(c:Nat)=>AVal.by_ (fc rn rc i c)) w) (AVal.famx (fun(c:Nat)=>AVal.by_ (rc i c)) (rn i));letI a:=t1=w/\t1=t1+0/\d/\gd s1 True;br (decide (Int.ofNat k<g1)) (gd a1 (gd p1 (br (Nat.beq q q) (gd (Nat.beq t1 (t1+0)&&(Nat.ble (0+t1+1+t1+1+t1+1+t1+1+t1+1+t1+1+t1+1+t1+1+t1+1+t1+1+t1+1+t1+1+t1+1+t1+1+t1+1+t1+1+t1+1+t1+1+t1+1+t1+1+t1+1+t1+1+t1+1+t1+1) 140737488355328&&(Nat.ble n1 140737488355328&&true))) (gd a1 (gd h1 ((∃(j':Unit),Nat.le v1 m/\w+1<w-k/\k1/\gd q1 (w1/\h/\gd q1 (w1/\n/\p/\p/\g/\f/\m=m/\SubF b b m [s,u]/\gd z (br r1 (n1=w/\n1=n1/\d/\0<=0/\e1/\gd h1 (br r1 False False)) False))))\/∃(j':Nat),(q<m/\0<j'/\j'<=w-rn q)/\w-j'<w-k/\k1/\gd q1 (w1/\h/\gd q1 (w1/\n/\p/\p/\g/\r=Value.int .i64 (Int.ofNat j')/\m=m/\q=q/\q<m/\m1/\SubF b b m [s]/\gd (Nat.beq n1 (rn q+j')) (gd s1 (rn q+j'=n1/\d/\0<=0/\e1/\True)))))))) (br r1 False (gd (Nat.ble (0+rn q+1+rn q+1+rn q+1+rn q+1+rn q+1+rn q+1+rn q+1+rn q+1+rn q+1+rn q+1+rn q+1+rn q+1+rn q+1+rn q+1+rn q+1+rn q+1+rn q+1+rn q+1+rn q+1+rn q+1+rn q+1+rn q+1+rn q+1+rn q+1) 140737488355328&&Nat.ble u1 140737488355328) (gd a1 (gd h1 ((∃(j':Unit),Nat.le v1 m/\w+1<w-k/\k1/\gd q1 (w1/\h/\gd q1 (w1/\n/\p/\p/\g/\f/\m=m/\SubF b b m [t,u]/\gd z (br r1 (u1=w/\u1=u1/\e/\0<=0/\f1/\gd h1 (br r1 a False)) False))))\/∃(j':Nat),(q<m/\0<j'/\j'<=w-rn q)/\w-j'<w-k/\k1/\gd q1 (w1/\h/\gd q1 (w1/\n/\p/\p/\g/\r=Value.int .i64 (Int.ofNat j')/\m=m/\q=q/\q<m/\m1/\SubF b b m [t]/\gd (Nat.beq u1 (rn q+j')) (gd s1 (rn q+j'=u1/\e/\0<=0/\f1/\True)))))))))))) ((∃(x:Unit),True/\k1/\gd q1 (w1/\h/\gd q1 (w1/\n/\p/\m=m/\SubF b (fun(i:Nat)=>AVal.ite (Nat.blt i v1) (AVal.fam (fun(c:Nat)=>AVal.by_ (fc rn rc i c)) w) (AVal.famx (fun(c:Nat)=>AVal.by_ (rc i c)) (rn i))) m [u]/\gd h1 (br (Nat.blt q v1) a False))))\/False)
def fuDR (T:TD) (rn:Nat->Nat) (rc:Nat->Nat->By) (m:Nat) (c:Nat) (w:Nat) (q:Nat):Prop:=
 letI a1:=c=c;letI y:=Nat.beq m m;letI z:=Int.ofNat w;letI v:=domB T=domB T;letI u:=Nat.le (q+1) m;letI t:=gd (Nat.ble c c) True;letI n:=Value.int .i64 z;letI p:=Value.int .i64 (Int.ofNat m);letI r:=Value.int .i64 (Int.ofNat q);letI s:=Value.int .i64 (Int.ofNat 0);letI k:=decide (Int.ofNat q<Int.ofNat m);letI h:=Value.int .i64 (Int.ofNat (w-rn q));letI e:=n=n;letI f:=p=p;letI g:=r=r;letI d:=fun(i:Nat)=>AVal.ite (Nat.blt i q) (AVal.fam (fun(c:Nat)=>AVal.by_ (fc rn rc i c)) w) (AVal.famx (fun(c:Nat)=>AVal.by_ (rc i c)) (rn i));letI b:=s=s/\m<=m/\SubF d d m []/\t;letI a:=∀(x:Unit),True->∃(j':Nat),Nat.le j' m/\m-j'<m-q/\v/\gd y (a1/\e/\gd y (a1/\f/\Value.int .i64 (IntKind.wrap .i64 (Int.ofNat (q+1)))=Value.int .i64 (Int.ofNat j')/\m<=m/\SubF (fun(i:Nat)=>AVal.ite (Nat.blt i (q+1)) (AVal.fam (fun(c:Nat)=>AVal.by_ (fc rn rc i c)) w) (AVal.famx (fun(c:Nat)=>AVal.by_ (rc i c)) (rn i))) (fun(i:Nat)=>AVal.ite (Nat.blt i j') (AVal.fam (fun(c:Nat)=>AVal.by_ (fc rn rc i c)) w) (AVal.famx (fun(c:Nat)=>AVal.by_ (rc i c)) (rn i))) m []/\t));br k (gd k (gd (Nat.blt q m) (br (Nat.blt q q) (u/\(v/\gd y (a1/\e/\gd y (a1/\f/\g/\g/\Value.int .i64 (IntKind.wrap .i64 (z-z))=h/\b)))/\a) (u/\(v/\gd y (a1/\e/\gd y (a1/\f/\g/\g/\Value.int .i64 (IntKind.wrap .i64 (z-Int.ofNat (rn q)))=h/\b)))/\a)))) (∃(x:Unit),True/\v/\gd y (a1/\m<=m/\SubF d (fun(i:Nat)=>AVal.fam (fun(c:Nat)=>AVal.by_ (fc rn rc i c)) w) m []/\t))
def fuR (T:TD) (rn:Nat->Nat) (rc:Nat->Nat->By) (m:Nat) (c:Nat) (w:Nat):Prop:=
 letI n:=Nat.beq m m;letI h:=domB T=domB T;letI g:=(rn,rc,m,c,w);letI f:=List (Nat×AVal);letI b:=Value.int .i64 (Int.ofNat w);letI d:=Value.int .i64 (Int.ofNat m);letI e:=Value.int .i64 (Int.ofNat 0);Nat.le 0 m/\(h/\gd n (c=c/\b=b/\gd n (c=c/\d=d/\e=e/\m<=m/\SubF (fun(q:Nat)=>AVal.famx (fun(k:Nat)=>AVal.by_ ((rc,m,c,w).fst q k)) (g.fst q)) (fun(i:Nat)=>AVal.ite false (AVal.fam (fun(c:Nat)=>AVal.by_ (fc rn rc i c)) w) (AVal.famx (fun(c:Nat)=>AVal.by_ (rc i c)) (rn i))) m []/\gd (Nat.ble c c) True)))/\∀(x:Unit),True->∃(x:(Nat->Nat)×(Nat->Nat->By)×Nat×Nat×Nat),x=g/\h/\True/\(([]:f)=([]:f)/\([]:List AVal)=([]:List AVal)/\∀(i:Nat),letI a:=AVal.fam (fun(c:Nat)=>AVal.by_ (fc x.1 x.snd.1 i c)) x.snd.snd.2.snd;i<x.snd.2.fst->SubA 0 a a)/\gd (Nat.beq m x.snd.2.fst) (c=x.snd.snd.2.fst/\x.snd.2.fst<=m/\SubF (fun(i:Nat)=>AVal.fam (fun(c:Nat)=>AVal.by_ (fc rn rc i c)) w) (fun(i:Nat)=>AVal.fam (fun(c:Nat)=>AVal.by_ (fc x.1 x.snd.1 i c)) x.snd.snd.2.snd) x.snd.2.fst []/\gd (Nat.ble x.snd.snd.2.fst c) True)
theorem fuI_r (T:TD) (rn:Nat->Nat) (rc:Nat->Nat->By) (m c w:Nat) (q:Nat) (hd:RowsOk rn rc m c/\w<=12/\∀q,q<m->rn q<=w) (h:q<m):fuIR T rn rc m c w q:=by
 unfold fuIR
 obtain⟨⟨hw,hn,hm,hmc,hc⟩,hw12,hwr⟩:=hd
 have e1:∀m:Nat,m<=1000->IntKind.wrap IntKind.i64 (Int.ofNat m)=Int.ofNat m:=fun m h=>wrapI (by simp only[Int.ofNat_eq_natCast];omega) (by simp only[Int.ofNat_eq_natCast];omega)
 simp only[sj2,Go.Sx.beq_self,eq_self,implies_true,forall_eq,intE,intF,Nat.le_eq,Nat.lt_irrefl,Nat.le_refl,true_implies,false_implies,Bool.true_eq_false,Bool.false_eq_true,Bool.not_true,Bool.and_false,sj1,leB_iff',sj0]
 have hnq:=hn q
 have t0:∀us,SubF (frowA rn rc w (q+1)) (frowA rn rc w (q+1)) m us:=fun _=>frow_refl
 have hww:q<m->IntKind.wrap IntKind.i64 (Int.ofNat w-Int.ofNat (rn q))=Int.ofNat (w-rn q):=fun g=>wrapS (hwr q g) (by omega)
 have e2:SubF (frowA rn rc w m) (fun i=>AVal.fam (fun c=>.by_ (fc rn rc i c)) w) m []:=frow_end
 have s0:∀us,SubF (frowA rn rc w q) (frowA rn rc w q) m us:=fun _=>frow_refl
 have sX:SubF (fun c=>AVal.by_ (rc q c)) (fun c=>AVal.by_ (fc rn rc q c)) (rn q) []:=fun k hk _=>fcSubX k hk
 have sF:∀n,SubF (fun c=>AVal.by_ (fc rn rc q c)) (fun c=>AVal.by_ (fc rn rc q c)) n []:=fun _ _ _ _=>byA
 have z:∀k,rn q<=k->[]=fc rn rc q k:=fun k h=>(fc_out h).symm
 have s1:∀v,SubF (frowA rn rc w q) (frowA rn rc w (q+1)) m [(q,v)]:=fun v=>frow_s
 repeat' (first|omega|exact trivial|exact rfl|exact s0 _|exact t0 _|exact sX|exact sF _|exact s1 _|exact frow_s0 (by omega)|exact frow_s0 (by have:=hwr q (by omega);omega)|exact congrArg _ (hww (by omega))|exact hwr q (by omega)|(rw[show q=m by omega];exact e2)|exact z _ (by omega)|(exfalso;omega)|(refine Or.inr ⟨1,?_⟩)|refine⟨1,?_⟩|intro _|refine And.intro ?_ ?_)
theorem fuI_q (T:TD) (rn:Nat->Nat) (rc:Nat->Nat->By) (m c w:Nat) (q k:Nat) (hd:RowsOk rn rc m c/\w<=12/\∀q,q<m->rn q<=w) (h:q<m/\0<k/\k<=w-rn q):fuIQ T rn rc m c w q k:=by
 unfold fuIQ
 obtain⟨⟨hw,hn,hm,hmc,hc⟩,hw12,hwr⟩:=hd
 have e1:∀m:Nat,m<=1000->IntKind.wrap IntKind.i64 (Int.ofNat m)=Int.ofNat m:=fun m h=>wrapI (by simp only[Int.ofNat_eq_natCast];omega) (by simp only[Int.ofNat_eq_natCast];omega)
 simp only[e1 (k+1) (by omega)]
 simp only[sj2,Go.Sx.beq_self,eq_self,implies_true,forall_eq,intE,intF,Nat.le_eq,Nat.lt_irrefl,Nat.le_refl,true_implies,false_implies,Bool.true_eq_false,Bool.false_eq_true,Bool.not_true,Bool.and_false,sj1,leB_iff',sj0]
 have hnq:=hn q
 have t0:∀us,SubF (frowA rn rc w (q+1)) (frowA rn rc w (q+1)) m us:=fun _=>frow_refl
 have hww:q<m->IntKind.wrap IntKind.i64 (Int.ofNat w-Int.ofNat (rn q))=Int.ofNat (w-rn q):=fun g=>wrapS (hwr q g) (by omega)
 have e2:SubF (frowA rn rc w m) (fun i=>AVal.fam (fun c=>.by_ (fc rn rc i c)) w) m []:=frow_end
 have s0:∀us,SubF (frowA rn rc w q) (frowA rn rc w q) m us:=fun _=>frow_refl
 have sX:SubF (fun c=>AVal.by_ (rc q c)) (fun c=>AVal.by_ (fc rn rc q c)) (rn q) []:=fun k hk _=>fcSubX k hk
 have sF:∀n,SubF (fun c=>AVal.by_ (fc rn rc q c)) (fun c=>AVal.by_ (fc rn rc q c)) n []:=fun _ _ _ _=>byA
 have z:∀k,rn q<=k->[]=fc rn rc q k:=fun k h=>(fc_out h).symm
 have s1:∀v,SubF (frowA rn rc w q) (frowA rn rc w (q+1)) m [(q,v)]:=fun v=>frow_s
 repeat' (first|omega|exact trivial|exact rfl|exact s0 _|exact t0 _|exact sX|exact sF _|exact s1 _|exact frow_s0 (by omega)|exact frow_s0 (by have:=hwr q (by omega);omega)|exact congrArg _ (hww (by omega))|exact hwr q (by omega)|(rw[show q=m by omega];exact e2)|exact z _ (by omega)|(exfalso;omega)|(refine Or.inr ⟨k+1,?_⟩)|refine⟨k+1,?_⟩|intro _|refine And.intro ?_ ?_)
theorem fuI_b (T:TD) (rn:Nat->Nat) (rc:Nat->Nat->By) (m c w:Nat) (q:Nat) (hd:RowsOk rn rc m c/\w<=12/\∀q,q<m->rn q<=w):(fuI T rn rc m c w q).Body2 (fuIE T rn rc m c w q) Tryz.prog (sub (bodyOf Tryz.f408) [0,0,1,1,1,0,0,1,1,0,0,1,0,1]):=by
 refine LoopD.bodyH2 (root:=(bodyOf Tryz.f408)) [0,0,1,1,1,0,0,1,1,0,0,1,0,1] ftOk (nofOk) (LTok.nil) 1000 ?_ ?_
 ·exact fun j hj=>Ho.of (fuIR T rn rc m c w q) (by kernel_rfl) (fuI_r T rn rc m c w q hd hj)
 ·exact fun j hj=>Ho.of (fuIQ T rn rc m c w q j) (by kernel_rfl) (fuI_q T rn rc m c w q j hd hj)
theorem fuD_r (T:TD) (rn:Nat->Nat) (rc:Nat->Nat->By) (m c w:Nat) (q:Nat) (hd:RowsOk rn rc m c/\w<=12/\∀q,q<m->rn q<=w) (h:q<=m):fuDR T rn rc m c w q:=by
 unfold fuDR
 obtain⟨⟨hw,hn,hm,hmc,hc⟩,hw12,hwr⟩:=hd
 have e1:∀m:Nat,m<=1000->IntKind.wrap IntKind.i64 (Int.ofNat m)=Int.ofNat m:=fun m h=>wrapI (by simp only[Int.ofNat_eq_natCast];omega) (by simp only[Int.ofNat_eq_natCast];omega)
 simp only[e1 (q+1) (by omega)]
 simp only[sj2,Go.Sx.beq_self,eq_self,implies_true,forall_eq,intE,intF,Nat.le_eq,Nat.lt_irrefl,Nat.le_refl,true_implies,false_implies,Bool.true_eq_false,Bool.false_eq_true,Bool.not_true,Bool.and_false,sj1,leB_iff',sj0]
 have hnq:=hn q
 have t0:∀us,SubF (frowA rn rc w (q+1)) (frowA rn rc w (q+1)) m us:=fun _=>frow_refl
 have hww:q<m->IntKind.wrap IntKind.i64 (Int.ofNat w-Int.ofNat (rn q))=Int.ofNat (w-rn q):=fun g=>wrapS (hwr q g) (by omega)
 have e2:SubF (frowA rn rc w m) (fun i=>AVal.fam (fun c=>.by_ (fc rn rc i c)) w) m []:=frow_end
 have s0:∀us,SubF (frowA rn rc w q) (frowA rn rc w q) m us:=fun _=>frow_refl
 have sX:SubF (fun c=>AVal.by_ (rc q c)) (fun c=>AVal.by_ (fc rn rc q c)) (rn q) []:=fun k hk _=>fcSubX k hk
 have sF:∀n,SubF (fun c=>AVal.by_ (fc rn rc q c)) (fun c=>AVal.by_ (fc rn rc q c)) n []:=fun _ _ _ _=>byA
 have z:∀k,rn q<=k->[]=fc rn rc q k:=fun k h=>(fc_out h).symm
 have s1:∀v,SubF (frowA rn rc w q) (frowA rn rc w (q+1)) m [(q,v)]:=fun v=>frow_s
 repeat' (first|omega|exact trivial|exact rfl|exact s0 _|exact t0 _|exact sX|exact sF _|exact s1 _|exact frow_s0 (by omega)|exact frow_s0 (by have:=hwr q (by omega);omega)|exact congrArg _ (hww (by omega))|exact hwr q (by omega)|(rw[show q=m by omega];exact e2)|exact z _ (by omega)|(exfalso;omega)|(refine Or.inr ⟨q+1,?_⟩)|refine⟨q+1,?_⟩|intro _|refine And.intro ?_ ?_)
theorem fuD_b (T:TD) (rn:Nat->Nat) (rc:Nat->Nat->By) (m c w:Nat) (hd:RowsOk rn rc m c/\w<=12/\∀q,q<m->rn q<=w):(fuD T rn rc m c w).Body Tryz.prog (sub (bodyOf Tryz.f408) [0,0,1,0,1]):=by
 refine LoopD.bodyHj (root:=(bodyOf Tryz.f408)) (LT:=fun q=>[([0,1,1,1,0,0,1,1,0,0,1,0,1],(fuI T rn rc m c w q).at ())]) [0,0,1,0,1] ftOk (nofOk) (fun q hi=>LTok.cons (fun fr H K hk=>LoopD.ok2 (fuI_b T rn rc m c w q hd) hk) (LTok.nil)) 1000 ?_
 exact fun q hq=>Ho.of (fuDR T rn rc m c w q) (by kernel_rfl) (fuD_r T rn rc m c w q hd hq)
theorem fu_r (T:TD) (rn:Nat->Nat) (rc:Nat->Nat->By) (m c w:Nat) (hd:RowsOk rn rc m c/\w<=12/\∀q,q<m->rn q<=w):fuR T rn rc m c w:=by
 unfold fuR
 obtain⟨⟨hw,hn,hm,hmc,hc⟩,hw12,hwr⟩:=hd
 have e1:∀m:Nat,m<=1000->IntKind.wrap IntKind.i64 (Int.ofNat m)=Int.ofNat m:=fun m h=>wrapI (by simp only[Int.ofNat_eq_natCast];omega) (by simp only[Int.ofNat_eq_natCast];omega)
 simp only[sj2,Go.Sx.beq_self,eq_self,implies_true,forall_eq,intE,intF,Nat.le_eq,Nat.lt_irrefl,Nat.le_refl,true_implies,false_implies,Bool.true_eq_false,Bool.false_eq_true,Bool.not_true,Bool.and_false,sj1,leB_iff',sj0]
 have s0:SubF (frowA rn rc w 0) (frowA rn rc w 0) m []:=frow_refl
 have s1:SubF (fun i=>AVal.famx (fun c=>.by_ (rc i c)) (rn i)) (frowA rn rc w 0) m []:=frow_0
 have s2:SubF (fun i=>AVal.fam (fun c=>.by_ (fc rn rc i c)) w) (fun i=>AVal.fam (fun c=>.by_ (fc rn rc i c)) w) m []:=fun _ _ _=>SubA.fam fcSub
 repeat' (first|omega|exact trivial|exact rfl|exact s0|exact s1|exact s2|exact fun _ _=>SubA.fam fcSub|(refine⟨(rn,rc,m,c,w),rfl,?_⟩)|intro _|refine And.intro ?_ ?_)
theorem fu_fok:FunOk Tryz.prog 408:=⟨Tryz.f408,by kernel_rfl,rfl,by kernel_rfl⟩
theorem fu_ok (T:TD):(fuS T).Body Tryz.prog 408/\(fuS T).BodyD Tryz.prog 408:=by
 refine genS_body (fn:=Tryz.f408) (b:=(bodyOf Tryz.f408)) (LT:=fun a=>[([0,1,0,1],(fuD T a.1 a.2.1 a.2.2.1 a.2.2.2.1 a.2.2.2.2).at (0:Nat))]) ftOk (nofOk) 1000 (fun a ha=>LTok.cons (fun fr H K hk=>LoopD.ok (fuD_b T a.1 a.2.1 a.2.2.1 a.2.2.2.1 a.2.2.2.2 ha) hk) (LTok.nil)) (by kernel_rfl) (by kernel_rfl) ?_
 exact fun a ha=>Ho.of (fuR T a.1 a.2.1 a.2.2.1 a.2.2.2.1 a.2.2.2.2) (by kernel_rfl) (fu_r T a.1 a.2.1 a.2.2.1 a.2.2.2.1 a.2.2.2.2 ha)
theorem wp_fok:FunOk Tryz.prog 325:=⟨Tryz.f325,by kernel_rfl,rfl,by kernel_rfl⟩
theorem wp_ok (T:TD):(wpS T).Body Tryz.prog 325/\(wpS T).BodyD Tryz.prog 325:=by
 refine genS_body (fn:=Tryz.f325) (b:=(bodyOf Tryz.f325)) (LT:=fun _=>[]) ftOk (woU_ok T) 1000 (fun a ha=>LTok.nil) (by kernel_rfl) (by kernel_rfl) ?_
 exact fun a ha=>Ho.of (woR T a.1 a.2.1 a.2.2) (by kernel_rfl) (wo_r T a.1 a.2.1 a.2.2 ha)
theorem wr_ok (T:TD):(wrS T).Body Tryz.prog 325:=fun a ha w0 F0 ι w vs hi hd=>by
 obtain⟨d,h63,hld,hi'⟩:=bufOpen hi
 exact(wp_ok T).1 (a.1,a.2,d) ⟨hld,h63,ha⟩ w0 F0 ι w vs hi' hd
end Tk
