/- Lemmas of this claim; the last text says what is proved. -/
import Derived.Test.YtblencgndjjleaaGreatDoorK26
set_option linter.all false
set_option maxRecDepth 1000000
namespace Tk
open Go Go.Sx Go.Proofs
open Q
variable [Syms]
def C_B(T:TD)(rn:Nat->Nat)(rc:Nat->Nat->By)(n:Nat)(c:Nat)(i:Nat)(j:Nat)(M:List Nat):Prop:=
 letI g1:=at0 M j;letI f1:=eR rn rc;letI d1:=Nat.beq n n;letI e1:=Nat.ble c c;letI c1:=rn g1;letI v:=Nat×List Nat;letI w:=a_f T=a_f T;letI y:=kp f1 n;letI u:=Nat.blt i n&&true;letI t:=Nat×v;letI s:=Value.int .i64 (Int.ofNat i);letI r:=decide (Int.ofNat j<Int.ofNat n);letI p:=fun(k:Nat)=>AVal.by_ (rc g1 k);letI m:=fun(c:Nat)=>h_P (AVal.by_ (rc g1 c));letI h:=Value.int .i64 (IntKind.wrap .i64 (Int.ofNat (j+1)));letI g:=(m,c1);letI f:=g.snd;letI e:=fun(q:Nat)=>AVal.famx (fun(k:Nat)=>AVal.by_ (rc (at0 M q) k)) (rn (at0 M q));letI a:=gd (decide (Int.ofNat i<Int.ofNat n)) (gd u (∃(j':t),letI a1:=at0 j'.snd.2 i;letI b:=h=Value.int .i64 (Int.ofNat j'.2.fst);dI f1 n j'.fst j'.2.fst j'.snd.2/\n-j'.2.fst<n-j/\w/\gd d1 (c=c/\Value.int .i64 (IntKind.wrap .i64 (Int.ofNat (i+1)))=Value.int .i64 (Int.ofNat j'.fst)/\b/\n=n/\SubF e (fun(q:Nat)=>letI z:=at0 j'.snd.2 q;AVal.famx (fun(k:Nat)=>AVal.by_ (rc z k)) (rn z)) n [(i,AVal.famx p c1)]/\gd u (c1=rn a1/\SubF p (fun(k:Nat)=>AVal.by_ (rc a1 k)) c1 []/\gd e1 (b/\True)))));br r (gd r (gd (Nat.blt j n) (br (Int.ofNat j==Int.ofNat 0) a (w/\Nat.le f 1000/\c1=f/\SubF p (fun(c:Nat)=>AVal.by_ (g.fst c)) c1 []/\∀(x:Bool),x=rowE m f->br (!x) a (∃(j':t),letI d:=h=Value.int .i64 (Int.ofNat j'.2.fst);dI f1 n j'.fst j'.2.fst j'.snd.2/\n-j'.2.fst<n-j/\w/\gd d1 (c=c/\s=Value.int .i64 (Int.ofNat j'.fst)/\d/\n<=n/\SubF e (fun(q:Nat)=>letI b1:=at0 j'.snd.2 q;AVal.famx (fun(k:Nat)=>AVal.by_ (rc b1 k)) (rn b1)) n []/\gd e1 (d/\True))))))) (∃(x:v),(x.fst=List.length y/\x.fst<=n/\List.take x.fst x.2=y)/\w/\gd d1 (c=c/\s=Value.int .i64 (Int.ofNat x.fst)/\n<=n/\SubF e (fun(q:Nat)=>AVal.famx (fun(k:Nat)=>AVal.by_ (rc (at0 x.2 q) k)) (rn (at0 x.2 q))) n []/\gd e1 True))
def dfR(T:TD)(rn:Nat->Nat)(rc:Nat->Nat->By)(n:Nat)(c:Nat):Prop:=
 letI f1:=eR rn rc;letI d1:=a_f T=a_f T;letI e1:=kp f1 n;letI b1:=(rn,rc,n,c).fst;letI c1:=List (Nat×AVal);letI z:=fS f1 n+1;letI y:=List.range.loop n [];letI v:=Value.int .i64 (Int.ofNat 0);letI u:=List.length e1;letI t:=([]:List AVal)=([]:List AVal);letI s:=Value.int .i64 (Int.ofNat z);letI r:=(Nat->Nat)×(Nat->Nat->By)×Nat×Nat;letI p:=([]:c1)=([]:c1);letI h:=(fS f1 n,z,y).fst;letI f:=fun(q:Nat)=>AVal.famx (fun(k:Nat)=>AVal.by_ ((rc,n,c).fst q k)) (b1 q);letI d:=rowsN f;letI e:=rowsC f;letI b:=(fun(q:Nat)=>b1 (at0 e1 q),fun(q:Nat)=>rc (at0 e1 q),u,c);letI a:=(d,e,n,c).fst;d1/\((∀(q:Nat),a q<=1000)/\1<=n/\n<=100/\n<=c)/\gd (Nat.beq n n) (c=c/\n<=n/\SubF f (fun(q:Nat)=>AVal.famx (fun(k:Nat)=>AVal.by_ ((e,n,c).fst q k)) (a q)) n []/\gd (Nat.ble c c) (v=v/\∀(x:Nat×Nat×Bool),x.fst=fS (eR d e) n/\(x.2.snd=true->x.2.fst=x.fst+1)/\x.2.snd=Nat.blt x.fst n->br x.2.snd (dI f1 n h z y/\(d1/\gd (Nat.beq n n) (c=c/\Value.int .i64 (Int.ofNat x.fst)=Value.int .i64 (Int.ofNat h)/\Value.int .i64 (IntKind.wrap .i64 (Int.ofNat (x.fst+1)))=s/\n<=n/\SubF f (fun(q:Nat)=>letI w:=at0 y q;AVal.famx (fun(k:Nat)=>AVal.by_ (rc w k)) (rn w)) n []/\gd (Nat.ble c c) (Value.int .i64 (Int.ofNat x.2.fst)=s/\True)))/\∀(x:Nat×List Nat),letI a1:=x.fst+(n-x.fst);x.fst=u/\x.fst<=n/\List.take x.fst x.2=e1->gd (decide (Int.ofNat x.fst<=Int.ofNat n)&&decide (Int.ofNat n<=Int.ofNat c)) (gd (Nat.ble a1 n&&true) (gd (decide (Int.ofNat x.fst<=Int.ofNat c)) (∃(x_1:r),x_1=b/\d1/\True/\(p/\t/\∀(i:Nat),letI g:=AVal.famx (fun(k:Nat)=>AVal.by_ (x_1.2.fst i k)) (x_1.fst i);i<x_1.snd.2.fst->SubA 0 g g)/\gd (Nat.beq x.fst x_1.snd.2.fst) (c=x_1.snd.2.snd/\x_1.snd.2.fst<=n/\SubF (fun(i:Nat)=>AVal.ite (Nat.blt i x.fst||Nat.ble a1 i) (AVal.famx (fun(k:Nat)=>AVal.by_ (rc (at0 x.2 i) k)) (rn (at0 x.2 i))) (AVal.lit (Value.slice none 0 0))) (fun(q:Nat)=>AVal.famx (fun(k:Nat)=>AVal.by_ (x_1.2.fst q k)) (x_1.fst q)) x_1.snd.2.fst []/\gd (Nat.ble x_1.snd.2.snd c) True))))) (∃(x:r),x=b/\d1/\True/\(p/\t/\∀(i:Nat),letI m:=AVal.famx (fun(k:Nat)=>AVal.by_ (x.2.fst i k)) (x.fst i);i<x.snd.2.fst->SubA 0 m m)/\gd (Nat.beq n x.snd.2.fst) (c=x.snd.2.snd/\x.snd.2.fst<=n/\SubF f (fun(q:Nat)=>AVal.famx (fun(k:Nat)=>AVal.by_ (x.2.fst q k)) (x.fst q)) x.snd.2.fst []/\gd (Nat.ble x.snd.2.snd c) True))))
theorem q_N(T:TD):TabOk Tryz.prog (dfU T):=by
 refine⟨fun f s h=>?_,fun f s h=>?_⟩
 ·unfold dfU at h
  simp only at h
  split at h
  ·cases h;exact a_d n_3 (s_Q T).1
  ·cases h;exact a_d v_R (C_A T).1
  ·cases h
 ·cases h
theorem C_C(T:TD)(rn:Nat->Nat)(rc:Nat->Nat->By)(n c:Nat)(i j:Nat)(M:List Nat)(hd:(∀q,rn q<=1000)/\1<=n/\n<=100/\n<=c)(h:dI (eR rn rc) n i j M):C_B T rn rc n c i j M:=by
 unfold C_B
 obtain⟨hrn,h1,h100,hc⟩:=hd
 obtain⟨hM,hij,hjn,hK,hR⟩:=id h
 have e1:IntKind.wrap IntKind.i64 (Int.ofNat (i+1))=Int.ofNat (i+1):=a_o ab ab
 have e2:IntKind.wrap IntKind.i64 (Int.ofNat (j+1))=Int.ofNat (j+1):=a_o ab ab
 have s0:SubF (fun q=>AVal.famx (fun k=>AVal.by_ (rc (at0 M q) k)) (rn (at0 M q))) (fun q=>AVal.famx (fun k=>AVal.by_ (rc (at0 M q) k)) (rn (at0 M q))) n []:=fun _ _ _=>SubA.famx fun _ _=>byA
 have hi:at0 (M.set i (at0 M j)) i=at0 M j:=by
  unfold at0;rw[List.getD_eq_getElem?_getD,List.getElem?_set_self ac];rfl
 have s1:SubF (fun q=>AVal.famx (fun k=>AVal.by_ (rc (at0 M q) k)) (rn (at0 M q))) (fun q=>AVal.famx (fun k=>AVal.by_ (rc (at0 (M.set i (at0 M j)) q) k)) (rn (at0 (M.set i (at0 M j)) q))) n [(i,AVal.famx (fun k=>AVal.by_ (rc (at0 M j) k)) (rn (at0 M j)))]:=fun q hq hu=>by
  have hne:q≠i:=fun e=>by subst e;simp[c_b] at hu
  have:at0 (M.set i (at0 M j)) q=at0 M q:=by
   unfold at0;rw[List.getD_eq_getElem?_getD,List.getElem?_set_ne (fun e=>hne e.symm),←List.getD_eq_getElem?_getD]
  show SubA _ (AVal.famx _ _) (AVal.famx _ _)
  rw[this];exact SubA.famx fun _ _=>byA
 have s2:SubF (fun k=>AVal.by_ (rc (at0 M j) k)) (fun k=>AVal.by_ (rc (at0 M j) k)) (rn (at0 M j)) []:=fun _ _ _=>byA
 have kl:=d_X (e:=eR rn rc) (j:=j)
 have kL:i<=n->i=(kp (eR rn rc) j).length:=fun g=>by rw[←hK,List.length_take];omega
 simp only[e1,e2,h_P]
 simp only[sj3,eq_self,implies_true,Nat.le_eq,forall_eq,b_F,b_P,Bool.not_eq_true',Bool.not_eq_false',sj2,a_e,sj0]
 refine⟨fun g=>⟨g,g,fun e=>absurd e ac,fun _=>⟨hrn _,s2,fun he=>⟨ac,ac,(i+1,j+1,M.set i (at0 M j)),G_1 h g he,aJ,rfl,rfl,s1,ac,by simp only[hi],by simp only[hi];exact s2,Nat.le_refl _,rfl⟩,fun he=>⟨(i,j+1,M),G_2 h g he,aJ,rfl,rfl,Nat.le_refl _,s0,Nat.le_refl _,rfl⟩⟩⟩,fun g=>?_⟩
 have e:j=n:=ac
 subst e
 exact⟨(i,M),⟨kL ac,aJ,hK⟩,rfl,Nat.le_refl _,s0,Nat.le_refl _⟩
theorem C_D(T:TD)(rn:Nat->Nat)(rc:Nat->Nat->By)(n c:Nat)(hd:(∀q,rn q<=1000)/\1<=n/\n<=100/\n<=c):(dfD T rn rc n c).Body Tryz.prog (sub (a_b Tryz.f452) [0,0,1,0,1,1,1]):=by
 refine LoopD.bodyH (root:=(a_b Tryz.f452)) [0,0,1,0,1,1,1] a_l (q_N T) (LTok.nil) 1000 ?_
 exact fun j hj=>Ho.of (C_B T rn rc n c j.1 j.2.1 j.2.2) aa (C_C T rn rc n c j.1 j.2.1 j.2.2 hd hj)
theorem H_S(T:TD)(rn:Nat->Nat)(rc:Nat->Nat->By)(n c:Nat)(hd:(∀q,rn q<=1000)/\1<=n/\n<=100/\n<=c):dfR T rn rc n c:=by
 unfold dfR
 simp only[h_P]
 simp only[sj3,eq_self,implies_true,forall_eq,sj2,a_e,sj0]
 obtain⟨hrn,h1,h100,hc⟩:=hd
 have sf:SubF (fun q=>AVal.famx (fun k=>AVal.by_ (rc q k)) (rn q)) (fun q=>AVal.famx (fun k=>AVal.by_ (rc q k)) (rn q)) n []:=fun _ _ _=>SubA.famx fun _ _=>byA
 have sp:=s_k (e:=eR rn rc) (n:=n) h1
 have kf:∀i,i<(kp (eR rn rc) n).length->SubA 0 (AVal.famx (fun k=>AVal.by_ (rc (at0 (kp (eR rn rc) n) i) k)) (rn (at0 (kp (eR rn rc) n) i))) (AVal.famx (fun k=>AVal.by_ (rc (at0 (kp (eR rn rc) n) i) k)) (rn (at0 (kp (eR rn rc) n) i))):=fun i _=>SubA.famx fun _ _=>byA
 refine⟨⟨hrn,h1,h100,hc⟩,Nat.le_refl _,sf,Nat.le_refl _,fun x hx=>?_⟩
 obtain⟨hx1,hx2,hx3⟩:=hx
 have hx1:x.1=fS (eR rn rc) n:=hx1
 refine⟨fun ht=>?_,fun hf=>?_⟩
 ·rw[ht] at hx3
  have hlt:fS (eR rn rc) n<n:=by rw[←hx1];exact a_z.1 hx3.symm
  rcases sp with⟨e,_⟩|⟨_,s1,s2,s3⟩
  ·omega
  refine⟨G_3 s3 hlt s1 s2,⟨by rw[hx1],by rw[hx1];exact congrArg _ (a_o ac ac),Nat.le_refl _,fun q hq _=>?_,Nat.le_refl _,by rw[hx2 ht,hx1]⟩,fun y hy=>⟨⟨hy.2.1,hc⟩,ac,ac,kf,hy.1,by rw[←hy.1];exact hy.2.1,fun q hq _=>?_,Nat.le_refl _⟩⟩
  ·show SubA _ (AVal.famx (fun k=>AVal.by_ (rc q k)) (rn q)) (AVal.famx (fun k=>AVal.by_ (rc (at0 (List.range n) q) k)) (rn (at0 (List.range n) q)))
   rw[i_w hq];exact SubA.famx fun _ _=>byA
  ·have hq1:q<y.1:=by rw[hy.1];exact hq
   have he:at0 (kp (eR rn rc) n) q=at0 y.2 q:=by rw[←hy.2.2,p_o hq1]
   refine t_u (by rw[a_z.2 hq1];rfl) ?_
   show SubA _ (AVal.famx _ _) (AVal.famx (fun k=>AVal.by_ (rc (at0 (kp (eR rn rc) n) q) k)) (rn (at0 (kp (eR rn rc) n) q)))
   rw[he];exact SubA.famx fun _ _=>byA
 ·rw[hf] at hx3
  have hge:¬fS (eR rn rc) n<n:=by rw[←hx1];exact Nat.not_lt.2 (a_C.1 hx3.symm)
  rcases sp with⟨e,s3⟩|⟨h,_⟩
  ·have ek:kp (eR rn rc) n=List.range n:=q_g s3
   refine⟨kf,by rw[ek,List.length_range],d_X,fun q hq _=>?_,Nat.le_refl _⟩
   have hq:q<n:=Nat.lt_of_lt_of_le hq d_X
   show SubA _ (AVal.famx (fun k=>AVal.by_ (rc q k)) (rn q)) (AVal.famx (fun k=>AVal.by_ (rc (at0 (kp (eR rn rc) n) q) k)) (rn (at0 (kp (eR rn rc) n) q)))
   rw[ek,i_w hq];exact SubA.famx fun _ _=>byA
  ·exact absurd h hge
theorem v_S:a_t Tryz.prog 452:=⟨Tryz.f452,aa,rfl,aa⟩
theorem C_E(T:TD):(dfS T).Body Tryz.prog 452/\(dfS T).BodyD Tryz.prog 452:=by
 refine a_c (fn:=Tryz.f452) (b:=a_b Tryz.f452) (LT:=fun a=>[([0,1,0,1,1,1],(dfD T a.1 a.2.1 a.2.2.1 a.2.2.2).at (fS (eR a.1 a.2.1) a.2.2.1,fS (eR a.1 a.2.1) a.2.2.1+1,List.range a.2.2.1))]) a_l (q_N T) 1000 (fun a ha=>LTok.cons (fun fr H K hk=>LoopD.ok (C_D T a.1 a.2.1 a.2.2.1 a.2.2.2 ha) hk) (LTok.nil)) aa aa ?_
 exact fun a ha=>Ho.of (dfR T a.1 a.2.1 a.2.2.1 a.2.2.2) aa (H_S T a.1 a.2.1 a.2.2.1 a.2.2.2 ha)
def ezR(T:TD)(rn:Nat->Nat)(rc:Nat->Nat->By)(n:Nat)(c:Nat):Prop:=
 letI t:=a_f T=a_f T;letI r:=Value.int .i64 (Int.ofNat 0);letI g:=∃(x:Unit),True/\t/\True/\True/\False;letI f:=fun(q:Nat)=>AVal.famx (fun(k:Nat)=>AVal.by_ ((rc,n,c).fst q k)) ((rn,rc,n,c).fst q);letI d:=rowsN f;letI e:=rowsC f;letI b:=(d,e,n,c).fst;letI a:=kp (eR d e) n;t/\((∀(q:Nat),b q<=1000)/\1<=n/\n<=100/\n<=c)/\gd (Nat.beq n n) (c=c/\n<=n/\SubF f (fun(q:Nat)=>AVal.famx (fun(k:Nat)=>AVal.by_ ((e,n,c).fst q k)) (b q)) n []/\gd (Nat.ble c c) (r=r/\∀(x:(Nat->Nat)×(Nat->Nat->By)×Nat×Nat),letI u:=x.fst 0;letI s:=Int.ofNat x.snd.2.fst;letI p:=fun(c:Nat)=>h_P (AVal.by_ (x.2.fst 0 c));letI m:=(p,u);letI h:=m.snd;x=(fun(q:Nat)=>b (at0 a q),fun(q:Nat)=>rowsC f (at0 a q),List.length a,c)->br (s==Int.ofNat 1) (gd (decide (Int.ofNat 0<s)) (gd (Nat.blt 0 x.snd.2.fst) (t/\Nat.le h 1000/\u=h/\SubF (fun(k:Nat)=>AVal.by_ (x.2.fst 0 k)) (fun(c:Nat)=>AVal.by_ (m.fst c)) u []/\∀(x_1:Bool),x_1=rowE p h->br x_1 (∃(x:Unit),True/\t/\True/\True/\True) g))) g))
theorem q_O(T:TD):TabOk Tryz.prog (ezU T):=by
 refine⟨fun f s h=>?_,fun f s h=>?_⟩
 ·unfold ezU at h
  simp only at h
  split at h
  ·cases h;exact a_d n_3 (s_Q T).1
  ·cases h;exact a_d v_S (C_E T).1
  ·cases h
 ·cases h
theorem H_T(T:TD)(rn:Nat->Nat)(rc:Nat->Nat->By)(n c:Nat)(hd:((∀q,rn q<=1000)/\1<=n/\n<=100/\n<=c)/\allE rn rc n=true):ezR T rn rc n c:=by
 unfold ezR
 simp only[h_P,b_l,b_m]
 simp only[sj3,eq_self,implies_true,forall_eq,b_F,b_P,Nat.le_eq,sj2,a_e,sj0]
 obtain⟨⟨hrn,h1,h100,hc⟩,ha⟩:=hd
 unfold allE at ha
 rw[Bool.and_eq_true] at ha
 obtain⟨hl,he⟩:=ha
 exact⟨⟨hrn,h1,h100,hc⟩,Nat.le_refl _,fun _ _ _=>SubA.famx fun _ _=>byA,Nat.le_refl _,fun _=>⟨d_Y h1,d_Y h1,hrn _,fun _ _ _=>byA,fun hf=>Bool.noConfusion (he.symm.trans hf)⟩,fun hn=>hn (a_k.1 hl)⟩
theorem q_P:a_t Tryz.prog 438:=⟨Tryz.f438,aa,rfl,aa⟩
theorem C_F(T:TD):(ezS T).Body Tryz.prog 438/\(ezS T).BodyD Tryz.prog 438:=by
 refine a_c (fn:=Tryz.f438) (b:=a_b Tryz.f438) (LT:=fun _=>[]) a_l (q_O T) 1000 (fun a ha=>LTok.nil) aa aa ?_
 exact fun a ha=>Ho.of (ezR T a.1 a.2.1 a.2.2.1 a.2.2.2) aa (H_T T a.1 a.2.1 a.2.2.1 a.2.2.2 ha)
def erR(T:TD)(rn:Nat->Nat)(rc:Nat->Nat->By)(n:Nat)(c:Nat):Prop:=
 letI d1:=a_f T=a_f T;letI e1:=kp (eR rn rc) n;letI b1:=(rn,rc,n,c).fst;letI c1:=List (Nat×AVal);letI z:=Value.int .i64 (Int.ofNat 0);letI y:=([]:List AVal)=([]:List AVal);letI v:=(Nat->Nat)×(Nat->Nat->By)×Nat×Nat;letI u:=([]:c1)=([]:c1);letI g:=fun(q:Nat)=>AVal.famx (fun(k:Nat)=>AVal.by_ ((rc,n,c).fst q k)) (b1 q);letI e:=rowsN g;letI f:=rowsC g;letI d:=(fun(q:Nat)=>b1 (at0 e1 q),fun(q:Nat)=>rc (at0 e1 q),List.length e1,c);letI b:=(e,f,n,c).fst;letI a:=kp (eR e f) n;d1/\((∀(q:Nat),b q<=1000)/\1<=n/\n<=100/\n<=c)/\gd (Nat.beq n n) (c=c/\n<=n/\SubF g (fun(q:Nat)=>AVal.famx (fun(k:Nat)=>AVal.by_ ((f,n,c).fst q k)) (b q)) n []/\gd (Nat.ble c c) (z=z/\∀(x:v),letI a1:=Int.ofNat x.snd.2.fst;letI w:=fun(c:Nat)=>h_P (AVal.by_ (x.2.fst 0 c));letI t:=(w,x.fst 0);letI r:=t.snd;letI h:=fun(q:Nat)=>AVal.famx (fun(k:Nat)=>AVal.by_ (x.2.fst q k)) (x.fst q);x=(fun(q:Nat)=>b (at0 a q),fun(q:Nat)=>rowsC g (at0 a q),List.length a,c)->br (a1==Int.ofNat 1) (gd (decide (Int.ofNat 0<a1)) (gd (Nat.blt 0 x.snd.2.fst) (d1/\Nat.le r 1000/\x.fst 0=r/\SubF (fun(k:Nat)=>AVal.by_ (x.2.fst 0 k)) (fun(c:Nat)=>AVal.by_ (t.fst c)) (x.fst 0) []/\∀(x_1:Bool),x_1=rowE w r->br x_1 (∃(x:v),x=d/\d1/\True/\(u/\y/\∀(i:Nat),letI s:=AVal.famx (fun(k:Nat)=>AVal.by_ (x.2.fst i k)) (x.fst i);i<x.snd.2.fst->SubA 0 s s)/\False) (∃(x_2:v),x_2=d/\d1/\True/\(u/\y/\∀(i:Nat),letI m:=AVal.famx (fun(k:Nat)=>AVal.by_ (x_2.2.fst i k)) (x_2.fst i);i<x_2.snd.2.fst->SubA 0 m m)/\gd (Nat.beq x.snd.2.fst x_2.snd.2.fst) (x.snd.2.snd=x_2.snd.2.snd/\x_2.snd.2.fst<=x.snd.2.fst/\SubF h (fun(q:Nat)=>AVal.famx (fun(k:Nat)=>AVal.by_ (x_2.2.fst q k)) (x_2.fst q)) x_2.snd.2.fst []/\gd (Nat.ble x_2.snd.2.snd x.snd.2.snd) True))))) (∃(x_1:v),x_1=d/\d1/\True/\(u/\y/\∀(i:Nat),letI p:=AVal.famx (fun(k:Nat)=>AVal.by_ (x_1.2.fst i k)) (x_1.fst i);i<x_1.snd.2.fst->SubA 0 p p)/\gd (Nat.beq x.snd.2.fst x_1.snd.2.fst) (x.snd.2.snd=x_1.snd.2.snd/\x_1.snd.2.fst<=x.snd.2.fst/\SubF h (fun(q:Nat)=>AVal.famx (fun(k:Nat)=>AVal.by_ (x_1.2.fst q k)) (x_1.fst q)) x_1.snd.2.fst []/\gd (Nat.ble x_1.snd.2.snd x.snd.2.snd) True))))
theorem H_U(T:TD)(rn:Nat->Nat)(rc:Nat->Nat->By)(n c:Nat)(hd:((∀q,rn q<=1000)/\1<=n/\n<=100/\n<=c)/\allE rn rc n=false):erR T rn rc n c:=by
 unfold erR
 simp only[h_P,b_l,b_m]
 simp only[sj3,eq_self,implies_true,forall_eq,b_F,b_P,Nat.le_eq,sj2,a_e,sj0]
 obtain⟨⟨hrn,h1,h100,hc⟩,ha⟩:=hd
 have kf:∀i,i<(kp (eR rn rc) n).length->SubA 0 (AVal.famx (fun k=>AVal.by_ (rc (at0 (kp (eR rn rc) n) i) k)) (rn (at0 (kp (eR rn rc) n) i))) (AVal.famx (fun k=>AVal.by_ (rc (at0 (kp (eR rn rc) n) i) k)) (rn (at0 (kp (eR rn rc) n) i))):=fun i _=>SubA.famx fun _ _=>byA
 have no:(kp (eR rn rc) n).length=1->eR rn rc (at0 (kp (eR rn rc) n) 0)=true->False:=fun h he=>by
  unfold allE at ha
  rw[a_k.2 h,Bool.true_and,he] at ha
  cases ha
 exact⟨⟨hrn,h1,h100,hc⟩,Nat.le_refl _,fun _ _ _=>SubA.famx fun _ _=>byA,Nat.le_refl _,fun hl=>⟨d_Y h1,d_Y h1,hrn _,fun _ _ _=>byA,fun ht=>no hl ht,fun _=>⟨kf,Nat.le_refl _,fun _ _ _=>SubA.famx fun _ _=>byA,Nat.le_refl _⟩⟩,fun _=>⟨kf,Nat.le_refl _,fun _ _ _=>SubA.famx fun _ _=>byA,Nat.le_refl _⟩⟩
theorem C_G(T:TD):(erS T).Body Tryz.prog 438/\(erS T).BodyD Tryz.prog 438:=by
 refine a_c (fn:=Tryz.f438) (b:=a_b Tryz.f438) (LT:=fun _=>[]) a_l (q_O T) 1000 (fun a ha=>LTok.nil) aa aa ?_
 exact fun a ha=>Ho.of (erR T a.1 a.2.1 a.2.2.1 a.2.2.2) aa (H_U T a.1 a.2.1 a.2.2.1 a.2.2.2 ha)
def rfR(T:TD)(rn:Nat->Nat)(rc:Nat->Nat->By)(n:Nat)(c:Nat):Prop:=
 letI k1:=Int.ofNat n;letI m1:=0+(n-1);letI h1:=(rc,n,c).fst;letI g1:=a_f T=a_f T;letI e1:=(rn,rc,n,c).fst;letI f1:=List (Nat×AVal);letI d1:=e1 0;letI a1:=Int.ofNat m1;letI z:=m1+(n-m1);letI y:=([]:List AVal)=([]:List AVal);letI w:=decide (k1<=Int.ofNat c);letI v:=decide (a1<=k1);letI u:=Nat.ble (c*1) c&&Nat.blt c 9223372036854775808;letI t:=(Nat->Nat)×(Nat->Nat->By)×Nat×Nat;letI s:=([]:f1)=([]:f1);letI r:=fun(c_1:Nat)=>h_P (AVal.by_ (h1 0 c_1));letI g:=decide (Int.ofNat 1<=k1)&&w;letI e:=(r,d1).snd;letI d:=(fun(q:Nat)=>e1 (q+b1 rn rc),fun(q:Nat)=>rc (q+b1 rn rc),n-b1 rn rc,c);letI b:=∃(x:t),x=d/\g1/\True/\(s/\y/\∀(i:Nat),letI p:=AVal.famx (fun(k:Nat)=>AVal.by_ (x.2.fst i k)) (x.fst i);i<x.snd.2.fst->SubA 0 p p)/\gd (Nat.beq n x.snd.2.fst) (c=x.snd.2.snd/\x.snd.2.fst<=n/\SubF (fun(q:Nat)=>AVal.famx (fun(k:Nat)=>AVal.by_ (h1 q k)) (e1 q)) (fun(q:Nat)=>AVal.famx (fun(k:Nat)=>AVal.by_ (x.2.fst q k)) (x.fst q)) x.snd.2.fst []/\gd (Nat.ble x.snd.2.snd c) True);letI a:=gd g (gd (Nat.ble (1+(n-1)) n) (gd (Nat.ble (m1*24) 140737488355328&&(Nat.ble m1 140737488355328&&true)) ((∀(k:Nat),k<n-1->true=true)/\br (Nat.ble m1 c&&Nat.ble m1 n) (gd u (gd (v&&w) (gd (Nat.ble z n&&true) (∃(x:t),x=d/\g1/\True/\(s/\y/\∀(i:Nat),letI h:=AVal.famx (fun(k:Nat)=>AVal.by_ (x.2.fst i k)) (x.fst i);i<x.snd.2.fst->SubA 0 h h)/\gd (Nat.beq m1 x.snd.2.fst) (c=x.snd.2.snd/\x.snd.2.fst<=n/\SubF (fun(i:Nat)=>letI c1:=Nat.blt i m1;letI f:=AVal.famx (fun(k:Nat)=>AVal.by_ (h1 i k)) (e1 i);AVal.ite (c1||Nat.ble z i) (AVal.ite false f (AVal.ite c1 (AVal.famx (fun(k:Nat)=>AVal.by_ (h1 (1+i) k)) (e1 (1+i))) f)) (AVal.lit (Value.slice none 0 0))) (fun(q:Nat)=>AVal.famx (fun(k:Nat)=>AVal.by_ (x.2.fst q k)) (x.fst q)) x.snd.2.fst []/\gd (Nat.ble x.snd.2.snd c) True))))) (gd (Nat.beq 0 n&&u) (gd (v&&decide (k1<=a1)) (gd (Nat.ble z m1&&true) (∃(x:t),x=d/\g1/\True/\(s/\y/\∀(i:Nat),letI m:=AVal.famx (fun(k:Nat)=>AVal.by_ (x.2.fst i k)) (x.fst i);i<x.snd.2.fst->SubA 0 m m)/\gd (Nat.beq m1 x.snd.2.fst) False)))))));br (decide (k1>Int.ofNat 0)) (gd (decide (Int.ofNat 0<k1)) (gd (Nat.blt 0 n) (g1/\Nat.le e 1000/\d1=e/\SubF (fun(k:Nat)=>AVal.by_ (h1 0 k)) (fun(c_1:Nat)=>AVal.by_ ((fun(c_2:Nat)=>h_P (AVal.by_ (h1 0 c_2)),d1).fst c_1)) d1 []/\∀(x:Bool),x=rowE r e->br x (gd g (a/\a)) b))) b
theorem H_V(T:TD)(rn:Nat->Nat)(rc:Nat->Nat->By)(n c:Nat)(hd:((∀q,rn q<=1000)/\1<=n/\n<=100/\n<=c)/\c<=1000):rfR T rn rc n c:=by
 unfold rfR
 obtain⟨⟨hrn,h1,h100,hc⟩,hc2⟩:=hd
 have kf:∀b i:Nat,SubA 0 (AVal.famx (fun k=>AVal.by_ (rc (i+b) k)) (rn (i+b))) (AVal.famx (fun k=>AVal.by_ (rc (i+b) k)) (rn (i+b))):=fun b i=>SubA.famx fun _ _=>byA
 simp only[h_P]
 have hr:rowE (fun c=>rc 0 c) (rn 0)=eR rn rc 0:=rfl
 cases he:eR rn rc 0 with
 |false=>
  have hb:b1 rn rc=0:=by unfold b1;rw[he];rfl
  simp only[hr,he,hb,Nat.add_zero,Nat.sub_zero]
  simp only[sj3,eq_self,implies_true,forall_eq,b_F,b_P,Nat.le_eq,Bool.false_eq_true,false_implies,sj2,a_e,sj0]
  exact⟨fun _=>⟨h1,h1,hrn 0,fun _ _ _=>byA,fun _=>⟨fun i _=>kf 0 i,Nat.le_refl _,fun q _ _=>kf 0 q,Nat.le_refl _⟩⟩,fun _=>⟨fun i _=>kf 0 i,Nat.le_refl _,fun q _ _=>kf 0 q,Nat.le_refl _⟩⟩
 |true=>
  have hb:b1 rn rc=1:=by unfold b1;rw[he];rfl
  simp only[hr,he,hb,Nat.zero_add]
  simp only[sj3,eq_self,implies_true,forall_eq,b_F,b_P,Nat.le_eq,Bool.true_eq_false,false_implies,sj2,a_e,sj0]
  refine⟨fun _=>⟨h1,h1,hrn 0,fun _ _ _=>byA,fun _=>⟨⟨h1,hc⟩,?_,?_⟩⟩,fun h=>absurd h1 h⟩
  all_goals
   refine⟨⟨h1,hc⟩,ac,⟨ac,ac⟩,fun _=>⟨⟨ac,ac⟩,⟨ac,hc⟩,ac,fun i _=>kf 1 i,ac,fun q hq _=>?_,Nat.le_refl _⟩,fun hf=>?_⟩
   ·refine t_u (by rw[a_z.2 hq];rfl) (x_x rfl (t_u (a_z.2 hq) ?_))
    show SubA _ (AVal.famx (fun k=>AVal.by_ (rc (1+q) k)) (rn (1+q))) _
    rw[Nat.add_comm 1 q];exact kf 1 q
   ·rw[a_m.2 ac,a_m.2 ac] at hf;cases hf
theorem q_Q:a_t Tryz.prog 439:=⟨Tryz.f439,aa,rfl,aa⟩
theorem C_H(T:TD):(rfS T).Body Tryz.prog 439/\(rfS T).BodyD Tryz.prog 439:=by
 refine a_c (fn:=Tryz.f439) (b:=a_b Tryz.f439) (LT:=fun _=>[]) a_l (n_4 T) 1000 (fun a ha=>LTok.nil) aa aa ?_
 exact fun a ha=>Ho.of (rfR T a.1 a.2.1 a.2.2.1 a.2.2.2) aa (H_V T a.1 a.2.1 a.2.2.1 a.2.2.2 ha)
def rgR(T:TD):Prop:=
 ∃(x:Unit),True/\a_f T=a_f T/\True/\True/\True
theorem v_T(T:TD):TabOk Tryz.prog (rgU T):=by
 refine⟨fun f s h=>?_,fun f s h=>?_⟩
 ·unfold rgU at h
  simp only at h
  split at h
  ·cases h;exact f_9
  ·cases h
 ·cases h
theorem H_W(T:TD):rgR T:=by
 unfold rgR
 try simp only[a_j,a_p,Bool.and_eq_true,sj5,a_m,a_e,sj4,sj8]
 repeat' (first|done|omega|exact rfl|exact trivial|assumption|exact()|intro _|refine⟨?_,?_⟩)
theorem C_I(T:TD):(rgS T).Body Tryz.prog 439/\(rgS T).BodyD Tryz.prog 439:=by
 refine a_c (fn:=Tryz.f439) (b:=a_b Tryz.f439) (LT:=fun _=>[]) a_l (v_T T) 1000 (fun a ha=>LTok.nil) aa aa ?_
 exact fun a ha=>Ho.of (rgR T) aa (H_W T)
end Tk

