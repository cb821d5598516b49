/- Lemmas of this claim; the last text says what is proved. -/
import Derived.Test.YtblencgndjjleaaGreatDoorK29
set_option linter.all false
set_option maxRecDepth 1000000
namespace Tk
open Go Go.Sx Go.Proofs
open Q
variable [Syms]
def D_4(T:TD)(rn:Nat->Nat)(rc:Nat->Nat->By)(m:Nat)(c:Nat)(q:Nat)(k:Nat):Prop:=
 letI d1:=T.R-hN T;letI c1:=Nat.beq m m;letI b1:=a_f T=a_f T;letI z:=Int.ofNat (rn q);letI a1:=(rc q k,10).fst;letI y:=d1=d1;letI v:=Value.int .i64 (Int.ofNat m);letI w:=Value.int .i64 (Int.ofNat q);letI u:=Value.int .i64 z;letI t:=fun(k:Nat)=>AVal.by_ (rc q k);letI s:=Value.int IntKind.u8 (Int.ofNat 10);letI r:=decide (Int.ofNat k<z);letI p:=fun(q:Nat)=>AVal.sp (SId.mk 4 (q+hN T) 0) 0;letI h:=v=v;letI n:=w=w;letI g:=fun(q:Nat)=>AVal.famx (fun(k:Nat)=>AVal.by_ (rc q k)) (rn q);letI f:=SubF p p d1 [];letI e:=m<=m/\SubF g g m []/\gd (Nat.ble c c) True;letI d:=y/\f/\gd c1 (c=c/\gd c1 (c=c/\h/\n/\e));br r (gd r (gd (Nat.blt k (rn q)) (b1/\((∀(b:UInt8),b∈a1->UInt8.toNat b≠10)/\List.length a1<=70368744177664/\10<256)/\rc q k=a1/\s=s/\∀(x:Unit),True->∃(j':Nat),letI a:=y/\f/\gd c1 (c=c/\gd c1 (c=c/\h/\n/\rn q=rn q/\SubF t t (rn q) []/\u=u/\Value.int .i64 (IntKind.wrap .i64 (Int.ofNat (k+1)))=Value.int .i64 (Int.ofNat j')/\e));Nat.le j' (rn q)/\rn q-j'<rn q-k/\b1/\br T.hd (br T.hd a False) (br T.hd False a)))) (∃(x:Unit),True/\b1/\br T.hd (br T.hd d False) (br T.hd False d))
def D_5(T:TD)(rn:Nat->Nat)(rc:Nat->Nat->By)(m:Nat)(c:Nat)(q:Nat):Prop:=
 letI a1:=T.R-hN T;letI z:=Nat.beq m m;letI y:=a_f T=a_f T;letI w:=a1=a1;letI t:=Value.int .i64 (Int.ofNat m);letI u:=Value.int .i64 (Int.ofNat q);letI v:=Value.int .i64 (Int.ofNat 0);letI s:=Value.int .i64 (Int.ofNat (rn q));letI p:=decide (Int.ofNat q<Int.ofNat m);letI r:=fun(k:Nat)=>AVal.by_ (rc q k);letI n:=fun(q:Nat)=>AVal.sp (SId.mk 4 (q+hN T) 0) 0;letI h:=t=t;letI g:=fun(q:Nat)=>AVal.famx (fun(k:Nat)=>AVal.by_ (rc q k)) (rn q);letI f:=SubF n n a1 [];letI e:=m<=m/\SubF g g m []/\gd (Nat.ble c c) True;letI d:=w/\f/\gd z (c=c/\e);letI a:=w/\f/\gd z (c=c/\gd z (c=c/\h/\u=u/\rn q=rn q/\SubF r r (rn q) []/\s=s/\v=v/\e));br p (gd p (gd (Nat.blt q m) (Nat.le 0 (rn q)/\(y/\br T.hd (br T.hd a False) (br T.hd False a))/\∀(x:Unit),True->∃(j':Nat),letI b:=w/\f/\gd z (c=c/\gd z (c=c/\h/\Value.int .i64 (IntKind.wrap .i64 (Int.ofNat (q+1)))=Value.int .i64 (Int.ofNat j')/\e));Nat.le j' m/\m-j'<m-q/\y/\br T.hd (br T.hd b False) (br T.hd False b)))) (∃(x:Unit),True/\y/\br T.hd (br T.hd d False) (br T.hd False d))
def ktR(T:TD):Prop:=
 letI v1:=finR T;letI u1:=TD.Ok T;letI t1:=T.R-hN T;letI r1:=AVal.str [];letI s1:=Int.ofNat 0;letI q1:=True/\True;letI p1:=a_f T=a_f T;letI k1:=List (Nat×AVal);letI m1:=v1.snd.2.fst;letI n1:=v1.snd.2.snd;letI f1:=t1=t1;letI e1:=Nat.le 0 m1;letI c1:=Value.int .i64 s1;letI d1:=fun(x:Nat)=>r1;letI z:=([]:List AVal)=([]:List AVal);letI v:=Value.int .i64 (Int.ofNat m1);letI u:=fun(q:Nat)=>AVal.sp (SId.mk 4 (q+hN T) 0) 0;letI t:=(Nat->Nat)×(Nat->Nat->By)×Nat×Nat;letI s:=([]:k1)=([]:k1);letI r:=c1=c1;letI m:=u1/\(T.skip&&allE (rn T) (rc T) (t1+1))=false;letI h:=(∀(i:Nat),i<T.C 0->SubA 0 r1 r1)/\q1;letI g:=fun(q:Nat)=>AVal.famx (fun(k:Nat)=>AVal.by_ (v1.2.fst q k)) (v1.fst q);letI f:=(((((True/\q1)/\q1)/\q1)/\q1)/\q1)/\True;letI e:=SubF u u t1 [];letI d:=∃(x:t),x=v1/\p1/\True/\(f/\h/\s/\z/\∀(i:Nat),letI n:=AVal.famx (fun(k:Nat)=>AVal.by_ (x.2.fst i k)) (x.fst i);i<x.snd.2.fst->SubA 0 n n)/\False;letI c:=f1/\e/\∀(x:Unit),True->p1/\u1/\∀(x:Unit),True->∃(x:t),x=v1/\p1/\True/\(f/\h/\s/\z/\∀(i:Nat),letI p:=AVal.famx (fun(k:Nat)=>AVal.by_ (x.2.fst i k)) (x.fst i);i<x.snd.2.fst->SubA 0 p p)/\T.C 0=T.C 0/\SubF d1 d1 (T.C 0) []/\gd (Nat.beq m1 x.snd.2.fst) (n1=x.snd.2.snd/\x.snd.2.fst<=m1/\SubF g (fun(q:Nat)=>AVal.famx (fun(k:Nat)=>AVal.by_ (x.2.fst q k)) (x.fst q)) x.snd.2.fst []/\gd (Nat.ble x.snd.2.snd n1) True);letI b:=∀(x:Unit),True->br T.hd (p1/\u1/\br T.hd c False) (p1/\u1/\br T.hd False c);letI a:=p1/\u1/\∀(x:Unit),True->p1/\u1/\∀(x:Unit),True->br T.hd (p1/\u1/\br T.hd (∀(x:Unit),True->p1/\m/\br T.hd (f1/\e/\∀(x:t),letI g1:=Int.ofNat x.snd.2.fst;letI a1:=x.snd.2.snd=n1;letI w:=Nat.beq x.snd.2.fst m1;x=v1->br (g1==s1) d (e1/\(p1/\br T.hd (f1/\e/\gd w (a1/\gd w (a1/\Value.int .i64 g1=v/\r/\m1<=x.snd.2.fst/\SubF (fun(q:Nat)=>AVal.famx (fun(k:Nat)=>AVal.by_ (x.2.fst q k)) (x.fst q)) g m1 []/\gd (Nat.ble n1 x.snd.2.snd) True))) False)/\b)) False) False) (p1/\u1/\br T.hd False (∀(x:Unit),True->p1/\m/\br T.hd False (f1/\e/\∀(x:t),letI h1:=Int.ofNat x.snd.2.fst;letI b1:=x.snd.2.snd=n1;letI y:=Nat.beq x.snd.2.fst m1;x=v1->br (h1==s1) d (e1/\(p1/\br T.hd False (f1/\e/\gd y (b1/\gd y (b1/\Value.int .i64 h1=v/\r/\m1<=x.snd.2.fst/\SubF (fun(q:Nat)=>AVal.famx (fun(k:Nat)=>AVal.by_ (x.2.fst q k)) (x.fst q)) g m1 []/\gd (Nat.ble n1 x.snd.2.snd) True))))/\b))));br T.role (br (!T.pres) d a) a
theorem n_9(T:TD):TabOk Tryz.prog (ktU T):=by
 refine⟨fun f s h=>?_,fun f s h=>?_⟩
 ·unfold ktU at h
  simp only at h
  split at h
  ·cases h;exact a_d f_J (s_H T).1
  ·cases h;exact a_d q_x (v_s T).1
  ·cases h;exact a_d q_y (v_z T).1
  ·cases h;exact a_d n_5 (C_S T).1
  ·cases h;exact a_d v_W (C_1 T).1
  ·cases h;exact a_d v_X (D_d T).1
  ·cases h;exact a_d v_Z (D_g T).1
  ·cases h
 ·cases h
theorem D_6(T:TD)(rn:Nat->Nat)(rc:Nat->Nat->By)(m c:Nat)(q k:Nat)(hd:b_C rn rc m c)(h:k<=rn q):D_4 T rn rc m c q k:=by
 unfold D_4
 obtain⟨hw,hn,hm,hmc,hc⟩:=hd
 have e1:∀m:Nat,m<=1000->IntKind.wrap IntKind.i64 (Int.ofNat m)=Int.ofNat m:=fun m h=>a_o ab ab
 have sr:SubF (fun q=>AVal.famx (fun k=>AVal.by_ (rc q k)) (rn q)) (fun q=>AVal.famx (fun k=>AVal.by_ (rc q k)) (rn q)) m []:=fun _ _ _=>SubA.famx fun _ _=>byA
 have sn:SubF (fun q=>AVal.sp {k:=4,i:=q+hN T,j:=0} 0) (fun q=>AVal.sp {k:=4,i:=q+hN T,j:=0} 0) (T.R-hN T) []:=fun _ _ _=>a_7
 have hq:=hn q
 have w10:∀b∈rc q k,b.toNat≠10:=fun b hb=>by have:=(hw q k).1 b hb;unfold wc at this;omega
 have hl:=(hw q k).2
 simp only[e1 (k+1) ac]
 simp only[sj3,eq_self,implies_true,forall_eq,b_F,b_P,Nat.le_eq,sj2,a_e,sj0]
 repeat' (first|omega|exact trivial|exact rfl|exact sr|exact w10|exact sn|exact fun _ _ _=>byA|(exfalso;simp_all;done)|refine⟨k+1,?_⟩|intro _|refine And.intro ?_ ?_)
theorem D_7(T:TD)(rn:Nat->Nat)(rc:Nat->Nat->By)(m c:Nat)(q:Nat)(hd:b_C rn rc m c):(ktI T rn rc m c q).Body Tryz.prog (sub (a_b Tryz.f413) [0,0,1,1,0,0,1,1,0,0,1,0,1,1,1,1,1,1,1,1]):=by
 refine LoopD.bodyH (root:=(a_b Tryz.f413)) [0,0,1,1,0,0,1,1,0,0,1,0,1,1,1,1,1,1,1,1] a_l (n_9 T) (LTok.nil) 1000 ?_
 exact fun k hk=>Ho.of (D_4 T rn rc m c q k) aa (D_6 T rn rc m c q k hd hk)
theorem D_8(T:TD)(rn:Nat->Nat)(rc:Nat->Nat->By)(m c:Nat)(q:Nat)(hd:b_C rn rc m c)(h:q<=m):D_5 T rn rc m c q:=by
 unfold D_5
 obtain⟨hw,hn,hm,hmc,hc⟩:=hd
 have e1:∀m:Nat,m<=1000->IntKind.wrap IntKind.i64 (Int.ofNat m)=Int.ofNat m:=fun m h=>a_o ab ab
 have sr:SubF (fun q=>AVal.famx (fun k=>AVal.by_ (rc q k)) (rn q)) (fun q=>AVal.famx (fun k=>AVal.by_ (rc q k)) (rn q)) m []:=fun _ _ _=>SubA.famx fun _ _=>byA
 have sn:SubF (fun q=>AVal.sp {k:=4,i:=q+hN T,j:=0} 0) (fun q=>AVal.sp {k:=4,i:=q+hN T,j:=0} 0) (T.R-hN T) []:=fun _ _ _=>a_7
 simp only[e1 (q+1) ac]
 simp only[sj3,eq_self,implies_true,forall_eq,b_F,b_P,Nat.le_eq,sj2,a_e,sj0]
 repeat' (first|omega|exact trivial|exact rfl|exact sr|exact sn|exact fun _ _ _=>byA|(exfalso;simp_all;done)|refine⟨q+1,?_⟩|intro _|refine And.intro ?_ ?_)
theorem D_9(T:TD)(rn:Nat->Nat)(rc:Nat->Nat->By)(m c:Nat)(hd:b_C rn rc m c):(ktD T rn rc m c).Body Tryz.prog (sub (a_b Tryz.f413) [0,0,1,0,1,1,1,1,1,1,1,1]):=by
 refine LoopD.bodyHj (root:=(a_b Tryz.f413)) (LT:=fun q=>[([0,1,1,0,0,1,1,0,0,1,0,1,1,1,1,1,1,1,1],(ktI T rn rc m c q).at (0:Nat))]) [0,0,1,0,1,1,1,1,1,1,1,1] a_l (n_9 T) (fun q hi=>LTok.cons (fun fr H K hk=>LoopD.ok (D_7 T rn rc m c q hd) hk) (LTok.nil)) 1000 ?_
 exact fun q hq=>Ho.of (D_5 T rn rc m c q) aa (D_8 T rn rc m c q hd hq)
theorem I_c(T:TD)(hT:T.Ok/\noT T=false):ktR T:=by
 unfold ktR
 obtain⟨h1,h2⟩:=hT
 unfold noT at h2
 rw[Bool.or_eq_false_iff] at h2
 obtain⟨h0,h2⟩:=h2
 have h3:(T.skip&&allE (rn T) (rc T) (T.R-hN T+1))=false:=by
  cases hs:T.skip with
  |false=>rfl
  |true=>unfold nilR at h2;rw[hs,cond_true] at h2;exact h2
 have hp:=h_k h2
 obtain⟨hw,hn,hm,hmc,hc⟩:=e_q h1
 have sr:SubF (fun q=>AVal.famx (fun k=>AVal.by_ ((finR T).2.1 q k)) ((finR T).1 q)) (fun q=>AVal.famx (fun k=>AVal.by_ ((finR T).2.1 q k)) ((finR T).1 q)) (finR T).2.2.1 []:=fun _ _ _=>SubA.famx fun _ _=>byA
 have sn:SubF (fun q=>AVal.sp {k:=4,i:=q+hN T,j:=0} 0) (fun q=>AVal.sp {k:=4,i:=q+hN T,j:=0} 0) (T.R-hN T) []:=fun _ _ _=>a_7
 simp only[sj3,eq_self,implies_true,forall_eq,b_F,b_P,Nat.le_eq,sj2,a_e,sj0]
 repeat' (first|omega|exact h1|exact h3|exact trivial|exact rfl|exact sr|exact sn|exact fun _ _ _=>SubA.famx fun _ _=>byA|exact fun _ _=>SubA.famx fun _ _=>byA|exact fun _ _ _=>a_g rfl|exact fun _ _=>a_g rfl|(exfalso;simp_all;done)|intro _|refine And.intro ?_ ?_)
theorem E_a(T:TD):(ktS T).Body Tryz.prog 413/\(ktS T).BodyD Tryz.prog 413:=by
 refine a_c (fn:=Tryz.f413) (b:=a_b Tryz.f413) (LT:=fun _=>[([0,1,0,1,1,1,1,1,1,1,1],(ktD T (finR T).1 (finR T).2.1 (finR T).2.2.1 (finR T).2.2.2).at (0:Nat))]) a_l (n_9 T) 1000 (fun _ ha=>LTok.cons (fun fr H K hk=>LoopD.ok (D_9 T (finR T).1 (finR T).2.1 (finR T).2.2.1 (finR T).2.2.2 (e_q ha.1)) hk) (LTok.nil)) aa aa ?_
 exact fun a ha=>Ho.of (ktR T) aa (I_c T ha)
def E_b(T:TD)(l:By)(i:Nat):Prop:=
 letI f:=Int.ofNat i;letI e:=List.length l;letI d:=a_f T=a_f T;letI c:=Int.ofNat e;letI b:=Value.int .i64 c;letI a:=decide (f<c);br a (gd a (gd (Nat.blt i e) (br (decide (Int.ofNat (UInt8.toNat (List.getD l i (0:UInt8)))≥Int.ofNat 128)) (gd (decide (f<=c)&&decide (c<=c)) False) (∃(j':Nat),Nat.le j' e/\e-j'<e-i/\d/\l=l/\b=b/\Value.int .i64 (IntKind.wrap .i64 (Int.ofNat (i+1)))=Value.int .i64 (Int.ofNat j')/\True)))) (∃(x:Unit),True/\d/\Value.int .i64 f=b/\True)
def rcR(T:TD)(l:By):Prop:=
 letI d:=List.length l;letI c:=a_f T=a_f T;letI b:=Value.int .i64 (Int.ofNat 0);letI a:=Value.int .i64 (Int.ofNat d);Nat.le 0 d/\(c/\l=l/\a=a/\b=b/\True)/\∀(x:Unit),True->∃(x:Nat),x=d/\c/\True/\True/\a=Value.int .i64 (Int.ofNat x)/\True
theorem q_0(T:TD):TabOk Tryz.prog (rcU T):=by
 refine⟨fun f s h=>?_,fun f s h=>?_⟩
 ·unfold rcU at h
  simp only at h
  split at h
  ·cases h;exact f_9
  ·cases h
 ·cases h
theorem E_c(T:TD)(l:By)(i:Nat)(hd:(∀b∈l,b.toNat<128)/\l.length<=a_i)(hi:i<=l.length):E_b T l i:=by
 unfold E_b
 obtain⟨h1,h2⟩:=hd
 simp only[a_i] at h2
 have e1:i<l.length->IntKind.wrap IntKind.i64 (Int.ofNat (i+1))=Int.ofNat (i+1):=fun h=>ae
 have hb:i<l.length->(l.getD i 0).toNat<128:=fun h=>h1 _ (b_a h)
 simp only[sj3,sj2,a_e,sj0]
 exact⟨fun g=>⟨g,g,fun e=>absurd (hb g) ac,fun _=>⟨i+1,Nat.succ_le_of_lt g,ac,congrArg _ (e1 g)⟩⟩,fun g=>by rw[show i=l.length by omega]⟩
theorem E_d(T:TD)(l:By)(hd:(∀b∈l,b.toNat<128)/\l.length<=a_i):(rcD T l).Body Tryz.prog (sub (a_b Tryz.f427) [0,0,0,1,1,1]):=by
 refine LoopD.bodyH (root:=(a_b Tryz.f427)) [0,0,0,1,1,1] a_l (q_0 T) (LTok.nil) 1000 ?_
 exact fun i hi=>Ho.of (E_b T l i) aa (E_c T l i hd hi)
theorem I_d(T:TD)(l:By):rcR T l:=by
 unfold rcR
 try simp only[a_j,a_p,Bool.and_eq_true,sj5,a_m,a_e,sj4,sj8]
 repeat' (first|done|omega|exact rfl|exact trivial|assumption|exact Nat.zero_le _|exact()|intro _|refine⟨?_,?_⟩)
theorem q_1:a_t Tryz.prog 427:=⟨Tryz.f427,aa,rfl,aa⟩
theorem w_a(T:TD):(rcS T).Body Tryz.prog 427/\(rcS T).BodyD Tryz.prog 427:=by
 refine a_c (fn:=Tryz.f427) (b:=a_b Tryz.f427) (LT:=fun l=>[([0,0,1,1,1],(rcD T l).at (0:Nat))]) a_l (q_0 T) 1000 (fun l ha=>LTok.cons (fun fr H K hk=>LoopD.ok (E_d T l ha) hk) (LTok.nil)) aa aa ?_
 exact fun a ha=>Ho.of (rcR T a) aa (I_d T a)
def E_e(T:TD)(rn:Nat->Nat)(rc:Nat->Nat->By)(m:Nat)(c:Nat)(q:Nat)(V:List Nat)(k:Nat)(W:List Nat):Prop:=
 letI h2:=m<=m;letI g2:=rn q-k;letI b2:=Int.ofNat k;letI d2:=Nat.beq m m;letI e2:=rn q=rn q;letI f2:=Nat.ble c c;letI z1:=List.length W;letI a2:=List.length V;letI w1:=a_f T=a_f T;letI y1:=Nat×List Nat;letI q1:=Int.ofNat (rn q);letI n1:=z1+0;letI p1:=z1+1;letI m1:=List.length (rc q k);letI g1:=Int.ofNat z1;letI h1:=Nat.blt k z1;letI k1:=Nat.beq k z1;letI c1:=Value.int .i64 (Int.ofNat m);letI d1:=Value.int .i64 (Int.ofNat q);letI f1:=Value.int .i64 (Int.ofNat 1);letI a1:=Value.int .i64 q1;letI b1:=h1&&true;letI z:=fun(k:Nat)=>AVal.by_ (rc q k);letI y:=decide (b2<q1);letI u:=decide (b2<g1);letI t:=decide (b2<Int.ofNat p1);letI s:=Value.int .i64 (IntKind.wrap .i64 (Int.ofNat (k+1)));letI p:=c1=c1;letI r:=d1=d1;letI n:=fun(i:Nat)=>AVal.lit (Value.int .i64 (Int.ofNat (wd W i)));letI h:=a1=a1;letI g:=fun(q:Nat)=>AVal.famx (fun(k:Nat)=>AVal.by_ (rc q k)) (rn q);letI f:=SubF z z (rn q) [];letI e:=SubF g g m [];letI d:=∃(j':y1),letI t1:=List.length j'.2;mcI (rc q) (rn q) V j'.fst j'.2/\rn q-j'.fst<g2/\w1/\gd d2 (c=c/\p/\r/\gd (Nat.beq p1 t1) (e2/\f/\h/\s=Value.int .i64 (Int.ofNat j'.fst)/\h2/\e/\gd f2 (t1=p1/\SubF n (fun(i:Nat)=>AVal.lit (Value.int .i64 (Int.ofNat (wd j'.2 i)))) z1 []/\f1=Value.int .i64 (Int.ofNat (wd j'.2 z1))/\True)));br y (gd y (gd (Nat.blt k (rn q)) (w1/\((∀(b:UInt8),b∈rc q k->UInt8.toNat b<128)/\m1<=70368744177664)/\rc q k=rc q k/\∀(x:Nat),letI c2:=Int.ofNat x;letI e1:=Value.int .i64 c2;letI w:=decide (c2>Int.ofNat (wd W k));letI v:=[(k,AVal.lit e1)];letI a:=gd t (br h1 (∃(j':y1),letI r1:=List.length j'.2;mcI (rc q) (rn q) V j'.fst j'.2/\rn q-j'.fst<g2/\w1/\gd d2 (c=c/\p/\r/\gd (Nat.beq p1 r1) (e2/\f/\h/\s=Value.int .i64 (Int.ofNat j'.fst)/\h2/\e/\gd f2 (r1=p1/\SubF n (fun(i:Nat)=>AVal.lit (Value.int .i64 (Int.ofNat (wd j'.2 i)))) z1 v/\gd b1 (e1=Value.int .i64 (Int.ofNat (wd j'.2 k))/\f1=Value.int .i64 (Int.ofNat (wd j'.2 z1))/\True))))) (gd k1 (∃(j':y1),letI s1:=List.length j'.2;mcI (rc q) (rn q) V j'.fst j'.2/\rn q-j'.fst<g2/\w1/\gd d2 (c=c/\p/\r/\gd (Nat.beq p1 s1) (e2/\f/\h/\s=Value.int .i64 (Int.ofNat j'.fst)/\h2/\e/\gd f2 (s1=p1/\SubF n (fun(i:Nat)=>AVal.lit (Value.int .i64 (Int.ofNat (wd j'.2 i)))) z1 []/\e1=Value.int .i64 (Int.ofNat (wd j'.2 z1))/\True))))));x=m1->br (decide (b2≥g1)) (gd (Nat.beq z1 n1&&(Nat.ble (0+z1+1+z1+1+z1+1+z1+1+z1+1+z1+1+z1+1+z1+1) 140737488355328&&(Nat.ble p1 140737488355328&&true))) (gd t (br h1 (br w a d) (gd k1 (br (decide (c2>Int.ofNat 1)) a d))))) (gd u (gd h1 (br w (gd u (gd b1 (∃(j':y1),letI u1:=List.length j'.2;mcI (rc q) (rn q) V j'.fst j'.2/\rn q-j'.fst<g2/\w1/\gd d2 (c=c/\p/\r/\gd (Nat.beq z1 u1) (e2/\f/\h/\s=Value.int .i64 (Int.ofNat j'.fst)/\h2/\e/\gd f2 (u1=n1/\SubF n (fun(i:Nat)=>AVal.lit (Value.int .i64 (Int.ofNat (wd j'.2 i)))) z1 v/\gd b1 (e1=Value.int .i64 (Int.ofNat (wd j'.2 k))/\True))))))) (∃(j':y1),letI v1:=List.length j'.2;mcI (rc q) (rn q) V j'.fst j'.2/\rn q-j'.fst<g2/\w1/\gd d2 (c=c/\p/\r/\gd (Nat.beq z1 v1) (e2/\f/\h/\s=Value.int .i64 (Int.ofNat j'.fst)/\h2/\e/\gd f2 (v1<=z1/\SubF n (fun(i:Nat)=>AVal.lit (Value.int .i64 (Int.ofNat (wd j'.2 i)))) v1 []/\True)))))))))) (∃(x:Unit),True/\w1/\gd d2 (c=c/\p/\r/\gd (Nat.beq z1 a2) (h2/\e/\gd f2 (a2<=z1/\SubF n (fun(i:Nat)=>AVal.lit (Value.int .i64 (Int.ofNat (wd V i)))) a2 []/\True))))
def E_f(T:TD)(rn:Nat->Nat)(rc:Nat->Nat->By)(m:Nat)(c:Nat)(q:Nat)(W:List Nat):Prop:=
 letI y:=Nat.beq m m;letI z:=Nat.ble c c;letI w:=List.length W;letI v:=a_f T=a_f T;letI t:=cntC (rc q) (rn q) 0 W;letI p:=Value.int .i64 (Int.ofNat m);letI r:=Value.int .i64 (Int.ofNat q);letI s:=Value.int .i64 (Int.ofNat 0);letI n:=Value.int .i64 (Int.ofNat (rn q));letI g:=decide (Int.ofNat q<Int.ofNat m);letI h:=fun(k:Nat)=>AVal.by_ (rc q k);letI f:=List.length t;letI e:=p=p;letI d:=fun(i:Nat)=>AVal.lit (Value.int .i64 (Int.ofNat (wd W i)));letI b:=fun(q:Nat)=>AVal.famx (fun(k:Nat)=>AVal.by_ (rc q k)) (rn q);letI a:=SubF b b m [];br g (gd g (gd (Nat.blt q m) (mcI (rc q) (rn q) t 0 W/\(v/\gd y (c=c/\e/\r=r/\gd (Nat.beq w w) (rn q=rn q/\SubF h h (rn q) []/\n=n/\s=s/\m<=m/\a/\gd z (w<=w/\SubF d d w []/\True))))/\∀(x:Unit),True->∃(j':Nat×List Nat),letI u:=List.length j'.2;moI rn rc m j'.fst j'.2/\m-j'.fst<m-q/\v/\gd y (c=c/\e/\Value.int .i64 (IntKind.wrap .i64 (Int.ofNat (q+1)))=Value.int .i64 (Int.ofNat j'.fst)/\gd (Nat.beq f u) (m<=m/\a/\gd z (u<=f/\SubF (fun(i:Nat)=>AVal.lit (Value.int .i64 (Int.ofNat (wd t i)))) (fun(i:Nat)=>AVal.lit (Value.int .i64 (Int.ofNat (wd j'.2 i)))) u []/\True)))))) (∃(x:Unit),True/\v/\w=List.length (cnt rn rc m)/\w=w+0/\SubF d (fun(i:Nat)=>AVal.lit (Value.int .i64 (Int.ofNat (wd (cnt rn rc m) i)))) w []/\m<=m/\a/\gd z True)
def mwR(T:TD)(rn:Nat->Nat)(rc:Nat->Nat->By)(m:Nat)(c:Nat):Prop:=
 letI g:=cnt rn rc m;letI f:=a_f T=a_f T;letI e:=List.length g;letI b:=Value.int .i64 (Int.ofNat m);letI d:=Value.int .i64 (Int.ofNat 0);moI rn rc m 0 []/\(f/\gd (Nat.beq m m) (c=c/\b=b/\d=d/\m<=m/\SubF (fun(q:Nat)=>AVal.famx (fun(k:Nat)=>AVal.by_ ((rc,m,c).fst q k)) ((rn,rc,m,c).fst q)) (fun(q:Nat)=>AVal.famx (fun(k:Nat)=>AVal.by_ (rc q k)) (rn q)) m []/\gd (Nat.ble c c) (0=0/\0<=0/\True)))/\∀(x:Unit),True->∃(x:List Nat),x=g/\f/\(∀(i:Nat),letI a:=AVal.lit (Value.int .i64 (Int.ofNat (wd x i)));i<List.length x->SubA 0 a a)/\True/\e=List.length x/\SubF (fun(i:Nat)=>AVal.lit (Value.int .i64 (Int.ofNat (wd g i)))) (fun(i:Nat)=>AVal.lit (Value.int .i64 (Int.ofNat (wd x i)))) e []/\True
theorem o_a(T:TD):TabOk Tryz.prog (mwU T):=by
 refine⟨fun f s h=>?_,fun f s h=>?_⟩
 ·unfold mwU at h
  simp only at h
  split at h
  ·cases h;exact a_d q_1 (w_a T).1
  ·cases h
 ·cases h
theorem E_g(T:TD)(rn:Nat->Nat)(rc:Nat->Nat->By)(m c:Nat)(q:Nat)(V:List Nat)(k:Nat)(W:List Nat)(hd:b_C rn rc m c)(h:mcI (rc q) (rn q) V k W):E_e T rn rc m c q V k W:=by
 unfold E_e
 obtain⟨hw,hn,hm,hmc,hc⟩:=hd
 have e1:∀m:Nat,m<=1000->IntKind.wrap IntKind.i64 (Int.ofNat m)=Int.ofNat m:=fun m h=>a_o ab ab
 have sr:SubF (fun q=>AVal.famx (fun k=>AVal.by_ (rc q k)) (rn q)) (fun q=>AVal.famx (fun k=>AVal.by_ (rc q k)) (rn q)) m []:=fun _ _ _=>SubA.famx fun _ _=>byA
 obtain⟨g1,g2,g3,g4⟩:=id h
 have hq:=hn q
 simp only[e1 (k+1) ac]
 simp only[sj3,eq_self,implies_true,forall_eq,b_F,b_P,Nat.le_eq,sj2,a_e,sj0]
 have h128:∀b∈rc q k,b.toNat<128:=fun b hb=>by have:=(hw q k).1 b hb;unfold wc at this;omega
 have hl:=(hw q k).2
 have se:SubF (fun k=>AVal.by_ (rc q k)) (fun k=>AVal.by_ (rc q k)) (rn q) []:=fun _ _ _=>byA
 have nx:=fun hk:k<rn q=>y_w h hk hq
 refine⟨fun hk=>⟨hk,hk,⟨h128,ac⟩,fun hW=>⟨⟨ac,ac⟩,ac,fun c1=>absurd c1 ac,fun _=>⟨ac,fun n1=>⟨ac,fun c1=>absurd c1 ac,fun _=>⟨ac,(k+1,mcS W k (rc q k).length),nx hk,?_⟩⟩,fun n1=>⟨(k+1,mcS W k (rc q k).length),nx hk,?_⟩⟩⟩,fun hW=>⟨ac,ac,fun n1=>⟨ac,ac,(k+1,mcS W k (rc q k).length),nx hk,?_⟩,fun n1=>⟨(k+1,mcS W k (rc q k).length),nx hk,?_⟩⟩⟩,fun hk=>?_⟩
 ·rw[y_A ac n1]
  have hkW:k=W.length:=ac
  exact⟨aJ,an,se,rfl,Nat.le_refl _,sr,Nat.le_refl _,an,p_p fun i hi _=>by rw[wdN ac,wdA hi],by rw[←hkW,wdS af]⟩
 ·rw[y_B ac n1]
  exact⟨aJ,an,se,rfl,Nat.le_refl _,sr,Nat.le_refl _,an,p_p fun i hi _=>by rw[wdA hi],by rw[wdL]⟩
 ·rw[y_C ac n1]
  exact⟨aJ,an,se,rfl,Nat.le_refl _,sr,Nat.le_refl _,an,p_p fun i hi hu=>by rw[wdN (fun e=>by subst e;simp[c_b] at hu)],ac,by rw[wdS ac]⟩
 ·rw[y_D ac n1]
  exact⟨aJ,rfl,se,rfl,Nat.le_refl _,sr,Nat.le_refl _,Nat.le_refl _,p_p fun _ _ _=>rfl⟩
 ·have e:=s_l h ac
  subst e
  exact⟨rfl,Nat.le_refl _,sr,Nat.le_refl _,Nat.le_refl _,p_p fun _ _ _=>rfl⟩
theorem E_h(T:TD)(rn:Nat->Nat)(rc:Nat->Nat->By)(m c:Nat)(q:Nat)(V:List Nat)(hd:b_C rn rc m c):(mwI T rn rc m c q V).Body Tryz.prog (sub (a_b Tryz.f414) [0,0,1,1,0,0,1,1,0,0,1,0,1,1]):=by
 refine LoopD.bodyH (root:=(a_b Tryz.f414)) [0,0,1,1,0,0,1,1,0,0,1,0,1,1] a_l (o_a T) (LTok.nil) 1000 ?_
 exact fun j hj=>Ho.of (E_e T rn rc m c q V j.1 j.2) aa (E_g T rn rc m c q V j.1 j.2 hd hj)
theorem E_i(T:TD)(rn:Nat->Nat)(rc:Nat->Nat->By)(m c:Nat)(q:Nat)(W:List Nat)(hd:b_C rn rc m c)(h:moI rn rc m q W):E_f T rn rc m c q W:=by
 unfold E_f
 obtain⟨hw,hn,hm,hmc,hc⟩:=hd
 have e1:∀m:Nat,m<=1000->IntKind.wrap IntKind.i64 (Int.ofNat m)=Int.ofNat m:=fun m h=>a_o ab ab
 have sr:SubF (fun q=>AVal.famx (fun k=>AVal.by_ (rc q k)) (rn q)) (fun q=>AVal.famx (fun k=>AVal.by_ (rc q k)) (rn q)) m []:=fun _ _ _=>SubA.famx fun _ _=>byA
 have h2:=h.2.1
 have hq1:=h.1
 by_cases hqm:q<m
 ·simp only[e1 (q+1) ac]
  simp only[sj3,eq_self,implies_true,forall_eq,b_F,b_P,Nat.le_eq,sj2,a_e,sj0]
  exact⟨fun g=>⟨g,g,y_x h2,⟨fun _ _ _=>byA,Nat.le_refl _,sr,Nat.le_refl _,Nat.le_refl _,p_p fun _ _ _=>rfl⟩,fun _ _=>⟨(q+1,cntC (rc q) (rn q) 0 W),y_y h g (hn q),aJ,rfl,rfl,Nat.le_refl _,sr,Nat.le_refl _,Nat.le_refl _,p_p fun _ _ _=>rfl⟩⟩,fun g=>absurd hqm g⟩
 ·simp only[e1 (q+1) ac]
  simp only[sj3,eq_self,implies_true,forall_eq,b_F,b_P,Nat.le_eq,sj2,a_e,sj0]
  have e:=s_m h ac
  subst e
  exact⟨fun g=>absurd g hqm,fun _=>⟨rfl,p_p fun _ _ _=>rfl,Nat.le_refl _,sr,Nat.le_refl _⟩⟩
theorem E_j(T:TD)(rn:Nat->Nat)(rc:Nat->Nat->By)(m c:Nat)(hd:b_C rn rc m c):(mwD T rn rc m c).Body Tryz.prog (sub (a_b Tryz.f414) [0,0,1,0,1,1]):=by
 refine LoopD.bodyHj (root:=(a_b Tryz.f414)) (LT:=fun(j:Nat×List Nat)=>[([0,1,1,0,0,1,1,0,0,1,0,1,1],(mwI T rn rc m c j.1 (cntC (rc j.1) (rn j.1) 0 j.2)).at (0,j.2))]) [0,0,1,0,1,1] a_l (o_a T) (fun(j:Nat×List Nat) hi=>LTok.cons (fun fr H K hk=>LoopD.ok (E_h T rn rc m c j.1 (cntC (rc j.1) (rn j.1) 0 j.2) hd) hk) (LTok.nil)) 1000 ?_
 exact fun j hj=>Ho.of (E_f T rn rc m c j.1 j.2) aa (E_i T rn rc m c j.1 j.2 hd hj)
theorem I_e(T:TD)(rn:Nat->Nat)(rc:Nat->Nat->By)(m c:Nat)(hd:b_C rn rc m c):mwR T rn rc m c:=by
 unfold mwR
 obtain⟨hw,hn,hm,hmc,hc⟩:=hd
 have e1:∀m:Nat,m<=1000->IntKind.wrap IntKind.i64 (Int.ofNat m)=Int.ofNat m:=fun m h=>a_o ab ab
 have sr:SubF (fun q=>AVal.famx (fun k=>AVal.by_ (rc q k)) (rn q)) (fun q=>AVal.famx (fun k=>AVal.by_ (rc q k)) (rn q)) m []:=fun _ _ _=>SubA.famx fun _ _=>byA
 simp only[sj3,eq_self,implies_true,forall_eq,b_F,b_P,Nat.le_eq,sj2,a_e,sj0]
 exact⟨y_z,⟨Nat.le_refl _,sr,Nat.le_refl _,Nat.le_refl _⟩,fun _ _=>⟨fun _ _=>a_g rfl,p_p fun _ _ _=>rfl⟩⟩
theorem w_b:a_t Tryz.prog 414:=⟨Tryz.f414,aa,rfl,aa⟩
theorem E_k(T:TD):(mwS T).Body Tryz.prog 414/\(mwS T).BodyD Tryz.prog 414:=by
 refine a_c (fn:=Tryz.f414) (b:=a_b Tryz.f414) (LT:=fun a=>[([0,1,0,1,1],(mwD T a.1 a.2.1 a.2.2.1 a.2.2.2).at (0,[]))]) a_l (o_a T) 1000 (fun a ha=>LTok.cons (fun fr H K hk=>LoopD.ok (E_j T a.1 a.2.1 a.2.2.1 a.2.2.2 ha) hk) (LTok.nil)) aa aa ?_
 exact fun a ha=>Ho.of (mwR T a.1 a.2.1 a.2.2.1 a.2.2.2) aa (I_e T a.1 a.2.1 a.2.2.1 a.2.2.2 ha)
end Tk

