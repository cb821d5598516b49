/- Lemmas of this claim; the last text says what is proved. -/
import Derived.Test.YtblencgndjjleaaGreatDoorK30
import Derived.Shelf.Strings.Repeat
set_option linter.all false
set_option maxRecDepth 1000000
namespace Tk
open Go Go.Sx Go.Proofs
open Q
variable [Syms]
def E_l(T:TD)(rn:Nat->Nat)(rc:Nat->Nat->By)(m:Nat)(c:Nat)(w:Nat)(q:Nat):Prop:=
 letI c1:=rn q+1;letI b1:=Nat.beq m m;letI a1:=a_f T=a_f T;letI z:=Nat.blt q m&&true;letI y:=Int.ofNat (w-rn q);letI v:=gd (Nat.ble c c) True;letI u:=[]=fc rn rc q (rn q);letI p:=Value.int .i64 (Int.ofNat w);letI r:=Value.int .i64 (Int.ofNat m);letI s:=Value.int .i64 (Int.ofNat q);letI t:=Value.int .i64 (Int.ofNat 1);letI n:=decide (Int.ofNat q<Int.ofNat m);letI k:=Value.int .i64 y;letI f:=p=p;letI g:=r=r;letI h:=s=s;letI e:=k=k;letI d:=SubF (fun(c:Nat)=>AVal.by_ (rc q c)) (fun(c:Nat)=>AVal.by_ (fc rn rc q c)) (rn q) [];letI b:=fun(i:Nat)=>AVal.ite (Nat.blt i q) (AVal.fam (fun(c:Nat)=>AVal.by_ (fc rn rc i c)) w) (AVal.famx (fun(c:Nat)=>AVal.by_ (rc i c)) (rn i));letI a:=SubF b b m [(q,AVal.slc (3+1) 0 c1 (ACap.u 3 0))];br (decide (Int.ofNat 0<y)) (gd n (gd (Nat.blt q m) (br (Nat.blt q q) False (gd (Nat.ble (0+rn q+1+rn q+1+rn q+1+rn q+1+rn q+1+rn q+1+rn q+1+rn q+1+rn q+1+rn q+1+rn q+1+rn q+1+rn q+1+rn q+1+rn q+1+rn q+1+rn q+1+rn q+1+rn q+1+rn q+1+rn q+1+rn q+1+rn q+1+rn q+1) 140737488355328&&Nat.ble c1 140737488355328) (gd n (gd z ((∃(j':Unit),Nat.le (q+1) m/\w+1<w+1/\a1/\gd b1 (c=c/\f/\gd b1 (c=c/\g/\h/\h/\e/\t=Value.int .i64 (Int.ofNat 0)/\m=m/\a/\gd z (br (Nat.blt q q) (c1=w/\c1=c1/\d/\0<=0/\u/\v) False))))\/∃(j':Nat),(q<m/\0<j'/\j'<=w-rn q)/\w-j'<w+1/\a1/\gd b1 (c=c/\f/\gd b1 (c=c/\g/\h/\h/\e/\t=Value.int .i64 (Int.ofNat j')/\m=m/\q=q/\q<m/\True/\a/\gd (Nat.beq c1 (rn q+j')) (gd (Nat.ble c c) (rn q+j'=c1/\d/\0<=0/\u/\True))))))))))) ((∃(x:Unit),True/\a1/\gd b1 (c=c/\f/\gd b1 (c=c/\g/\h/\m<=m/\SubF b (fun(i:Nat)=>AVal.ite (Nat.blt i (q+1)) (AVal.fam (fun(c:Nat)=>AVal.by_ (fc rn rc i c)) w) (AVal.famx (fun(c:Nat)=>AVal.by_ (rc i c)) (rn i))) m []/\v)))\/False)
def E_m(T:TD)(rn:Nat->Nat)(rc:Nat->Nat->By)(m:Nat)(c:Nat)(w:Nat)(q:Nat)(k:Nat):Prop:=
 letI v1:=q+1;letI w1:=c=c;letI t1:=rn q+k;letI u1:=rn q+1;letI p1:=Nat.blt q m;letI q1:=Nat.beq m m;letI r1:=Nat.blt q q;letI s1:=Nat.ble c c;letI n1:=t1+1;letI m1:=q=q/\True;letI k1:=a_f T=a_f T;letI h1:=p1&&true;letI g1:=Int.ofNat (w-rn q);letI f1:=[]=fc rn rc q (rn q);letI e1:=[]=fc rn rc q t1;letI b1:=Value.int .i64 (Int.ofNat w);letI c1:=Value.int .i64 (Int.ofNat m);letI d1:=Value.int .i64 (Int.ofNat q);letI a1:=decide (Int.ofNat q<Int.ofNat m);letI y:=Value.int .i64 g1;letI z:=p1&&(!Nat.beq q q&&true);letI v:=fun(c:Nat)=>AVal.by_ (fc rn rc q c);letI u:=(q,AVal.slc 1 0 t1 (ACap.u 2 0));letI t:=(q,AVal.slc (5+1) 0 u1 (ACap.u 5 0));letI s:=(q,AVal.slc (5+1) 0 n1 (ACap.u 5 0));letI r:=Value.int .i64 (IntKind.wrap .i64 (Int.ofNat (k+1)));letI h:=b1=b1;letI n:=c1=c1;letI p:=d1=d1;letI g:=y=y;letI f:=r=Value.int .i64 (Int.ofNat 0);letI e:=SubF (fun(c:Nat)=>AVal.by_ (rc q c)) v (rn q) [];letI d:=SubF v v t1 [];letI b:=fun(i:Nat)=>AVal.ite (Nat.blt i q) (AVal.fam (fun(c:Nat)=>AVal.by_ (fc rn rc i c)) w) (AVal.famx (fun(c:Nat)=>AVal.by_ (rc i c)) (rn i));letI a:=t1=w/\t1=t1+0/\d/\gd s1 True;br (decide (Int.ofNat k<g1)) (gd a1 (gd p1 (br (Nat.beq q q) (gd (Nat.beq t1 (t1+0)&&(Nat.ble (0+t1+1+t1+1+t1+1+t1+1+t1+1+t1+1+t1+1+t1+1+t1+1+t1+1+t1+1+t1+1+t1+1+t1+1+t1+1+t1+1+t1+1+t1+1+t1+1+t1+1+t1+1+t1+1+t1+1+t1+1) 140737488355328&&(Nat.ble n1 140737488355328&&true))) (gd a1 (gd h1 ((∃(j':Unit),Nat.le v1 m/\w+1<w-k/\k1/\gd q1 (w1/\h/\gd q1 (w1/\n/\p/\p/\g/\f/\m=m/\SubF b b m [s,u]/\gd z (br r1 (n1=w/\n1=n1/\d/\0<=0/\e1/\gd h1 (br r1 False False)) False))))\/∃(j':Nat),(q<m/\0<j'/\j'<=w-rn q)/\w-j'<w-k/\k1/\gd q1 (w1/\h/\gd q1 (w1/\n/\p/\p/\g/\r=Value.int .i64 (Int.ofNat j')/\m=m/\q=q/\q<m/\m1/\SubF b b m [s]/\gd (Nat.beq n1 (rn q+j')) (gd s1 (rn q+j'=n1/\d/\0<=0/\e1/\True)))))))) (br r1 False (gd (Nat.ble (0+rn q+1+rn q+1+rn q+1+rn q+1+rn q+1+rn q+1+rn q+1+rn q+1+rn q+1+rn q+1+rn q+1+rn q+1+rn q+1+rn q+1+rn q+1+rn q+1+rn q+1+rn q+1+rn q+1+rn q+1+rn q+1+rn q+1+rn q+1+rn q+1) 140737488355328&&Nat.ble u1 140737488355328) (gd a1 (gd h1 ((∃(j':Unit),Nat.le v1 m/\w+1<w-k/\k1/\gd q1 (w1/\h/\gd q1 (w1/\n/\p/\p/\g/\f/\m=m/\SubF b b m [t,u]/\gd z (br r1 (u1=w/\u1=u1/\e/\0<=0/\f1/\gd h1 (br r1 a False)) False))))\/∃(j':Nat),(q<m/\0<j'/\j'<=w-rn q)/\w-j'<w-k/\k1/\gd q1 (w1/\h/\gd q1 (w1/\n/\p/\p/\g/\r=Value.int .i64 (Int.ofNat j')/\m=m/\q=q/\q<m/\m1/\SubF b b m [t]/\gd (Nat.beq u1 (rn q+j')) (gd s1 (rn q+j'=u1/\e/\0<=0/\f1/\True)))))))))))) ((∃(x:Unit),True/\k1/\gd q1 (w1/\h/\gd q1 (w1/\n/\p/\m=m/\SubF b (fun(i:Nat)=>AVal.ite (Nat.blt i v1) (AVal.fam (fun(c:Nat)=>AVal.by_ (fc rn rc i c)) w) (AVal.famx (fun(c:Nat)=>AVal.by_ (rc i c)) (rn i))) m [u]/\gd h1 (br (Nat.blt q v1) a False))))\/False)
def E_n(T:TD)(rn:Nat->Nat)(rc:Nat->Nat->By)(m:Nat)(c:Nat)(w:Nat)(q:Nat):Prop:=
 letI a1:=c=c;letI y:=Nat.beq m m;letI z:=Int.ofNat w;letI v:=a_f T=a_f T;letI u:=Nat.le (q+1) m;letI t:=gd (Nat.ble c c) True;letI n:=Value.int .i64 z;letI p:=Value.int .i64 (Int.ofNat m);letI r:=Value.int .i64 (Int.ofNat q);letI s:=Value.int .i64 (Int.ofNat 0);letI k:=decide (Int.ofNat q<Int.ofNat m);letI h:=Value.int .i64 (Int.ofNat (w-rn q));letI e:=n=n;letI f:=p=p;letI g:=r=r;letI d:=fun(i:Nat)=>AVal.ite (Nat.blt i q) (AVal.fam (fun(c:Nat)=>AVal.by_ (fc rn rc i c)) w) (AVal.famx (fun(c:Nat)=>AVal.by_ (rc i c)) (rn i));letI b:=s=s/\m<=m/\SubF d d m []/\t;letI a:=∀(x:Unit),True->∃(j':Nat),Nat.le j' m/\m-j'<m-q/\v/\gd y (a1/\e/\gd y (a1/\f/\Value.int .i64 (IntKind.wrap .i64 (Int.ofNat (q+1)))=Value.int .i64 (Int.ofNat j')/\m<=m/\SubF (fun(i:Nat)=>AVal.ite (Nat.blt i (q+1)) (AVal.fam (fun(c:Nat)=>AVal.by_ (fc rn rc i c)) w) (AVal.famx (fun(c:Nat)=>AVal.by_ (rc i c)) (rn i))) (fun(i:Nat)=>AVal.ite (Nat.blt i j') (AVal.fam (fun(c:Nat)=>AVal.by_ (fc rn rc i c)) w) (AVal.famx (fun(c:Nat)=>AVal.by_ (rc i c)) (rn i))) m []/\t));br k (gd k (gd (Nat.blt q m) (br (Nat.blt q q) (u/\(v/\gd y (a1/\e/\gd y (a1/\f/\g/\g/\Value.int .i64 (IntKind.wrap .i64 (z-z))=h/\b)))/\a) (u/\(v/\gd y (a1/\e/\gd y (a1/\f/\g/\g/\Value.int .i64 (IntKind.wrap .i64 (z-Int.ofNat (rn q)))=h/\b)))/\a)))) (∃(x:Unit),True/\v/\gd y (a1/\m<=m/\SubF d (fun(i:Nat)=>AVal.fam (fun(c:Nat)=>AVal.by_ (fc rn rc i c)) w) m []/\t))
def fuR(T:TD)(rn:Nat->Nat)(rc:Nat->Nat->By)(m:Nat)(c:Nat)(w:Nat):Prop:=
 letI n:=Nat.beq m m;letI h:=a_f T=a_f T;letI g:=(rn,rc,m,c,w);letI f:=List (Nat×AVal);letI b:=Value.int .i64 (Int.ofNat w);letI d:=Value.int .i64 (Int.ofNat m);letI e:=Value.int .i64 (Int.ofNat 0);Nat.le 0 m/\(h/\gd n (c=c/\b=b/\gd n (c=c/\d=d/\e=e/\m<=m/\SubF (fun(q:Nat)=>AVal.famx (fun(k:Nat)=>AVal.by_ ((rc,m,c,w).fst q k)) (g.fst q)) (fun(i:Nat)=>AVal.ite false (AVal.fam (fun(c:Nat)=>AVal.by_ (fc rn rc i c)) w) (AVal.famx (fun(c:Nat)=>AVal.by_ (rc i c)) (rn i))) m []/\gd (Nat.ble c c) True)))/\∀(x:Unit),True->∃(x:(Nat->Nat)×(Nat->Nat->By)×Nat×Nat×Nat),x=g/\h/\True/\(([]:f)=([]:f)/\([]:List AVal)=([]:List AVal)/\∀(i:Nat),letI a:=AVal.fam (fun(c:Nat)=>AVal.by_ (fc x.1 x.snd.1 i c)) x.snd.snd.2.snd;i<x.snd.2.fst->SubA 0 a a)/\gd (Nat.beq m x.snd.2.fst) (c=x.snd.snd.2.fst/\x.snd.2.fst<=m/\SubF (fun(i:Nat)=>AVal.fam (fun(c:Nat)=>AVal.by_ (fc rn rc i c)) w) (fun(i:Nat)=>AVal.fam (fun(c:Nat)=>AVal.by_ (fc x.1 x.snd.1 i c)) x.snd.snd.2.snd) x.snd.2.fst []/\gd (Nat.ble x.snd.snd.2.fst c) True)
theorem E_o(T:TD)(rn:Nat->Nat)(rc:Nat->Nat->By)(m c w:Nat)(q:Nat)(hd:b_C rn rc m c/\w<=12/\∀q,q<m->rn q<=w)(h:q<m):E_l T rn rc m c w q:=by
 unfold E_l
 obtain⟨⟨hw,hn,hm,hmc,hc⟩,hw12,hwr⟩:=hd
 have e1:∀m:Nat,m<=1000->IntKind.wrap IntKind.i64 (Int.ofNat m)=Int.ofNat m:=fun m h=>a_o ab ab
 simp only[sj3,Go.Sx.beq_self,eq_self,implies_true,forall_eq,b_F,b_P,Nat.le_eq,Nat.lt_irrefl,Nat.le_refl,true_implies,false_implies,Bool.true_eq_false,Bool.false_eq_true,Bool.not_true,Bool.and_false,sj2,a_e,sj0]
 have hnq:=hn q
 have t0:∀us,SubF (b_i rn rc w (q+1)) (b_i rn rc w (q+1)) m us:=fun _=>c_g
 have hww:q<m->IntKind.wrap IntKind.i64 (Int.ofNat w-Int.ofNat (rn q))=Int.ofNat (w-rn q):=fun g=>h_h (hwr q g) ac
 have e2:SubF (b_i rn rc w m) (fun i=>AVal.fam (fun c=>.by_ (fc rn rc i c)) w) m []:=h_o
 have s0:∀us,SubF (b_i rn rc w q) (b_i rn rc w q) m us:=fun _=>c_g
 have sX:SubF (fun c=>AVal.by_ (rc q c)) (fun c=>AVal.by_ (fc rn rc q c)) (rn q) []:=fun k hk _=>j_Y k hk
 have sF:∀n,SubF (fun c=>AVal.by_ (fc rn rc q c)) (fun c=>AVal.by_ (fc rn rc q c)) n []:=fun _ _ _ _=>byA
 have z:∀k,rn q<=k->[]=fc rn rc q k:=fun k h=>(m_R h).symm
 have s1:∀v,SubF (b_i rn rc w q) (b_i rn rc w (q+1)) m [(q,v)]:=fun v=>m_S
 repeat' (first|omega|exact trivial|exact rfl|exact s0 _|exact t0 _|exact sX|exact sF _|exact s1 _|exact e_r ac|exact e_r (by have:=hwr q ac;omega)|exact congrArg _ (hww ac)|exact hwr q ac|(rw[show q=m by omega];exact e2)|exact z _ ac|(exfalso;omega)|(refine Or.inr ⟨1,?_⟩)|refine⟨1,?_⟩|intro _|refine And.intro ?_ ?_)
theorem E_p(T:TD)(rn:Nat->Nat)(rc:Nat->Nat->By)(m c w:Nat)(q k:Nat)(hd:b_C rn rc m c/\w<=12/\∀q,q<m->rn q<=w)(h:q<m/\0<k/\k<=w-rn q):E_m T rn rc m c w q k:=by
 unfold E_m
 obtain⟨⟨hw,hn,hm,hmc,hc⟩,hw12,hwr⟩:=hd
 have e1:∀m:Nat,m<=1000->IntKind.wrap IntKind.i64 (Int.ofNat m)=Int.ofNat m:=fun m h=>a_o ab ab
 simp only[e1 (k+1) ac]
 simp only[sj3,Go.Sx.beq_self,eq_self,implies_true,forall_eq,b_F,b_P,Nat.le_eq,Nat.lt_irrefl,Nat.le_refl,true_implies,false_implies,Bool.true_eq_false,Bool.false_eq_true,Bool.not_true,Bool.and_false,sj2,a_e,sj0]
 have hnq:=hn q
 have t0:∀us,SubF (b_i rn rc w (q+1)) (b_i rn rc w (q+1)) m us:=fun _=>c_g
 have hww:q<m->IntKind.wrap IntKind.i64 (Int.ofNat w-Int.ofNat (rn q))=Int.ofNat (w-rn q):=fun g=>h_h (hwr q g) ac
 have e2:SubF (b_i rn rc w m) (fun i=>AVal.fam (fun c=>.by_ (fc rn rc i c)) w) m []:=h_o
 have s0:∀us,SubF (b_i rn rc w q) (b_i rn rc w q) m us:=fun _=>c_g
 have sX:SubF (fun c=>AVal.by_ (rc q c)) (fun c=>AVal.by_ (fc rn rc q c)) (rn q) []:=fun k hk _=>j_Y k hk
 have sF:∀n,SubF (fun c=>AVal.by_ (fc rn rc q c)) (fun c=>AVal.by_ (fc rn rc q c)) n []:=fun _ _ _ _=>byA
 have z:∀k,rn q<=k->[]=fc rn rc q k:=fun k h=>(m_R h).symm
 have s1:∀v,SubF (b_i rn rc w q) (b_i rn rc w (q+1)) m [(q,v)]:=fun v=>m_S
 repeat' (first|omega|exact trivial|exact rfl|exact s0 _|exact t0 _|exact sX|exact sF _|exact s1 _|exact e_r ac|exact e_r (by have:=hwr q ac;omega)|exact congrArg _ (hww ac)|exact hwr q ac|(rw[show q=m by omega];exact e2)|exact z _ ac|(exfalso;omega)|(refine Or.inr ⟨k+1,?_⟩)|refine⟨k+1,?_⟩|intro _|refine And.intro ?_ ?_)
theorem E_q(T:TD)(rn:Nat->Nat)(rc:Nat->Nat->By)(m c w:Nat)(q:Nat)(hd:b_C rn rc m c/\w<=12/\∀q,q<m->rn q<=w):(fuI T rn rc m c w q).Body2 (H_j T rn rc m c w q) Tryz.prog (sub (a_b Tryz.f415) [0,0,1,1,1,0,0,1,1,0,0,1,0,1]):=by
 refine LoopD.bodyH2 (root:=(a_b Tryz.f415)) (LT:=[]) [0,0,1,1,1,0,0,1,1,0,0,1,0,1] a_l (a_y) (LTok.nil) 1000 ?_ ?_
 ·exact fun j hj=>Ho.of (E_l T rn rc m c w q) aa (E_o T rn rc m c w q hd hj)
 ·exact fun j hj=>Ho.of (E_m T rn rc m c w q j) aa (E_p T rn rc m c w q j hd hj)
theorem E_r(T:TD)(rn:Nat->Nat)(rc:Nat->Nat->By)(m c w:Nat)(q:Nat)(hd:b_C rn rc m c/\w<=12/\∀q,q<m->rn q<=w)(h:q<=m):E_n T rn rc m c w q:=by
 unfold E_n
 obtain⟨⟨hw,hn,hm,hmc,hc⟩,hw12,hwr⟩:=hd
 have e1:∀m:Nat,m<=1000->IntKind.wrap IntKind.i64 (Int.ofNat m)=Int.ofNat m:=fun m h=>a_o ab ab
 simp only[e1 (q+1) ac]
 simp only[sj3,Go.Sx.beq_self,eq_self,implies_true,forall_eq,b_F,b_P,Nat.le_eq,Nat.lt_irrefl,Nat.le_refl,true_implies,false_implies,Bool.true_eq_false,Bool.false_eq_true,Bool.not_true,Bool.and_false,sj2,a_e,sj0]
 have hnq:=hn q
 have t0:∀us,SubF (b_i rn rc w (q+1)) (b_i rn rc w (q+1)) m us:=fun _=>c_g
 have hww:q<m->IntKind.wrap IntKind.i64 (Int.ofNat w-Int.ofNat (rn q))=Int.ofNat (w-rn q):=fun g=>h_h (hwr q g) ac
 have e2:SubF (b_i rn rc w m) (fun i=>AVal.fam (fun c=>.by_ (fc rn rc i c)) w) m []:=h_o
 have s0:∀us,SubF (b_i rn rc w q) (b_i rn rc w q) m us:=fun _=>c_g
 have sX:SubF (fun c=>AVal.by_ (rc q c)) (fun c=>AVal.by_ (fc rn rc q c)) (rn q) []:=fun k hk _=>j_Y k hk
 have sF:∀n,SubF (fun c=>AVal.by_ (fc rn rc q c)) (fun c=>AVal.by_ (fc rn rc q c)) n []:=fun _ _ _ _=>byA
 have z:∀k,rn q<=k->[]=fc rn rc q k:=fun k h=>(m_R h).symm
 have s1:∀v,SubF (b_i rn rc w q) (b_i rn rc w (q+1)) m [(q,v)]:=fun v=>m_S
 repeat' (first|omega|exact trivial|exact rfl|exact s0 _|exact t0 _|exact sX|exact sF _|exact s1 _|exact e_r ac|exact e_r (by have:=hwr q ac;omega)|exact congrArg _ (hww ac)|exact hwr q ac|(rw[show q=m by omega];exact e2)|exact z _ ac|(exfalso;omega)|(refine Or.inr ⟨q+1,?_⟩)|refine⟨q+1,?_⟩|intro _|refine And.intro ?_ ?_)
theorem E_s(T:TD)(rn:Nat->Nat)(rc:Nat->Nat->By)(m c w:Nat)(hd:b_C rn rc m c/\w<=12/\∀q,q<m->rn q<=w):(fuD T rn rc m c w).Body Tryz.prog (sub (a_b Tryz.f415) [0,0,1,0,1]):=by
 refine LoopD.bodyHj (root:=(a_b Tryz.f415)) (LT:=fun q=>[([0,1,1,1,0,0,1,1,0,0,1,0,1],(fuI T rn rc m c w q).at ())]) [0,0,1,0,1] a_l (a_y) (fun q hi=>LTok.cons (fun fr H K hk=>LoopD.ok2 (E_q T rn rc m c w q hd) hk) (LTok.nil)) 1000 ?_
 exact fun q hq=>Ho.of (E_n T rn rc m c w q) aa (E_r T rn rc m c w q hd hq)
theorem I_f(T:TD)(rn:Nat->Nat)(rc:Nat->Nat->By)(m c w:Nat)(hd:b_C rn rc m c/\w<=12/\∀q,q<m->rn q<=w):fuR T rn rc m c w:=by
 unfold fuR
 obtain⟨⟨hw,hn,hm,hmc,hc⟩,hw12,hwr⟩:=hd
 have e1:∀m:Nat,m<=1000->IntKind.wrap IntKind.i64 (Int.ofNat m)=Int.ofNat m:=fun m h=>a_o ab ab
 simp only[sj3,Go.Sx.beq_self,eq_self,implies_true,forall_eq,b_F,b_P,Nat.le_eq,Nat.lt_irrefl,Nat.le_refl,true_implies,false_implies,Bool.true_eq_false,Bool.false_eq_true,Bool.not_true,Bool.and_false,sj2,a_e,sj0]
 have s0:SubF (b_i rn rc w 0) (b_i rn rc w 0) m []:=c_g
 have s1:SubF (fun i=>AVal.famx (fun c=>.by_ (rc i c)) (rn i)) (b_i rn rc w 0) m []:=u_k
 have s2:SubF (fun i=>AVal.fam (fun c=>.by_ (fc rn rc i c)) w) (fun i=>AVal.fam (fun c=>.by_ (fc rn rc i c)) w) m []:=fun _ _ _=>SubA.fam h_n
 repeat' (first|omega|exact trivial|exact rfl|exact s0|exact s1|exact s2|exact fun _ _=>SubA.fam h_n|(refine⟨(rn,rc,m,c,w),rfl,?_⟩)|intro _|refine And.intro ?_ ?_)
theorem w_c:a_t Tryz.prog 415:=⟨Tryz.f415,aa,rfl,aa⟩
theorem E_t(T:TD):(fuS T).Body Tryz.prog 415/\(fuS T).BodyD Tryz.prog 415:=by
 refine a_c (fn:=Tryz.f415) (b:=a_b Tryz.f415) (LT:=fun a=>[([0,1,0,1],(fuD T a.1 a.2.1 a.2.2.1 a.2.2.2.1 a.2.2.2.2).at (0:Nat))]) a_l (a_y) 1000 (fun a ha=>LTok.cons (fun fr H K hk=>LoopD.ok (E_s T a.1 a.2.1 a.2.2.1 a.2.2.2.1 a.2.2.2.2 ha) hk) (LTok.nil)) aa aa ?_
 exact fun a ha=>Ho.of (fuR T a.1 a.2.1 a.2.2.1 a.2.2.2.1 a.2.2.2.2) aa (I_f T a.1 a.2.1 a.2.2.1 a.2.2.2.1 a.2.2.2.2 ha)
theorem q_2:a_t Tryz.prog 332:=⟨Tryz.f332,aa,rfl,aa⟩
theorem E_u(T:TD):(wpS T).Body Tryz.prog 332/\(wpS T).BodyD Tryz.prog 332:=by
 refine a_c (fn:=Tryz.f332) (b:=a_b Tryz.f332) (LT:=fun _=>[]) a_l (n_7 T) 1000 (fun a ha=>LTok.nil) aa aa ?_
 exact fun a ha=>Ho.of (woR T a.1 a.2.1 a.2.2) aa (G_Q T a.1 a.2.1 a.2.2 ha)
theorem wr_ok(T:TD):(wrS T).Body Tryz.prog 332:=fun a ha w0 F0 ι w vs hi hd=>by
 obtain⟨d,h63,hld,hi'⟩:=j_a hi
 exact(E_u T).1 (a.1,a.2,d) ⟨hld,h63,ha⟩ w0 F0 ι w vs hi' hd
end Tk
namespace Go.Proofs
open Go.Shelf
def Tryz.renRep:Shelf.Ren:=⟨fun|99=>301|105=>300|165=>347|166=>348|169=>350|170=>349|206=>351|212=>346|240=>373|241=>374|263=>371|264=>372|276=>384|277=>367|n=>n,fun|0=>0|3=>3|4=>4|5=>5|9=>9|20=>20|37=>70|46=>251|51=>167|53=>262|70=>397|72=>399|75=>72|76=>224|80=>185|109=>395|127=>287|146=>409|148=>411|164=>242|n=>n,fun n=>n⟩
set_option maxRecDepth 100000 in
theorem Tryz.layRep:Lays.n105 Tryz.prog Tryz.renRep where
 mixed:=aa
 f99:=Tryz.func301.trans (congrArg some aa)
 f105:=Tryz.func300.trans (congrArg some aa)
 f165:=Tryz.func347.trans (congrArg some aa)
 f166:=Tryz.func348.trans (congrArg some aa)
 f169:=Tryz.func350.trans (congrArg some aa)
 f170:=Tryz.func349.trans (congrArg some aa)
 f206:=Tryz.func351.trans (congrArg some aa)
 f212:=Tryz.func346.trans (congrArg some aa)
 f240:=Tryz.func373.trans (congrArg some aa)
 f241:=Tryz.func374.trans (congrArg some aa)
 f263:=Tryz.func371.trans (congrArg some aa)
 f264:=Tryz.func372.trans (congrArg some aa)
 f276:=Tryz.func384.trans (congrArg some aa)
 f277:=Tryz.func367.trans (congrArg some aa)
 t0:=Tryz.underlying0
 a0:=Tryz.isAgg0
 z0:=Tryz.sizeOf0
 v0:=Tryz.zeroValue0
 t3:=Tryz.underlying3
 a3:=Tryz.isAgg3
 z3:=Tryz.sizeOf3
 v3:=Tryz.zeroValue3
 t4:=Tryz.underlying4
 a4:=Tryz.isAgg4
 z4:=Tryz.sizeOf4
 v4:=Tryz.zeroValue4
 t5:=Tryz.underlying5
 a5:=Tryz.isAgg5
 z5:=Tryz.sizeOf5
 v5:=Tryz.zeroValue5
 t9:=Tryz.underlying9
 a9:=Tryz.isAgg9
 z9:=Tryz.sizeOf9
 v9:=Tryz.zeroValue9
 t20:=Tryz.underlying20
 a20:=Tryz.isAgg20
 z20:=Tryz.sizeOf20
 v20:=Tryz.zeroValue20
 t37:=Tryz.underlying70
 a37:=Tryz.isAgg70
 z37:=Tryz.sizeOf70
 v37:=Tryz.zeroValue70
 t46:=Tryz.underlying251
 a46:=Tryz.isAgg251
 z46:=Tryz.sizeOf251
 v46:=Tryz.zeroValue251
 t51:=Tryz.underlying167
 a51:=Tryz.isAgg167
 z51:=Tryz.sizeOf167
 v51:=Tryz.zeroValue167
 t53:=Tryz.underlying262
 a53:=Tryz.isAgg262
 z53:=Tryz.sizeOf262
 v53:=Tryz.zeroValue262
 t70:=Tryz.underlying397
 a70:=Tryz.isAgg397
 z70:=Tryz.sizeOf397
 v70:=Tryz.zeroValue397
 t72:=Tryz.underlying399
 a72:=Tryz.isAgg399
 z72:=Tryz.sizeOf399
 v72:=Tryz.zeroValue399
 t75:=Tryz.underlying72
 a75:=Tryz.isAgg72
 z75:=Tryz.sizeOf72
 v75:=Tryz.zeroValue72
 t76:=Tryz.underlying224
 a76:=Tryz.isAgg224
 z76:=Tryz.sizeOf224
 v76:=Tryz.zeroValue224
 t109:=Tryz.underlying395
 a109:=Tryz.isAgg395
 z109:=Tryz.sizeOf395
 v109:=Tryz.zeroValue395
 t127:=Tryz.underlying287
 a127:=Tryz.isAgg287
 z127:=Tryz.sizeOf287
 v127:=Tryz.zeroValue287
 t146:=Tryz.underlying409
 a146:=Tryz.isAgg409
 z146:=Tryz.sizeOf409
 v146:=Tryz.zeroValue409
 t148:=Tryz.underlying411
 a148:=Tryz.isAgg411
 z148:=Tryz.sizeOf411
 v148:=Tryz.zeroValue411
 t164:=Tryz.underlying242
 a164:=Tryz.isAgg242
 z164:=Tryz.sizeOf242
 v164:=Tryz.zeroValue242
set_option maxRecDepth 100000 in
theorem Tryz.extRep:Builder.Extra Tryz.prog Tryz.renRep where
 sizeBuilder:=aa
 liesBuilder:=aa
 t5:=Tryz.underlying5
 a5:=Tryz.isAgg5
 z5:=Tryz.sizeOf5
 v5:=Tryz.zeroValue5
 infoByte:=aa
 cellsByte:=aa
 sizeByte:=aa
 neB5:=ar
end Go.Proofs

