/- Lemmas of this claim; the last text says what is proved. -/
import Derived.Test.YtblencgndjjleaaGreatDoorK33
import Derived.Test.YtblencgndjjleaaGreatDoorK32
set_option linter.all false
set_option maxRecDepth 1000000
namespace Tk
open Go Go.Sx Go.Proofs
open Q
variable [Syms]
theorem i_G{w0 w w':World}{F0:Fp}{ι:Inj}{H:AHeap}(hi:Inv w0 F0 ι H w)(h:RowKit.Below w.heap.size w w'):Inv w0 F0 ι H w':=by
 have key:∀{r:Nat} {o:Obj},w.heap[r]?=some o->w'.heap[r]?=some o:=fun{r o} ho=>by
  have hlt:r<w.heap.size:=by
   rcases Nat.lt_or_ge r w.heap.size with h'|h'
   ·exact h'
   ·rw[Array.getElem?_eq_none h'] at ho;cases ho
  rw[h.block r hlt];exact ho
 refine⟨fun id b hg=>?_,hi.inj,hi.fresh,fun r hr hf=>?_,Nat.le_trans hi.size h.size,h.tape.trans hi.tape,h.os.trans hi.os,h.output.trans hi.output,hi.glob,⟨fun r o hm=>?_,hi.fz.nofz,hi.fz.st,hi.fz.stinj,hi.fz.stad⟩⟩
 ·obtain⟨r,o,hr,ho,hb,hF⟩:=hi.blk id b hg
  exact⟨r,o,hr,key ho,hb,hF⟩
 ·rw[h.block r (Nat.lt_of_lt_of_le hr hi.size)]
  exact hi.frame r hr hf
 ·obtain⟨h1,h2⟩:=hi.fz.frz r o hm
  exact⟨key h1,h2⟩
theorem G_R(c:UInt8):∀n,Lib.repeatL [c] n=List.replicate n c
 |0=>rfl
 |n+1=>by rw[Lib.repeatL,G_R c n];rfl
theorem q_3:a_t Tryz.prog 300:=⟨Tryz.f300,aa,rfl,aa⟩
set_option maxRecDepth 100000 in
theorem w_d(T:TD):(rpS T).Body Tryz.prog 300/\True:=by
 refine⟨fun a ha w0 F0 ι w vs hi hd=>?_,trivial⟩
 obtain⟨c,n⟩:=a
 have ha:n<=140737488355328:=ha
 cases hd with
 |cons h1 h2=>
 cases h2 with
 |cons h2 h3=>
 cases h3
 cases h1
 cases h2
 have key:=Any.strings_Repeat Tryz.layRep Tryz.extRep ⟨[c].toArray⟩ n w ac (by show 1*n<=_;omega)
 refine Calls.mono key fun e w' he=>?_
 obtain⟨rfl,hbel⟩:=he
 have e2:Lib.repeatL [c] n=List.replicate n c:=G_R c n
 refine⟨.str (List.replicate n c),_,ι,⟨List.replicate n c,rfl,rfl,trivial,trivial,?_⟩,?_,Inj.bare_le _ _,i_G hi hbel⟩
 ·exact⟨rfl,l_q rfl trivial⟩
 ·rw[←e2];exact .str
def s_W(T:TD)(l:By)(W:Nat->Nat)(w:Nat)(g:Nat->By)(n:Nat)(k:Nat):Prop:=
 letI e3:=List UInt8;letI c3:=Int.ofNat k;letI d3:=Int.ofNat 0;letI t2:=[(32:UInt8)];letI k2:=[(124:UInt8)];letI h2:=List.length (g k);letI g2:=a_f (TD.wp T h_g);letI e2:=Value.int .i64 d3;letI f2:=Value.int .i64 (Int.ofNat n);letI c2:=t2=t2;letI d2:=fun(c:Nat)=>AVal.by_ (g c);letI a2:=k2=k2;letI w1:=decide (c3<Int.ofNat n);letI y1:=Value.int IntKind.i8 d3;letI z1:=decide (c3<Int.ofNat w);letI t1:=g2=g2;letI r1:=[(97:UInt8),108,105,103,110,101,100];letI n1:=Value.int .i64 (IntKind.wrap .i64 (Int.ofNat (k+1)));letI k1:=e2=e2;letI m1:=f2=f2;letI f1:=l++rowT r1 W g k;letI g1:=fun(i:Nat)=>AVal.lit (Value.int .i64 (Int.ofNat (W i)));letI h1:=l++rowT r1 W g n;letI a1:=y1=y1;letI z:=List.length f1;letI v:=SubF d2 d2 n [];letI q:=(f1,t2).fst;letI h:=(f1,k2).fst;letI f:=(∀(b:UInt8),b∈g k->UInt8.toNat b<128)/\h2<=70368744177664;letI e:=List.length q;letI d:=List.length h;letI a:=SubF g1 g1 w [];br w1 (gd w1 (gd (Nat.blt k n) (br (c3==d3) (t1/\Nat.le (d+1) 70368744177664/\a2/\gd (Nat.beq z d) (k1/\a1/\(∃(r:e3),f1=h++r)/\∀(x:e3),letI w2:=List.length x;x=h++k2->t1/\f/\g k=g k/\∀(x_1:Nat),letI p1:=IntKind.wrap .i64 (Int.ofNat (W k)-Int.ofNat x_1);letI u:=((32:UInt8),Int.toNat p1);letI m:=u.snd;letI p:=u.fst;x_1=h2->gd z1 (gd (Nat.blt k w) (t1/\Nat.le (w2+1) 70368744177664/\c2/\gd (Nat.beq w2 w2) (k1/\a1/\(∃(r:e3),x=x++r)/\∀(x_2:e3),letI u2:=(x_2,g k).snd;letI m2:=List.length x_2;x_2=x++t2->t1/\Nat.le (m2+List.length u2) 70368744177664/\g k=u2/\gd (Nat.beq m2 m2) (k1/\a1/\(∃(r:e3),x_2=x_2++r)/\∀(x:e3),letI y2:=List.length x;letI b2:=∃(r:e3),x=x++r;letI u1:=Nat.beq y2 y2;x=x_2++u2->br (decide (p1>d3)) (t1/\Nat.le m 140737488355328/\t2=[p]/\Value.int .i64 p1=Value.int .i64 (Int.ofNat m)/\∀(x_3:e3),x_3=List.replicate m p->t1/\Nat.le (y2+List.length x_3) 70368744177664/\x_3=x_3/\gd u1 (k1/\a1/\b2/\∀(x_4:e3),letI n2:=List.length x_4;x_4=x++x_3->t1/\Nat.le (n2+1) 70368744177664/\c2/\gd (Nat.beq n2 n2) (k1/\a1/\(∃(r:e3),x_4=x_4++r)/\∀(x:e3),letI z2:=List.length x;x=x_4++t2->t1/\Nat.le (z2+1) 70368744177664/\a2/\gd (Nat.beq z2 z2) (k1/\a1/\(∃(r:e3),x=x++r)/\∀(x_5:e3),x_5=x++k2->∃(j':Nat),letI b1:=l++rowT r1 W g j';Nat.le j' n/\n-j'<n-k/\t1/\w=w/\a/\n=n/\v/\m1/\n1=Value.int .i64 (Int.ofNat j')/\gd (Nat.beq (List.length x_5) (List.length b1)) (k1/\a1/\(∃(r:e3),x_5=b1++r)/\True))))) (t1/\Nat.le (y2+1) 70368744177664/\c2/\gd u1 (k1/\a1/\b2/\∀(x_3:e3),letI p2:=List.length x_3;x_3=x++t2->t1/\Nat.le (p2+1) 70368744177664/\a2/\gd (Nat.beq p2 p2) (k1/\a1/\(∃(r:e3),x_3=x_3++r)/\∀(x:e3),x=x_3++k2->∃(j':Nat),letI c1:=l++rowT r1 W g j';Nat.le j' n/\n-j'<n-k/\t1/\w=w/\a/\n=n/\v/\m1/\n1=Value.int .i64 (Int.ofNat j')/\gd (Nat.beq (List.length x) (List.length c1)) (k1/\a1/\(∃(r:e3),x=c1++r)/\True)))))))))) (t1/\f/\g k=g k/\∀(x:Nat),letI q1:=IntKind.wrap .i64 (Int.ofNat (W k)-Int.ofNat x);letI y:=((32:UInt8),Int.toNat q1);letI s:=y.snd;letI t:=y.fst;x=h2->gd z1 (gd (Nat.blt k w) (t1/\Nat.le (e+1) 70368744177664/\c2/\gd (Nat.beq z e) (k1/\a1/\(∃(r:e3),f1=q++r)/\∀(x_1:e3),letI v2:=(x_1,g k).snd;letI q2:=List.length x_1;x_1=q++t2->t1/\Nat.le (q2+List.length v2) 70368744177664/\g k=v2/\gd (Nat.beq q2 q2) (k1/\a1/\(∃(r:e3),x_1=x_1++r)/\∀(x_2:e3),letI r2:=List.length x_2;letI v1:=∃(r:e3),x_2=x_2++r;letI s1:=Nat.beq r2 r2;x_2=x_1++v2->br (decide (q1>d3)) (t1/\Nat.le s 140737488355328/\t2=[t]/\Value.int .i64 q1=Value.int .i64 (Int.ofNat s)/\∀(x_3:e3),x_3=List.replicate s t->t1/\Nat.le (r2+List.length x_3) 70368744177664/\x_3=x_3/\gd s1 (k1/\a1/\v1/\∀(x:e3),letI a3:=List.length x;x=x_2++x_3->t1/\Nat.le (a3+1) 70368744177664/\c2/\gd (Nat.beq a3 a3) (k1/\a1/\(∃(r:e3),x=x++r)/\∀(x_4:e3),letI s2:=List.length x_4;x_4=x++t2->t1/\Nat.le (s2+1) 70368744177664/\a2/\gd (Nat.beq s2 s2) (k1/\a1/\(∃(r:e3),x_4=x_4++r)/\∀(x:e3),x=x_4++k2->∃(j':Nat),letI d1:=l++rowT r1 W g j';Nat.le j' n/\n-j'<n-k/\t1/\w=w/\a/\n=n/\v/\m1/\n1=Value.int .i64 (Int.ofNat j')/\gd (Nat.beq (List.length x) (List.length d1)) (k1/\a1/\(∃(r:e3),x=d1++r)/\True))))) (t1/\Nat.le (r2+1) 70368744177664/\c2/\gd s1 (k1/\a1/\v1/\∀(x:e3),letI b3:=List.length x;x=x_2++t2->t1/\Nat.le (b3+1) 70368744177664/\a2/\gd (Nat.beq b3 b3) (k1/\a1/\(∃(r:e3),x=x++r)/\∀(x_3:e3),x_3=x++k2->∃(j':Nat),letI e1:=l++rowT r1 W g j';Nat.le j' n/\n-j'<n-k/\t1/\w=w/\a/\n=n/\v/\m1/\n1=Value.int .i64 (Int.ofNat j')/\gd (Nat.beq (List.length x_3) (List.length e1)) (k1/\a1/\(∃(r:e3),x_3=e1++r)/\True)))))))))))) (∃(x:Unit),True/\t1/\gd (Nat.beq z (List.length h1)) (k1/\a1/\(∃(r:e3),f1=h1++r)/\True))
def s_X(T:TD)(l:By)(W:Nat->Nat)(w:Nat)(g:Nat->By)(n:Nat)(k:Nat):Prop:=
 letI h2:=List UInt8;letI f2:=Int.ofNat k;letI g2:=Int.ofNat 0;letI y1:=[(32:UInt8)];letI t1:=[(124:UInt8)];letI s1:=List.length (g k);letI r1:=a_f (TD.wp T k_C);letI p1:=Value.int .i64 g2;letI q1:=Value.int .i64 (Int.ofNat n);letI m1:=y1=y1;letI n1:=fun(c:Nat)=>AVal.by_ (g c);letI k1:=t1=t1;letI f1:=decide (f2<Int.ofNat n);letI g1:=Value.int IntKind.i8 g2;letI h1:=decide (f2<Int.ofNat w);letI e1:=r1=r1;letI d1:=[(109:UInt8),105,110,105,109,97,108];letI c1:=Value.int .i64 (IntKind.wrap .i64 (Int.ofNat (k+1)));letI a1:=p1=p1;letI b1:=q1=q1;letI v:=l++rowT d1 W g k;letI y:=fun(i:Nat)=>AVal.lit (Value.int .i64 (Int.ofNat (W i)));letI z:=l++rowT d1 W g n;letI s:=g1=g1;letI q:=List.length v;letI p:=SubF n1 n1 n [];letI m:=(v,y1).fst;letI h:=(v,t1).fst;letI f:=(∀(b:UInt8),b∈g k->UInt8.toNat b<128)/\s1<=70368744177664;letI e:=List.length m;letI d:=List.length h;letI a:=SubF y y w [];br f1 (gd f1 (gd (Nat.blt k n) (br (f2==g2) (e1/\Nat.le (d+1) 70368744177664/\k1/\gd (Nat.beq q d) (a1/\s/\(∃(r:h2),v=h++r)/\∀(x:h2),letI a2:=List.length x;x=h++t1->e1/\f/\g k=g k/\∀(x_1:Nat),x_1=s1->gd h1 (gd (Nat.blt k w) (e1/\Nat.le (a2+1) 70368744177664/\m1/\gd (Nat.beq a2 a2) (a1/\s/\(∃(r:h2),x=x++r)/\∀(x_2:h2),letI z1:=(x_2,g k).snd;letI u1:=List.length x_2;x_2=x++y1->e1/\Nat.le (u1+List.length z1) 70368744177664/\g k=z1/\gd (Nat.beq u1 u1) (a1/\s/\(∃(r:h2),x_2=x_2++r)/\∀(x:h2),letI b2:=List.length x;x=x_2++z1->e1/\Nat.le (b2+1) 70368744177664/\m1/\gd (Nat.beq b2 b2) (a1/\s/\(∃(r:h2),x=x++r)/\∀(x_3:h2),letI v1:=List.length x_3;x_3=x++y1->e1/\Nat.le (v1+1) 70368744177664/\k1/\gd (Nat.beq v1 v1) (a1/\s/\(∃(r:h2),x_3=x_3++r)/\∀(x:h2),x=x_3++t1->∃(j':Nat),letI t:=l++rowT d1 W g j';Nat.le j' n/\n-j'<n-k/\e1/\w=w/\a/\n=n/\p/\b1/\c1=Value.int .i64 (Int.ofNat j')/\gd (Nat.beq (List.length x) (List.length t)) (a1/\s/\(∃(r:h2),x=t++r)/\True))))))))) (e1/\f/\g k=g k/\∀(x:Nat),x=s1->gd h1 (gd (Nat.blt k w) (e1/\Nat.le (e+1) 70368744177664/\m1/\gd (Nat.beq q e) (a1/\s/\(∃(r:h2),v=m++r)/\∀(x:h2),letI e2:=(x,g k).snd;letI c2:=List.length x;x=m++y1->e1/\Nat.le (c2+List.length e2) 70368744177664/\g k=e2/\gd (Nat.beq c2 c2) (a1/\s/\(∃(r:h2),x=x++r)/\∀(x_1:h2),letI w1:=List.length x_1;x_1=x++e2->e1/\Nat.le (w1+1) 70368744177664/\m1/\gd (Nat.beq w1 w1) (a1/\s/\(∃(r:h2),x_1=x_1++r)/\∀(x:h2),letI d2:=List.length x;x=x_1++y1->e1/\Nat.le (d2+1) 70368744177664/\k1/\gd (Nat.beq d2 d2) (a1/\s/\(∃(r:h2),x=x++r)/\∀(x_2:h2),x_2=x++t1->∃(j':Nat),letI u:=l++rowT d1 W g j';Nat.le j' n/\n-j'<n-k/\e1/\w=w/\a/\n=n/\p/\b1/\c1=Value.int .i64 (Int.ofNat j')/\gd (Nat.beq (List.length x_2) (List.length u)) (a1/\s/\(∃(r:h2),x_2=u++r)/\True))))))))))) (∃(x:Unit),True/\e1/\gd (Nat.beq q (List.length z)) (a1/\s/\(∃(r:h2),v=z++r)/\True))
def s_Y(T:TD)(l:By)(W:Nat->Nat)(w:Nat)(g:Nat->By)(n:Nat)(k:Nat):Prop:=
 letI c2:=List UInt8;letI a2:=Int.ofNat k;letI b2:=Int.ofNat 0;letI u1:=[(124:UInt8)];letI t1:=List.length (g k);letI s1:=a_f (TD.wp T m_v);letI q1:=Value.int .i64 b2;letI r1:=Value.int .i64 (Int.ofNat n);letI p1:=[(110:UInt8),111,110,101];letI n1:=fun(c:Nat)=>AVal.by_ (g c);letI m1:=u1=u1;letI g1:=decide (a2<Int.ofNat n);letI h1:=Value.int IntKind.i8 b2;letI k1:=decide (a2<Int.ofNat w);letI f1:=s1=s1;letI d1:=l++rowT p1 W g k;letI e1:=l++rowT p1 W g n;letI a1:=(d1,g k);letI z:=Value.int .i64 (IntKind.wrap .i64 (Int.ofNat (k+1)));letI v:=a1.fst;letI y:=a1.snd;letI t:=q1=q1;letI u:=r1=r1;letI q:=List.length d1;letI s:=fun(i:Nat)=>AVal.lit (Value.int .i64 (Int.ofNat (W i)));letI m:=(d1,u1).fst;letI p:=List.length v;letI h:=h1=h1;letI f:=SubF n1 n1 n [];letI e:=List.length m;letI d:=(∀(b:UInt8),b∈g k->UInt8.toNat b<128)/\t1<=70368744177664;letI a:=SubF s s w [];br g1 (gd g1 (gd (Nat.blt k n) (br (a2==b2) (f1/\Nat.le (e+1) 70368744177664/\m1/\gd (Nat.beq q e) (t/\h/\(∃(r:c2),d1=m++r)/\∀(x:c2),letI z1:=(x,g k).snd;letI w1:=List.length x;x=m++u1->f1/\d/\g k=g k/\∀(x_1:Nat),x_1=t1->gd k1 (gd (Nat.blt k w) (f1/\Nat.le (w1+List.length z1) 70368744177664/\g k=z1/\gd (Nat.beq w1 w1) (t/\h/\(∃(r:c2),x=x++r)/\∀(x_2:c2),letI v1:=List.length x_2;x_2=x++z1->f1/\Nat.le (v1+1) 70368744177664/\m1/\gd (Nat.beq v1 v1) (t/\h/\(∃(r:c2),x_2=x_2++r)/\∀(x:c2),x=x_2++u1->∃(j':Nat),letI b1:=l++rowT p1 W g j';Nat.le j' n/\n-j'<n-k/\f1/\w=w/\a/\n=n/\f/\u/\z=Value.int .i64 (Int.ofNat j')/\gd (Nat.beq (List.length x) (List.length b1)) (t/\h/\(∃(r:c2),x=b1++r)/\True))))))) (f1/\d/\g k=g k/\∀(x:Nat),x=t1->gd k1 (gd (Nat.blt k w) (f1/\Nat.le (p+List.length y) 70368744177664/\g k=y/\gd (Nat.beq q p) (t/\h/\(∃(r:c2),d1=v++r)/\∀(x:c2),letI y1:=List.length x;x=v++y->f1/\Nat.le (y1+1) 70368744177664/\m1/\gd (Nat.beq y1 y1) (t/\h/\(∃(r:c2),x=x++r)/\∀(x_1:c2),x_1=x++u1->∃(j':Nat),letI c1:=l++rowT p1 W g j';Nat.le j' n/\n-j'<n-k/\f1/\w=w/\a/\n=n/\f/\u/\z=Value.int .i64 (Int.ofNat j')/\gd (Nat.beq (List.length x_1) (List.length c1)) (t/\h/\(∃(r:c2),x_1=c1++r)/\True))))))))) (∃(x:Unit),True/\f1/\gd (Nat.beq q (List.length e1)) (t/\h/\(∃(r:c2),d1=e1++r)/\True))
def owR(T:TD)(l:By)(W:Nat->Nat)(w:Nat)(g:Nat->By)(n:Nat):Prop:=
 letI p:=Int.ofNat 0;letI m:=a_f T=a_f T;letI h:=l++rowT T.pad W g 0;letI k:=l++rowT T.pad W g n;letI e:=Value.int .i64 (Int.ofNat n);letI f:=Value.int .i64 p;letI d:=Value.int IntKind.i8 p;letI b:=f=f;letI a:=d=d;Nat.le 0 n/\(m/\w=w/\SubF (fun(i:Nat)=>AVal.lit (Value.int .i64 (Int.ofNat ((W,w,g,n).fst i)))) (fun(i:Nat)=>AVal.lit (Value.int .i64 (Int.ofNat (W i)))) w []/\n=n/\SubF (fun(c:Nat)=>AVal.by_ ((g,n).fst c)) (fun(c:Nat)=>AVal.by_ (g c)) n []/\e=e/\b/\gd (Nat.beq (List.length l) (List.length h)) (b/\a/\(∃(r:List UInt8),l=h++r)/\True))/\∀(x:Unit),True->∃(x:By),x=k/\m/\True/\((True/\True/\True)/\True)/\gd (Nat.beq (List.length k) (List.length x)) (b/\a/\(∃(r:List UInt8),k=x++r)/\True)
theorem q_4(T:TD):TabOk Tryz.prog (owU T):=by
 refine⟨fun f s h=>?_,fun f s h=>?_⟩
 ·unfold owU at h
  simp only at h
  split at h
  ·cases h;exact a_d q_1 (w_a T).1
  ·cases h;exact a_d q_3 (w_d T).1
  ·cases h;exact a_d f_L (n_8 T)
  ·cases h;exact a_d q_2 (wr_ok T)
  ·cases h
 ·cases h
theorem w_e(T:TD)(l:By)(W:Nat->Nat)(w:Nat)(g:Nat->By)(n:Nat)(k:Nat)(hd:OwOk (T.wp h_g) l W w g n)(h:k<=n):s_W T l W w g n k:=by
 unfold s_W
 obtain⟨h1,h2,h3,h4,h5,h6⟩:=hd
 simp only[a_i,e_s] at h1 h2 h5
 have e1:∀m:Nat,m<=1000->IntKind.wrap IntKind.i64 (Int.ofNat m)=Int.ofNat m:=fun m h=>a_o ab ab
 have tk:∀l:By,List.take l.length l=l:=fun l=>List.take_length
 simp only[e1 (k+1) ac,tk]
 simp only[sj3,eq_self,implies_true,forall_eq,b_F,b_P,Nat.le_eq,sj2,a_e,sj0]
 have rL:(rowT [97,108,105,103,110,101,100] W g k).length<=k*4294967300:=b_7 h2 (fun c=>(h5 c).2) k
 have gk:=(h5 k).2
 have wk:=h2 k
 have hW:IntKind.wrap IntKind.i64 ((W k:Int)-((g k).length:Nat))=(W k:Int)-((g k).length:Nat):=a_o ac ac
 have tN:((W k:Int)-((g k).length:Nat)).toNat=W k-(g k).length:=ac
 have rE:rowT [97,108,105,103,110,101,100] W g (k+1)=rowT [97,108,105,103,110,101,100] W g k++(bar0 k++([32]++g k++List.replicate (W k-(g k).length) 32++[32]++[124])):=rfl
 have b0:k=0->bar0 k=[124]:=fun h=>bC
 have b1:¬k=0->bar0 k=[]:=fun h=>aE
 have w7:∀b∈g k,b.toNat<128:=fun b hb=>by have:=(h5 k).1 b hb;unfold wc at this;omega
 try simp only[hW,tN,List.length_replicate]
 repeat' (first|done|omega|exact trivial|exact rfl|assumption|exact fun _ _ _=>a_g rfl|exact fun _ _ _=>byA|exact congrArg _ ac|exact⟨[],(List.append_nil _).symm⟩|(refine⟨[],?_⟩;rw[rE];(first|rw[b0 ai]|rw[b1 ai]);(try rw[show W k-(g k).length=0 by omega]);simp;done)|(rw[rE];(first|rw[b0 ai]|rw[b1 ai]);(try rw[show W k-(g k).length=0 by omega]);simp only[List.length_append,List.length_cons,List.length_nil,List.length_replicate];omega)|(refine⟨(k+1:Nat),?_⟩)|(have hkn:k=n:=ac;subst hkn;(first|exact rfl|exact⟨[],an⟩))|intro _|refine And.intro ?_ ?_)
theorem w_f(T:TD)(l:By)(W:Nat->Nat)(w:Nat)(g:Nat->By)(n:Nat)(k:Nat)(hd:OwOk (T.wp k_C) l W w g n)(h:k<=n):s_X T l W w g n k:=by
 unfold s_X
 obtain⟨h1,h2,h3,h4,h5,h6⟩:=hd
 simp only[a_i,e_s] at h1 h2 h5
 have e1:∀m:Nat,m<=1000->IntKind.wrap IntKind.i64 (Int.ofNat m)=Int.ofNat m:=fun m h=>a_o ab ab
 have tk:∀l:By,List.take l.length l=l:=fun l=>List.take_length
 simp only[e1 (k+1) ac,tk]
 simp only[sj3,eq_self,implies_true,forall_eq,b_F,b_P,Nat.le_eq,sj2,a_e,sj0]
 have rL:(rowT [109,105,110,105,109,97,108] W g k).length<=k*4294967300:=b_7 h2 (fun c=>(h5 c).2) k
 have gk:=(h5 k).2
 have wk:=h2 k
 have hW:IntKind.wrap IntKind.i64 ((W k:Int)-((g k).length:Nat))=(W k:Int)-((g k).length:Nat):=a_o ac ac
 have tN:((W k:Int)-((g k).length:Nat)).toNat=W k-(g k).length:=ac
 have rE:rowT [109,105,110,105,109,97,108] W g (k+1)=rowT [109,105,110,105,109,97,108] W g k++(bar0 k++([32]++g k++[]++[32]++[124])):=rfl
 have b0:k=0->bar0 k=[124]:=fun h=>bC
 have b1:¬k=0->bar0 k=[]:=fun h=>aE
 have w7:∀b∈g k,b.toNat<128:=fun b hb=>by have:=(h5 k).1 b hb;unfold wc at this;omega
 try simp only[hW,tN,List.length_replicate]
 repeat' (first|done|omega|exact trivial|exact rfl|assumption|exact fun _ _ _=>a_g rfl|exact fun _ _ _=>byA|exact congrArg _ ac|exact⟨[],(List.append_nil _).symm⟩|(refine⟨[],?_⟩;rw[rE];(first|rw[b0 ai]|rw[b1 ai]);(try rw[show W k-(g k).length=0 by omega]);simp;done)|(rw[rE];(first|rw[b0 ai]|rw[b1 ai]);(try rw[show W k-(g k).length=0 by omega]);simp only[List.length_append,List.length_cons,List.length_nil,List.length_replicate];omega)|(refine⟨(k+1:Nat),?_⟩)|(have hkn:k=n:=ac;subst hkn;(first|exact rfl|exact⟨[],an⟩))|intro _|refine And.intro ?_ ?_)
theorem w_g(T:TD)(l:By)(W:Nat->Nat)(w:Nat)(g:Nat->By)(n:Nat)(k:Nat)(hd:OwOk (T.wp m_v) l W w g n)(h:k<=n):s_Y T l W w g n k:=by
 unfold s_Y
 obtain⟨h1,h2,h3,h4,h5,h6⟩:=hd
 simp only[a_i,e_s] at h1 h2 h5
 have e1:∀m:Nat,m<=1000->IntKind.wrap IntKind.i64 (Int.ofNat m)=Int.ofNat m:=fun m h=>a_o ab ab
 have tk:∀l:By,List.take l.length l=l:=fun l=>List.take_length
 simp only[e1 (k+1) ac,tk]
 simp only[sj3,eq_self,implies_true,forall_eq,b_F,b_P,Nat.le_eq,sj2,a_e,sj0]
 have rL:(rowT [110,111,110,101] W g k).length<=k*4294967300:=b_7 h2 (fun c=>(h5 c).2) k
 have gk:=(h5 k).2
 have wk:=h2 k
 have hW:IntKind.wrap IntKind.i64 ((W k:Int)-((g k).length:Nat))=(W k:Int)-((g k).length:Nat):=a_o ac ac
 have tN:((W k:Int)-((g k).length:Nat)).toNat=W k-(g k).length:=ac
 have rE:rowT [110,111,110,101] W g (k+1)=rowT [110,111,110,101] W g k++(bar0 k++([]++g k++[]++[]++[124])):=rfl
 have b0:k=0->bar0 k=[124]:=fun h=>bC
 have b1:¬k=0->bar0 k=[]:=fun h=>aE
 have w7:∀b∈g k,b.toNat<128:=fun b hb=>by have:=(h5 k).1 b hb;unfold wc at this;omega
 try simp only[hW,tN,List.length_replicate]
 repeat' (first|done|omega|exact trivial|exact rfl|assumption|exact fun _ _ _=>a_g rfl|exact fun _ _ _=>byA|exact congrArg _ ac|exact⟨[],(List.append_nil _).symm⟩|(refine⟨[],?_⟩;rw[rE];(first|rw[b0 ai]|rw[b1 ai]);(try rw[show W k-(g k).length=0 by omega]);simp;done)|(rw[rE];(first|rw[b0 ai]|rw[b1 ai]);(try rw[show W k-(g k).length=0 by omega]);simp only[List.length_append,List.length_cons,List.length_nil,List.length_replicate];omega)|(refine⟨(k+1:Nat),?_⟩)|(have hkn:k=n:=ac;subst hkn;(first|exact rfl|exact⟨[],an⟩))|intro _|refine And.intro ?_ ?_)
theorem E_v(T:TD)(l:By)(W:Nat->Nat)(w:Nat)(g:Nat->By)(n:Nat)(hd:OwOk T l W w g n):(owD T l W w g n).Body Tryz.prog (sub (a_b Tryz.f416) [0,0,1]):=by
 refine LoopD.bodyH (root:=(a_b Tryz.f416)) [0,0,1] a_l (q_4 T) (LTok.nil) 1000 ?_
 intro k hk
 rcases hd.2.2.2.2.2 with h|h|h
 ·obtain⟨T',rfl⟩:=t_v h;exact Ho.of (s_W T' l W w g n k) aa (w_e T' l W w g n k hd hk)
 ·obtain⟨T',rfl⟩:=t_v h;exact Ho.of (s_X T' l W w g n k) aa (w_f T' l W w g n k hd hk)
 ·obtain⟨T',rfl⟩:=t_v h;exact Ho.of (s_Y T' l W w g n k) aa (w_g T' l W w g n k hd hk)
theorem I_g(T:TD)(l:By)(W:Nat->Nat)(w:Nat)(g:Nat->By)(n:Nat)(hd:OwOk T l W w g n):owR T l W w g n:=by
 unfold owR
 obtain⟨h1,h2,h3,h4,h5,h6⟩:=hd
 simp only[sj3,eq_self,implies_true,forall_eq,b_F,b_P,Nat.le_eq,sj2,a_e,sj0]
 exact⟨ac,⟨fun _ _ _=>a_g rfl,fun _ _ _=>byA,by simp[rowT],[],by simp[rowT]⟩,fun _ _=>⟨[],an⟩⟩
theorem w_h:a_t Tryz.prog 416:=⟨Tryz.f416,aa,rfl,aa⟩
theorem E_w(T:TD):(owS T).Body Tryz.prog 416/\(owS T).BodyD Tryz.prog 416:=by
 refine a_c (fn:=Tryz.f416) (b:=a_b Tryz.f416) (LT:=fun a=>[([0,1],(owD T a.1 a.2.1 a.2.2.1 a.2.2.2.1 a.2.2.2.2).at (0:Nat))]) a_l (q_4 T) 1000 (fun a ha=>LTok.cons (fun fr H K hk=>LoopD.ok (E_v T a.1 a.2.1 a.2.2.1 a.2.2.2.1 a.2.2.2.2 ha) hk) (LTok.nil)) aa aa ?_
 exact fun a ha=>Ho.of (owR T a.1 a.2.1 a.2.2.1 a.2.2.2.1 a.2.2.2.2) aa (I_g T a.1 a.2.1 a.2.2.1 a.2.2.2.1 a.2.2.2.2 ha)
def agR(T:TD)(n:Nat)(i:Nat):Prop:=
 letI a:=∃(x:Unit),True/\a_f T=a_f T/\True/\True/\([]:List UInt8)=[]/\True;br (decide (Int.ofNat i>IntKind.wrap .i64 (Int.ofNat n-Int.ofNat 1))) a (gd (decide (Int.ofNat i<Int.ofNat n)) (gd (Nat.blt i n) a))
theorem I_h(T:TD)(n i:Nat)(h:n<=1000/\i<=1000):agR T n i:=by
 unfold agR
 obtain⟨h1,h2⟩:=h
 simp only[sj3,eq_self,implies_true,forall_eq,b_F,b_P,Nat.le_eq,sj2,a_e,sj0]
 intro h
 rw[show((n:Int)-((1:Nat):Int))=(n:Int)-1 from rfl,a_o ac ac] at h
 omega
theorem w_i:a_t Tryz.prog 428:=⟨Tryz.f428,aa,rfl,aa⟩
theorem E_x(T:TD):(agS T).Body Tryz.prog 428/\(agS T).BodyD Tryz.prog 428:=by
 refine a_c (fn:=Tryz.f428) (b:=a_b Tryz.f428) (LT:=fun _=>[]) a_l (a_y) 1000 (fun a ha=>LTok.nil) aa aa ?_
 exact fun a ha=>Ho.of (agR T a.1 a.2) aa (I_h T a.1 a.2 ha)
end Tk

