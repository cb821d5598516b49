/- Lemmas of this claim; the last text says what is proved. -/
import Derived.Test.YtblencgndjjleaaGreatDoorK34
set_option linter.all false
set_option maxRecDepth 1000000
namespace Tk
open Go Go.Sx Go.Proofs
open Q
variable [Syms]
def s_Z(T:TD)(l:By)(W:Nat->Nat)(w:Nat)(nA:Nat)(k:Nat):Prop:=
 letI g2:=List UInt8;letI e2:=Int.ofNat k;letI f2:=Int.ofNat 0;letI z1:=[(45:UInt8)];letI u1:=[(124:UInt8)];letI s1:=a_f (TD.wp T h_g);letI t1:=((45:UInt8),W k);letI q1:=t1.snd;letI r1:=t1.fst;letI k1:=fun(x:Nat)=>AVal.str [];letI m1:=Value.int .i64 e2;letI n1:=Value.int .i64 f2;letI p1:=Value.int .i64 (Int.ofNat w);letI h1:=z1=z1;letI g1:=u1=u1;letI e1:=decide (e2<Int.ofNat w);letI f1:=Value.int IntKind.i8 f2;letI d1:=s1=s1;letI c1:=z1=[r1];letI b1:=[(97:UInt8),108,105,103,110,101,100];letI a1:=Nat.le q1 140737488355328;letI z:=Value.int .i64 (IntKind.wrap .i64 (Int.ofNat (k+1)));letI v:=l++undT b1 W k;letI y:=l++undT b1 W w;letI q:=n1=n1;letI s:=p1=p1;letI p:=fun(i:Nat)=>AVal.lit (Value.int .i64 (Int.ofNat (W i)));letI n:=List.replicate q1 r1;letI m:=f1=f1;letI g:=SubF k1 k1 nA [];letI h:=List.length v;letI f:=(v,z1).fst;letI e:=(v,u1).fst;letI d:=Value.int .i64 (Int.ofNat (W k))=Value.int .i64 (Int.ofNat q1);letI c:=List.length f;letI b:=List.length e;letI a:=SubF p p w [];br e1 (gd e1 (gd (Nat.blt k w) (d1/\(nA<=1000/\k<=1000)/\nA=nA/\g/\m1=m1/\∀(x:Unit),True->br (e2==f2) (d1/\Nat.le (b+1) 70368744177664/\g1/\gd (Nat.beq h b) (q/\m/\(∃(r:g2),v=e++r)/\∀(x:g2),letI a2:=List.length x;x=e++u1->d1/\Nat.le (a2+1) 70368744177664/\h1/\gd (Nat.beq a2 a2) (q/\m/\(∃(r:g2),x=x++r)/\∀(x_1:g2),letI v1:=List.length x_1;x_1=x++z1->d1/\a1/\c1/\d/\∀(x:g2),x=n->d1/\Nat.le (v1+List.length x) 70368744177664/\x=x/\gd (Nat.beq v1 v1) (q/\m/\(∃(r:g2),x_1=x_1++r)/\∀(x_2:g2),letI w1:=List.length x_2;x_2=x_1++x->d1/\Nat.le (w1+1) 70368744177664/\h1/\gd (Nat.beq w1 w1) (q/\m/\(∃(r:g2),x_2=x_2++r)/\∀(x:g2),letI b2:=List.length x;x=x_2++z1->d1/\Nat.le (b2+1) 70368744177664/\g1/\gd (Nat.beq b2 b2) (q/\m/\(∃(r:g2),x=x++r)/\∀(x_3:g2),x_3=x++u1->∃(j':Nat),letI t:=l++undT b1 W j';Nat.le j' w/\w-j'<w-k/\d1/\nA=nA/\g/\w=w/\a/\s/\z=Value.int .i64 (Int.ofNat j')/\gd (Nat.beq (List.length x_3) (List.length t)) (q/\m/\(∃(r:g2),x_3=t++r)/\True))))))) (d1/\Nat.le (c+1) 70368744177664/\h1/\gd (Nat.beq h c) (q/\m/\(∃(r:g2),v=f++r)/\∀(x:g2),letI c2:=List.length x;x=f++z1->d1/\a1/\c1/\d/\∀(x_1:g2),x_1=n->d1/\Nat.le (c2+List.length x_1) 70368744177664/\x_1=x_1/\gd (Nat.beq c2 c2) (q/\m/\(∃(r:g2),x=x++r)/\∀(x_2:g2),letI y1:=List.length x_2;x_2=x++x_1->d1/\Nat.le (y1+1) 70368744177664/\h1/\gd (Nat.beq y1 y1) (q/\m/\(∃(r:g2),x_2=x_2++r)/\∀(x:g2),letI d2:=List.length x;x=x_2++z1->d1/\Nat.le (d2+1) 70368744177664/\g1/\gd (Nat.beq d2 d2) (q/\m/\(∃(r:g2),x=x++r)/\∀(x_3:g2),x_3=x++u1->∃(j':Nat),letI u:=l++undT b1 W j';Nat.le j' w/\w-j'<w-k/\d1/\nA=nA/\g/\w=w/\a/\s/\z=Value.int .i64 (Int.ofNat j')/\gd (Nat.beq (List.length x_3) (List.length u)) (q/\m/\(∃(r:g2),x_3=u++r)/\True))))))))) (∃(x:Unit),True/\d1/\gd (Nat.beq h (List.length y)) (q/\m/\(∃(r:g2),v=y++r)/\True))
def s_0(T:TD)(l:By)(W:Nat->Nat)(w:Nat)(nA:Nat)(k:Nat):Prop:=
 letI z1:=List UInt8;letI w1:=Int.ofNat k;letI y1:=Int.ofNat 0;letI r1:=[(45:UInt8)];letI m1:=[(124:UInt8)];letI k1:=a_f (TD.wp T k_C);letI e1:=fun(x:Nat)=>AVal.str [];letI f1:=Value.int .i64 w1;letI g1:=Value.int .i64 y1;letI h1:=Value.int .i64 (Int.ofNat w);letI d1:=r1=r1;letI c1:=m1=m1;letI a1:=decide (w1<Int.ofNat w);letI b1:=Value.int IntKind.i8 y1;letI z:=k1=k1;letI y:=[(109:UInt8),105,110,105,109,97,108];letI v:=Value.int .i64 (IntKind.wrap .i64 (Int.ofNat (k+1)));letI t:=l++undT y W k;letI u:=l++undT y W w;letI n:=g1=g1;letI p:=h1=h1;letI m:=fun(i:Nat)=>AVal.lit (Value.int .i64 (Int.ofNat (W i)));letI h:=b1=b1;letI f:=SubF e1 e1 nA [];letI g:=List.length t;letI e:=(t,r1).fst;letI d:=(t,m1).fst;letI c:=List.length e;letI b:=List.length d;letI a:=SubF m m w [];br a1 (gd a1 (gd (Nat.blt k w) (z/\(nA<=1000/\k<=1000)/\nA=nA/\f/\f1=f1/\∀(x:Unit),True->br (w1==y1) (z/\Nat.le (b+1) 70368744177664/\c1/\gd (Nat.beq g b) (n/\h/\(∃(r:z1),t=d++r)/\∀(x:z1),letI s1:=List.length x;x=d++m1->z/\Nat.le (s1+1) 70368744177664/\d1/\gd (Nat.beq s1 s1) (n/\h/\(∃(r:z1),x=x++r)/\∀(x_1:z1),letI n1:=List.length x_1;x_1=x++r1->z/\Nat.le (n1+1) 70368744177664/\d1/\gd (Nat.beq n1 n1) (n/\h/\(∃(r:z1),x_1=x_1++r)/\∀(x:z1),letI t1:=List.length x;x=x_1++r1->z/\Nat.le (t1+1) 70368744177664/\d1/\gd (Nat.beq t1 t1) (n/\h/\(∃(r:z1),x=x++r)/\∀(x_2:z1),letI p1:=List.length x_2;x_2=x++r1->z/\Nat.le (p1+1) 70368744177664/\c1/\gd (Nat.beq p1 p1) (n/\h/\(∃(r:z1),x_2=x_2++r)/\∀(x:z1),x=x_2++m1->∃(j':Nat),letI q:=l++undT y W j';Nat.le j' w/\w-j'<w-k/\z/\nA=nA/\f/\w=w/\a/\p/\v=Value.int .i64 (Int.ofNat j')/\gd (Nat.beq (List.length x) (List.length q)) (n/\h/\(∃(r:z1),x=q++r)/\True))))))) (z/\Nat.le (c+1) 70368744177664/\d1/\gd (Nat.beq g c) (n/\h/\(∃(r:z1),t=e++r)/\∀(x:z1),letI u1:=List.length x;x=e++r1->z/\Nat.le (u1+1) 70368744177664/\d1/\gd (Nat.beq u1 u1) (n/\h/\(∃(r:z1),x=x++r)/\∀(x_1:z1),letI q1:=List.length x_1;x_1=x++r1->z/\Nat.le (q1+1) 70368744177664/\d1/\gd (Nat.beq q1 q1) (n/\h/\(∃(r:z1),x_1=x_1++r)/\∀(x:z1),letI v1:=List.length x;x=x_1++r1->z/\Nat.le (v1+1) 70368744177664/\c1/\gd (Nat.beq v1 v1) (n/\h/\(∃(r:z1),x=x++r)/\∀(x_2:z1),x_2=x++m1->∃(j':Nat),letI s:=l++undT y W j';Nat.le j' w/\w-j'<w-k/\z/\nA=nA/\f/\w=w/\a/\p/\v=Value.int .i64 (Int.ofNat j')/\gd (Nat.beq (List.length x_2) (List.length s)) (n/\h/\(∃(r:z1),x_2=s++r)/\True))))))))) (∃(x:Unit),True/\z/\gd (Nat.beq g (List.length u)) (n/\h/\(∃(r:z1),t=u++r)/\True))
def s_1(T:TD)(l:By)(W:Nat->Nat)(w:Nat)(nA:Nat)(k:Nat):Prop:=
 letI z1:=List UInt8;letI w1:=Int.ofNat k;letI y1:=Int.ofNat 0;letI r1:=[(45:UInt8)];letI m1:=[(124:UInt8)];letI k1:=a_f (TD.wp T m_v);letI e1:=fun(x:Nat)=>AVal.str [];letI f1:=Value.int .i64 w1;letI g1:=Value.int .i64 y1;letI h1:=Value.int .i64 (Int.ofNat w);letI d1:=[(110:UInt8),111,110,101];letI c1:=r1=r1;letI b1:=m1=m1;letI z:=decide (w1<Int.ofNat w);letI a1:=Value.int IntKind.i8 y1;letI y:=k1=k1;letI u:=l++undT d1 W k;letI v:=l++undT d1 W w;letI q:=Value.int .i64 (IntKind.wrap .i64 (Int.ofNat (k+1)));letI p:=List.length u;letI m:=g1=g1;letI n:=h1=h1;letI h:=fun(i:Nat)=>AVal.lit (Value.int .i64 (Int.ofNat (W i)));letI g:=(u,r1).fst;letI f:=(u,m1).fst;letI e:=a1=a1;letI d:=SubF e1 e1 nA [];letI c:=List.length g;letI b:=List.length f;letI a:=SubF h h w [];br z (gd z (gd (Nat.blt k w) (y/\(nA<=1000/\k<=1000)/\nA=nA/\d/\f1=f1/\∀(x:Unit),True->br (w1==y1) (y/\Nat.le (b+1) 70368744177664/\b1/\gd (Nat.beq p b) (m/\e/\(∃(r:z1),u=f++r)/\∀(x:z1),letI s1:=List.length x;x=f++m1->y/\Nat.le (s1+1) 70368744177664/\c1/\gd (Nat.beq s1 s1) (m/\e/\(∃(r:z1),x=x++r)/\∀(x_1:z1),letI n1:=List.length x_1;x_1=x++r1->y/\Nat.le (n1+1) 70368744177664/\c1/\gd (Nat.beq n1 n1) (m/\e/\(∃(r:z1),x_1=x_1++r)/\∀(x:z1),letI t1:=List.length x;x=x_1++r1->y/\Nat.le (t1+1) 70368744177664/\c1/\gd (Nat.beq t1 t1) (m/\e/\(∃(r:z1),x=x++r)/\∀(x_2:z1),letI p1:=List.length x_2;x_2=x++r1->y/\Nat.le (p1+1) 70368744177664/\b1/\gd (Nat.beq p1 p1) (m/\e/\(∃(r:z1),x_2=x_2++r)/\∀(x:z1),x=x_2++m1->∃(j':Nat),letI s:=l++undT d1 W j';Nat.le j' w/\w-j'<w-k/\y/\nA=nA/\d/\w=w/\a/\n/\q=Value.int .i64 (Int.ofNat j')/\gd (Nat.beq (List.length x) (List.length s)) (m/\e/\(∃(r:z1),x=s++r)/\True))))))) (y/\Nat.le (c+1) 70368744177664/\c1/\gd (Nat.beq p c) (m/\e/\(∃(r:z1),u=g++r)/\∀(x:z1),letI u1:=List.length x;x=g++r1->y/\Nat.le (u1+1) 70368744177664/\c1/\gd (Nat.beq u1 u1) (m/\e/\(∃(r:z1),x=x++r)/\∀(x_1:z1),letI q1:=List.length x_1;x_1=x++r1->y/\Nat.le (q1+1) 70368744177664/\c1/\gd (Nat.beq q1 q1) (m/\e/\(∃(r:z1),x_1=x_1++r)/\∀(x:z1),letI v1:=List.length x;x=x_1++r1->y/\Nat.le (v1+1) 70368744177664/\b1/\gd (Nat.beq v1 v1) (m/\e/\(∃(r:z1),x=x++r)/\∀(x_2:z1),x_2=x++m1->∃(j':Nat),letI t:=l++undT d1 W j';Nat.le j' w/\w-j'<w-k/\y/\nA=nA/\d/\w=w/\a/\n/\q=Value.int .i64 (Int.ofNat j')/\gd (Nat.beq (List.length x_2) (List.length t)) (m/\e/\(∃(r:z1),x_2=t++r)/\True))))))))) (∃(x:Unit),True/\y/\gd (Nat.beq p (List.length v)) (m/\e/\(∃(r:z1),u=v++r)/\True))
def uwR(T:TD)(l:By)(W:Nat->Nat)(w:Nat)(nA:Nat):Prop:=
 letI m:=Int.ofNat 0;letI k:=a_f T=a_f T;letI g:=l++undT T.pad W 0;letI h:=l++undT T.pad W w;letI d:=fun(x:Nat)=>AVal.str [];letI e:=Value.int .i64 (Int.ofNat w);letI f:=Value.int .i64 m;letI c:=Value.int IntKind.i8 m;letI b:=f=f;letI a:=c=c;Nat.le 0 w/\(k/\nA=nA/\SubF d d nA []/\w=w/\SubF (fun(i:Nat)=>AVal.lit (Value.int .i64 (Int.ofNat ((W,w,nA).fst i)))) (fun(i:Nat)=>AVal.lit (Value.int .i64 (Int.ofNat (W i)))) w []/\e=e/\b/\gd (Nat.beq (List.length l) (List.length g)) (b/\a/\(∃(r:List UInt8),l=g++r)/\True))/\∀(x:Unit),True->∃(x:By),x=h/\k/\True/\((True/\True/\True)/\True)/\gd (Nat.beq (List.length h) (List.length x)) (b/\a/\(∃(r:List UInt8),h=x++r)/\True)
theorem q_5(T:TD):TabOk Tryz.prog (uwU T):=by
 refine⟨fun f s h=>?_,fun f s h=>?_⟩
 ·unfold uwU at h
  simp only at h
  split at h
  ·cases h;exact a_d w_i (E_x T).1
  ·cases h;exact a_d q_3 (w_d T).1
  ·cases h;exact a_d f_L (n_8 T)
  ·cases h;exact a_d q_2 (wr_ok T)
  ·cases h
 ·cases h
theorem w_j(T:TD)(l:By)(W:Nat->Nat)(w nA:Nat)(k:Nat)(hd:UwOk (T.wp h_g) l W w nA)(h:k<=w):s_Z T l W w nA k:=by
 unfold s_Z
 obtain⟨h1,h2,h3,h4,h5,h6⟩:=hd
 simp only[a_i,e_s] at h1 h2 h5
 have e1:∀m:Nat,m<=1000->IntKind.wrap IntKind.i64 (Int.ofNat m)=Int.ofNat m:=fun m h=>a_o ab ab
 have tk:∀l:By,List.take l.length l=l:=fun l=>List.take_length
 simp only[e1 (k+1) ac,tk]
 simp only[sj3,eq_self,implies_true,forall_eq,b_F,b_P,Nat.le_eq,sj2,a_e,sj0]
 have rL:(undT [97,108,105,103,110,101,100] W k).length<=k*4294967300:=c_o h2 k
 have wk:=h2 k
 have rE:undT [97,108,105,103,110,101,100] W (k+1)=undT [97,108,105,103,110,101,100] W k++(bar0 k++[45]++List.replicate (W k) 45++[45,124]):=rfl
 have b0:k=0->bar0 k=[124]:=fun h=>bC
 have b1:¬k=0->bar0 k=[]:=fun h=>aE
 try simp only[List.length_replicate]
 repeat' (first|done|omega|exact trivial|exact rfl|assumption|exact fun _ _ _=>a_g rfl|exact fun _ _ _=>byA|exact congrArg _ ac|exact⟨[],(List.append_nil _).symm⟩|(refine⟨[],?_⟩;rw[rE];(first|rw[b0 ai]|rw[b1 ai]);simp;done)|(rw[rE];(first|rw[b0 ai]|rw[b1 ai]);simp only[List.length_append,List.length_cons,List.length_nil,List.length_replicate];omega)|(refine⟨(k+1:Nat),?_⟩)|(have hkn:k=w:=ac;subst hkn;(first|exact rfl|exact⟨[],an⟩))|intro _|refine And.intro ?_ ?_)
theorem w_k(T:TD)(l:By)(W:Nat->Nat)(w nA:Nat)(k:Nat)(hd:UwOk (T.wp k_C) l W w nA)(h:k<=w):s_0 T l W w nA k:=by
 unfold s_0
 obtain⟨h1,h2,h3,h4,h5,h6⟩:=hd
 simp only[a_i,e_s] at h1 h2 h5
 have e1:∀m:Nat,m<=1000->IntKind.wrap IntKind.i64 (Int.ofNat m)=Int.ofNat m:=fun m h=>a_o ab ab
 have tk:∀l:By,List.take l.length l=l:=fun l=>List.take_length
 simp only[e1 (k+1) ac,tk]
 simp only[sj3,eq_self,implies_true,forall_eq,b_F,b_P,Nat.le_eq,sj2,a_e,sj0]
 have rL:(undT [109,105,110,105,109,97,108] W k).length<=k*4294967300:=c_o h2 k
 have wk:=h2 k
 have rE:undT [109,105,110,105,109,97,108] W (k+1)=undT [109,105,110,105,109,97,108] W k++(bar0 k++[45]++[45]++[45,124]):=rfl
 have b0:k=0->bar0 k=[124]:=fun h=>bC
 have b1:¬k=0->bar0 k=[]:=fun h=>aE
 try simp only[List.length_replicate]
 repeat' (first|done|omega|exact trivial|exact rfl|assumption|exact fun _ _ _=>a_g rfl|exact fun _ _ _=>byA|exact congrArg _ ac|exact⟨[],(List.append_nil _).symm⟩|(refine⟨[],?_⟩;rw[rE];(first|rw[b0 ai]|rw[b1 ai]);simp;done)|(rw[rE];(first|rw[b0 ai]|rw[b1 ai]);simp only[List.length_append,List.length_cons,List.length_nil,List.length_replicate];omega)|(refine⟨(k+1:Nat),?_⟩)|(have hkn:k=w:=ac;subst hkn;(first|exact rfl|exact⟨[],an⟩))|intro _|refine And.intro ?_ ?_)
theorem w_l(T:TD)(l:By)(W:Nat->Nat)(w nA:Nat)(k:Nat)(hd:UwOk (T.wp m_v) l W w nA)(h:k<=w):s_1 T l W w nA k:=by
 unfold s_1
 obtain⟨h1,h2,h3,h4,h5,h6⟩:=hd
 simp only[a_i,e_s] at h1 h2 h5
 have e1:∀m:Nat,m<=1000->IntKind.wrap IntKind.i64 (Int.ofNat m)=Int.ofNat m:=fun m h=>a_o ab ab
 have tk:∀l:By,List.take l.length l=l:=fun l=>List.take_length
 simp only[e1 (k+1) ac,tk]
 simp only[sj3,eq_self,implies_true,forall_eq,b_F,b_P,Nat.le_eq,sj2,a_e,sj0]
 have rL:(undT [110,111,110,101] W k).length<=k*4294967300:=c_o h2 k
 have wk:=h2 k
 have rE:undT [110,111,110,101] W (k+1)=undT [110,111,110,101] W k++(bar0 k++[45]++[45]++[45,124]):=rfl
 have b0:k=0->bar0 k=[124]:=fun h=>bC
 have b1:¬k=0->bar0 k=[]:=fun h=>aE
 try simp only[List.length_replicate]
 repeat' (first|done|omega|exact trivial|exact rfl|assumption|exact fun _ _ _=>a_g rfl|exact fun _ _ _=>byA|exact congrArg _ ac|exact⟨[],(List.append_nil _).symm⟩|(refine⟨[],?_⟩;rw[rE];(first|rw[b0 ai]|rw[b1 ai]);simp;done)|(rw[rE];(first|rw[b0 ai]|rw[b1 ai]);simp only[List.length_append,List.length_cons,List.length_nil,List.length_replicate];omega)|(refine⟨(k+1:Nat),?_⟩)|(have hkn:k=w:=ac;subst hkn;(first|exact rfl|exact⟨[],an⟩))|intro _|refine And.intro ?_ ?_)
theorem E_y(T:TD)(l:By)(W:Nat->Nat)(w nA:Nat)(hd:UwOk T l W w nA):(uwD T l W w nA).Body Tryz.prog (sub (a_b Tryz.f417) [0,0,1]):=by
 refine LoopD.bodyH (root:=(a_b Tryz.f417)) [0,0,1] a_l (q_5 T) (LTok.nil) 1000 ?_
 intro k hk
 rcases hd.2.2.2.2.2 with h|h|h
 ·obtain⟨T',rfl⟩:=t_v h;exact Ho.of (s_Z T' l W w nA k) aa (w_j T' l W w nA k hd hk)
 ·obtain⟨T',rfl⟩:=t_v h;exact Ho.of (s_0 T' l W w nA k) aa (w_k T' l W w nA k hd hk)
 ·obtain⟨T',rfl⟩:=t_v h;exact Ho.of (s_1 T' l W w nA k) aa (w_l T' l W w nA k hd hk)
theorem I_i(T:TD)(l:By)(W:Nat->Nat)(w nA:Nat)(hd:UwOk T l W w nA):uwR T l W w nA:=by
 unfold uwR
 obtain⟨h1,h2,h3,h4,h5,h6⟩:=hd
 simp only[sj3,eq_self,implies_true,forall_eq,b_F,b_P,Nat.le_eq,sj2,a_e,sj0]
 exact⟨ac,⟨fun _ _ _=>a_g rfl,fun _ _ _=>a_g rfl,by simp[undT],[],by simp[undT]⟩,fun _ _=>⟨[],an⟩⟩
theorem w_m:a_t Tryz.prog 417:=⟨Tryz.f417,aa,rfl,aa⟩
theorem E_z(T:TD):(uwS T).Body Tryz.prog 417/\(uwS T).BodyD Tryz.prog 417:=by
 refine a_c (fn:=Tryz.f417) (b:=a_b Tryz.f417) (LT:=fun a=>[([0,1],(uwD T a.1 a.2.1 a.2.2.1 a.2.2.2).at (0:Nat))]) a_l (q_5 T) 1000 (fun a ha=>LTok.cons (fun fr H K hk=>LoopD.ok (E_y T a.1 a.2.1 a.2.2.1 a.2.2.2 ha) hk) (LTok.nil)) aa aa ?_
 exact fun a ha=>Ho.of (uwR T a.1 a.2.1 a.2.2.1 a.2.2.2) aa (I_i T a.1 a.2.1 a.2.2.1 a.2.2.2 ha)
def E_A(T:TD)(rn:Nat->Nat)(rc:Nat->Nat->By)(m:Nat)(c:Nat)(nA:Nat)(l0:By)(k:Nat):Prop:=
 letI q1:=m-1;letI p1:=fc rn rc;letI n1:=List UInt8;letI m1:=cnt rn rc m;letI h1:=[(10:UInt8)];letI g1:=a_f T=a_f T;letI f1:=wd m1;letI e1:=Int.ofNat q1;letI d1:=List.length m1;letI b1:=Value.int .i64 (Int.ofNat 0);letI c1:=fun(x:Nat)=>AVal.str [];letI z:=Value.int IntKind.i8 (Int.ofNat 0);letI a1:=Value.int .i64 e1;letI y:=decide (Int.ofNat k<e1);letI w:=fun(c:Nat)=>h_P (AVal.by_ (fc rn rc (1+k) c));letI v:=b1=b1;letI u:=z=z;letI t:=fun(i:Nat)=>AVal.lit (Value.int .i64 (Int.ofNat (wd m1 i)));letI s:=l0++bdyT T.pad f1 d1 p1 k;letI h:=fun(i:Nat)=>u_l (AVal.lit (Value.int .i64 (Int.ofNat (wd m1 i))));letI n:=(w,d1);letI p:=l0++bdyT T.pad f1 d1 p1 q1;letI g:=n.snd;letI f:=List.length s;letI e:=fun(i:Nat)=>AVal.fam (fun(c:Nat)=>AVal.by_ (fc rn rc i c)) d1;letI d:=(d1,w,d1).fst;letI b:=(s,h,d1,w,d1).fst;letI a:=nA=nA/\SubF c1 c1 nA []/\gd (Nat.beq m m) (c=c/\m<=m/\SubF e e m []/\gd (Nat.ble c c) True);br y (gd y (gd (Nat.blt (1+k) m) (g1/\OwOk T b h d w g/\d1=d/\SubF t (fun(i:Nat)=>AVal.lit (Value.int .i64 (Int.ofNat ((h,d1,w,d1).fst i)))) d1 []/\d1=g/\SubF (fun(c:Nat)=>AVal.by_ (fc rn rc (1+k) c)) (fun(c:Nat)=>AVal.by_ (n.fst c)) d1 []/\gd (Nat.beq f (List.length b)) (v/\u/\(∃(r:n1),s=b++r)/\∀(x:n1),letI k1:=List.length x;x=b++rowT T.pad h w g->g1/\Nat.le (k1+1) 70368744177664/\h1=h1/\gd (Nat.beq k1 k1) (v/\u/\(∃(r:n1),x=x++r)/\∀(x_1:n1),x_1=x++h1->∃(j':Nat),letI q:=l0++bdyT T.pad f1 d1 p1 j';Nat.le j' q1/\m-j'<m-k/\g1/\d1=d1/\SubF t t d1 []/\gd (Nat.beq q1 q1) (c-1=c-1/\a1=a1/\Value.int .i64 (IntKind.wrap .i64 (Int.ofNat (k+1)))=Value.int .i64 (Int.ofNat j')/\gd (Nat.beq (List.length x_1) (List.length q)) (v/\u/\(∃(r:n1),x_1=q++r)/\a))))))) (∃(x:Unit),True/\g1/\gd (Nat.beq f (List.length p)) (v/\u/\(∃(r:n1),s=p++r)/\a))
def tAR(T:TD):Prop:=
 letI e3:=T.C 0;letI d3:=finR T;letI b3:=List UInt8;letI c3:=d3.1;letI a3:=Int.ofNat 0;letI z2:=True/\True;letI w2:=[(10:UInt8)];letI y2:=d3.snd.1;letI s2:=a_f T=a_f T;letI m2:=Nat->Nat->By;letI n2:=[(10:UInt8),10];letI p2:=d3.snd.2.fst;letI q2:=d3.snd.2.snd;letI h2:=p2-1;letI k2:=True/\z2;letI y1:=Value.int .i64 a3;letI b2:=fun(x:Nat)=>AVal.str [];letI c2:=fc c3 y2;letI d2:=Value.int .i64 (Int.ofNat 1);letI t1:=w2=w2;letI s1:=Value.int IntKind.i8 a3;letI p1:=n2=n2;letI m1:=cnt c3 y2 p2;letI k1:=taL T c3 y2 p2;letI h1:=wd m1;letI f1:=y1=y1;letI e1:=List.length m1;letI c1:=s1=s1;letI a1:=SubF b2 b2 e3 [];letI f:=k1++bdyT T.pad h1 e1 c2 0;letI d:=k1++bdyT T.pad h1 e1 c2 h2;letI b:=(d,n2).fst;letI a:=List.length b;s2/\(TD.Ok T/\noT T=false)/\∀(x:(Nat->Nat)×m2×Nat×Nat),letI e2:=(x.snd.2.fst,x.snd.2.snd);letI u1:=e2.fst;letI v1:=e2.snd;letI y:=fun(q:Nat)=>AVal.famx (fun(k:Nat)=>AVal.by_ (x.2.fst q k)) (x.fst q);letI u:=rowsC y;letI v:=rowsN y;letI s:=(u,x.snd.2.fst,x.snd.2.snd).fst;letI h:=(v,u,x.snd.2.fst,x.snd.2.snd).fst;x=d3->s2/\((∀(q k:Nat),letI p:=s q k;WT p/\List.length p<=2147483647)/\(∀(q:Nat),h q<=12)/\u1<=14/\u1<=v1/\v1<=14)/\gd (Nat.beq x.snd.2.fst u1) (x.snd.2.snd=v1/\u1<=x.snd.2.fst/\SubF y (fun(q:Nat)=>AVal.famx (fun(k:Nat)=>AVal.by_ (s q k)) (h q)) u1 []/\gd (Nat.ble v1 x.snd.2.snd) (∀(x_1:List Nat),letI t2:=List.length x_1;letI f2:=(t2,e3);letI z1:=f2.fst;letI a2:=f2.snd;letI w1:=(x.snd.2.snd,t2);letI q1:=w1.fst;letI r1:=w1.snd;letI n1:=(x.snd.2.fst,x.snd.2.snd,t2).fst;letI d1:=fun(i:Nat)=>AVal.lit (Value.int .i64 (Int.ofNat (wd x_1 i)));letI b1:=fun(i:Nat)=>u_l (AVal.lit (Value.int .i64 (Int.ofNat (wd x_1 i))));letI n:=(u,x.snd.2.fst,x.snd.2.snd,t2).fst;letI g:=(v,u,x.snd.2.fst,x.snd.2.snd,t2);letI e:=g.fst;x_1=cnt v u u1->s2/\(((∀(q k:Nat),letI m:=n q k;WT m/\List.length m<=2147483647)/\(∀(q:Nat),e q<=12)/\n1<=14/\n1<=q1/\q1<=14)/\r1<=12/\∀(q:Nat),q<n1->e q<=r1)/\gd (Nat.beq x.snd.2.fst n1) (x.snd.2.snd=q1/\Value.int .i64 (Int.ofNat t2)=Value.int .i64 (Int.ofNat r1)/\n1<=x.snd.2.fst/\SubF y (fun(q:Nat)=>AVal.famx (fun(k:Nat)=>AVal.by_ (n q k)) (e q)) n1 []/\gd (Nat.ble q1 x.snd.2.snd) (∀(x_2:(Nat->Nat)×m2×Nat×Nat×Nat),letI r2:=x_2.snd.2.fst-1;letI g2:=Int.ofNat x_2.snd.2.fst;letI g1:=fun(c:Nat)=>h_P (AVal.by_ (fc x_2.1 x_2.snd.1 0 c));letI z:=(g1,x_2.snd.snd.2.snd);letI w:=z.snd;letI t:=(t2,g1,x_2.snd.snd.2.snd).fst;x_2=g->s2/\(0<2/\2<=70368744177664)/\p1/\f1/\c1/\∀(x:b3),x=n2->gd (decide (a3<g2)) (gd (Nat.blt 0 x_2.snd.2.fst) (s2/\OwOk T x b1 t g1 w/\t2=t/\SubF d1 (fun(i:Nat)=>AVal.lit (Value.int .i64 (Int.ofNat ((b1,t2,g1,x_2.snd.snd.2.snd).fst i)))) t2 []/\x_2.snd.snd.2.snd=w/\SubF (fun(c:Nat)=>AVal.by_ (fc x_2.1 x_2.snd.1 0 c)) (fun(c:Nat)=>AVal.by_ (z.fst c)) x_2.snd.snd.2.snd []/\gd (Nat.beq (List.length x) (List.length x)) (f1/\c1/\(∃(r:b3),x=x++r)/\∀(x_3:b3),letI u2:=List.length x_3;x_3=x++rowT T.pad b1 g1 w->s2/\Nat.le (u2+1) 70368744177664/\t1/\gd (Nat.beq u2 u2) (f1/\c1/\(∃(r:b3),x_3=x_3++r)/\∀(x:b3),x=x_3++w2->s2/\UwOk T x b1 z1 a2/\e3=a2/\a1/\t2=z1/\SubF d1 (fun(i:Nat)=>AVal.lit (Value.int .i64 (Int.ofNat ((b1,t2,e3).fst i)))) t2 []/\gd (Nat.beq (List.length x) (List.length x)) (f1/\c1/\(∃(r:b3),x=x++r)/\∀(x_4:b3),letI v2:=List.length x_4;x_4=x++undT T.pad b1 z1->s2/\Nat.le (v2+1) 70368744177664/\t1/\gd (Nat.beq v2 v2) (f1/\c1/\(∃(r:b3),x_4=x_4++r)/\∀(x:b3),x=x_4++w2->gd (decide (Int.ofNat 1<=g2)&&decide (g2<=Int.ofNat x_2.snd.snd.2.fst)) (Nat.le 0 h2/\(s2/\t2=e1/\SubF d1 (fun(i:Nat)=>AVal.lit (Value.int .i64 (Int.ofNat (wd m1 i)))) t2 []/\gd (Nat.beq r2 h2) (x_2.snd.snd.2.fst-1=q2-1/\Value.int .i64 (Int.ofNat r2)=Value.int .i64 (Int.ofNat h2)/\f1/\gd (Nat.beq (List.length x) (List.length f)) (f1/\c1/\(∃(r:b3),x=f++r)/\e3=e3/\a1/\gd (Nat.beq x_2.snd.2.fst p2) (x_2.snd.snd.2.fst=q2/\p2<=x_2.snd.2.fst/\SubF (fun(i:Nat)=>AVal.fam (fun(c:Nat)=>AVal.by_ (fc x_2.1 x_2.snd.1 i c)) x_2.snd.snd.2.snd) (fun(i:Nat)=>AVal.fam (fun(c:Nat)=>AVal.by_ (fc c3 y2 i c)) e1) p2 []/\gd (Nat.ble q2 x_2.snd.snd.2.fst) True))))/\∀(x:Unit),True->s2/\Nat.le (a+1+1) 70368744177664/\p1/\gd (Nat.beq (List.length d) a) (f1/\c1/\(∃(r:b3),d=b++r)/\∀(x:b3),x=b++n2->∃(x_5:By),x_5=tabF T/\s2/\True/\(k2/\(((((k2/\z2)/\z2)/\z2)/\z2)/\True)/\True)/\d2=d2/\gd (Nat.beq (List.length x) (List.length x_5)) (f1/\c1/\(∃(r:b3),x=x_5++r)/\True)))))))))))))
theorem p_z{T:TD}(hT:T.Ok)(he:noT T=false):TaOk T (finR T).1 (finR T).2.1 (finR T).2.2.1 (finR T).2.2.2 (T.C 0) (taL T (finR T).1 (finR T).2.1 (finR T).2.2.1):=by
 have hr:=e_q hT
 refine⟨hr,h_k (m_M he),by have:=hT.c2 0;omega,?_,hT.pd⟩
 have hW:∀k,wd (cnt (finR T).1 (finR T).2.1 (finR T).2.2.1) k<=e_s:=j_W (fun q k=>(hr.1 q k).2) (by simp[e_s])
 have hw:=h_m (rc:=(finR T).2.1) (m:=(finR T).2.2.1) hr.2.1
 have h1:=b_7 (p:=T.pad) hW (g:=fc (finR T).1 (finR T).2.1 0) (fun k=>j_X (hr.1 0 k).2) (cnt (finR T).1 (finR T).2.1 (finR T).2.2.1).length
 have h2:=c_o (p:=T.pad) hW (cnt (finR T).1 (finR T).2.1 (finR T).2.2.1).length
 have h3:(cnt (finR T).1 (finR T).2.1 (finR T).2.2.1).length*4294967300<=12*4294967300:=Nat.mul_le_mul_right _ hw
 simp only[taL,List.length_append,List.length_cons,List.length_nil]
 omega
theorem q_6(T:TD):TabOk Tryz.prog (tAU T):=by
 refine⟨fun f s h=>?_,fun f s h=>?_⟩
 ·unfold tAU at h
  simp only at h
  split at h
  ·cases h;exact a_d q_S (E_a T).1
  ·cases h;exact a_d w_b (E_k T).1
  ·cases h;exact a_d w_c (E_t T).1
  ·cases h;exact a_d w_h (E_w T).1
  ·cases h;exact a_d w_m (E_z T).1
  ·cases h;exact c_X (a_d f_L (v_G T).1) (a_d f_L (n_8 T))
  ·cases h
 ·cases h
theorem E_B(T:TD)(rn:Nat->Nat)(rc:Nat->Nat->By)(m c nA:Nat)(l0:By)(k:Nat)(hd:TaOk T rn rc m c nA l0)(h:k<=m-1):E_A T rn rc m c nA l0 k:=by
 unfold E_A
 obtain⟨hr,h1,hA,hl0,hp⟩:=hd
 have hW:∀k,wd (cnt rn rc m) k<=e_s:=j_W (fun q k=>(hr.1 q k).2) (by simp[e_s])
 have hw:(cnt rn rc m).length<=12:=h_m hr.2.1
 have hg:∀q c,WT (fc rn rc q c)/\(fc rn rc q c).length<=e_s:=fun q c=>⟨s_n (hr.1 q c).1,j_X (hr.1 q c).2⟩
 have hB:=fun k=>e_U (p:=T.pad) (f:=fc rn rc) hW (fun q c=>(hg q c).2) hw k
 have hR:=fun q=>b_7 (p:=T.pad) (g:=fc rn rc q) hW (fun c=>(hg q c).2) (cnt rn rc m).length
 have hU:=c_o (p:=T.pad) hW (cnt rn rc m).length
 have hw2:(cnt rn rc m).length*4294967300<=12*4294967300:=Nat.mul_le_mul_right _ hw
 have hm:m<=14:=hr.2.2.1
 have hc:c<=14:=hr.2.2.2.2
 have hmc:m<=c:=hr.2.2.2.1
 have eR:∀q,(rowT T.pad (fun i=>wd (cnt rn rc m) i) (fun c=>fc rn rc q c) (cnt rn rc m).length).length=(rowT T.pad (wd (cnt rn rc m)) (fc rn rc q) (cnt rn rc m).length).length:=fun _=>rfl
 have eU:(undT T.pad (fun i=>wd (cnt rn rc m) i) (cnt rn rc m).length).length=(undT T.pad (wd (cnt rn rc m)) (cnt rn rc m).length).length:=rfl
 have sr:SubF (fun q=>AVal.famx (fun k=>AVal.by_ (rc q k)) (rn q)) (fun q=>AVal.famx (fun k=>AVal.by_ (rc q k)) (rn q)) m []:=fun _ _ _=>SubA.famx fun _ _=>byA
 have sf:SubF (fun i=>AVal.fam (fun c=>AVal.by_ (fc rn rc i c)) (cnt rn rc m).length) (fun i=>AVal.fam (fun c=>AVal.by_ (fc rn rc i c)) (cnt rn rc m).length) m []:=fun _ _ _=>SubA.fam h_n
 have hBk:=hB k
 have hRk:=hR (k+1)
 have hk:k*51539607601<=13*51539607601:=Nat.mul_le_mul_right _ ac
 have e1:IntKind.wrap IntKind.i64 ((k+1:Nat):Int)=((k+1:Nat):Int):=a_o ac ac
 have bE:bdyT T.pad (wd (cnt rn rc m)) (cnt rn rc m).length (fc rn rc) (k+1)=bdyT T.pad (wd (cnt rn rc m)) (cnt rn rc m).length (fc rn rc) k++(rowT T.pad (wd (cnt rn rc m)) (fc rn rc (k+1)) (cnt rn rc m).length++[10]):=rfl
 have ok:OwOk T (l0++bdyT T.pad (wd (cnt rn rc m)) (cnt rn rc m).length (fc rn rc) k) (wd (cnt rn rc m)) (cnt rn rc m).length (fc rn rc (k+1)) (cnt rn rc m).length:=⟨by simp only[a_i,List.length_append];omega,hW,Nat.le_refl _,hw,hg _,hp⟩
 simp only[sj3,eq_self,implies_true,forall_eq,b_F,b_P,Nat.le_eq,f_o,j_b,Nat.add_comm 1 k,e1,eR,sj2,a_e,sj0]
 repeat' (first|done|omega|exact trivial|exact rfl|assumption|exact fun _ _ _=>a_g rfl|exact fun _ _ _=>byA|exact⟨[],(List.append_nil _).symm⟩|(refine⟨(k+1:Nat),?_⟩)|(rw[bE];simp only[List.length_append,List.length_cons,List.length_nil];omega)|(refine⟨[],?_⟩;rw[bE];simp;done)|(have hkn:k=m-1:=ac;subst hkn;(first|exact rfl|exact⟨[],an⟩))|intro _|refine And.intro ?_ ?_)
theorem E_C(T:TD)(rn:Nat->Nat)(rc:Nat->Nat->By)(m c nA:Nat)(l0:By)(hd:TaOk T rn rc m c nA l0):(tAD T rn rc m c nA l0).Body Tryz.prog (sub (a_b Tryz.f411) [0,0,1,0,1,1,1,1,1,1,1,1,1,1]):=by
 refine LoopD.bodyH (root:=(a_b Tryz.f411)) [0,0,1,0,1,1,1,1,1,1,1,1,1,1] a_l (q_6 T) (LTok.nil) 1000 ?_
 exact fun k hk=>Ho.of (E_A T rn rc m c nA l0 k) aa (E_B T rn rc m c nA l0 k hd hk)
theorem I_j(T:TD)(hT:T.Ok/\noT T=false):tAR T:=by
 unfold tAR
 obtain⟨h1,h2⟩:=hT
 have h3:noT T=false:=h2
 have hpos:=h_k (m_M h2)
 have hr:=e_q h1
 have hW:∀k,wd (cnt (finR T).1 (finR T).2.1 (finR T).2.2.1) k<=e_s:=j_W (fun q k=>(hr.1 q k).2) (by simp[e_s])
 have hw:(cnt (finR T).1 (finR T).2.1 (finR T).2.2.1).length<=12:=h_m hr.2.1
 have hg:∀q c,WT (fc (finR T).1 (finR T).2.1 q c)/\(fc (finR T).1 (finR T).2.1 q c).length<=e_s:=fun q c=>⟨s_n (hr.1 q c).1,j_X (hr.1 q c).2⟩
 have hB:=fun k=>e_U (p:=T.pad) (f:=fc (finR T).1 (finR T).2.1) hW (fun q c=>(hg q c).2) hw k
 have hR:=fun q=>b_7 (p:=T.pad) (g:=fc (finR T).1 (finR T).2.1 q) hW (fun c=>(hg q c).2) (cnt (finR T).1 (finR T).2.1 (finR T).2.2.1).length
 have hU:=c_o (p:=T.pad) hW (cnt (finR T).1 (finR T).2.1 (finR T).2.2.1).length
 have hw2:(cnt (finR T).1 (finR T).2.1 (finR T).2.2.1).length*4294967300<=12*4294967300:=Nat.mul_le_mul_right _ hw
 have hm:(finR T).2.2.1<=14:=hr.2.2.1
 have hc:(finR T).2.2.2<=14:=hr.2.2.2.2
 have hmc:(finR T).2.2.1<=(finR T).2.2.2:=hr.2.2.2.1
 have eR:∀q,(rowT T.pad (fun i=>wd (cnt (finR T).1 (finR T).2.1 (finR T).2.2.1) i) (fun c=>fc (finR T).1 (finR T).2.1 q c) (cnt (finR T).1 (finR T).2.1 (finR T).2.2.1).length).length=(rowT T.pad (wd (cnt (finR T).1 (finR T).2.1 (finR T).2.2.1)) (fc (finR T).1 (finR T).2.1 q) (cnt (finR T).1 (finR T).2.1 (finR T).2.2.1).length).length:=fun _=>rfl
 have eU:(undT T.pad (fun i=>wd (cnt (finR T).1 (finR T).2.1 (finR T).2.2.1) i) (cnt (finR T).1 (finR T).2.1 (finR T).2.2.1).length).length=(undT T.pad (wd (cnt (finR T).1 (finR T).2.1 (finR T).2.2.1)) (cnt (finR T).1 (finR T).2.1 (finR T).2.2.1).length).length:=rfl
 have sr:SubF (fun q=>AVal.famx (fun k=>AVal.by_ ((finR T).2.1 q k)) ((finR T).1 q)) (fun q=>AVal.famx (fun k=>AVal.by_ ((finR T).2.1 q k)) ((finR T).1 q)) (finR T).2.2.1 []:=fun _ _ _=>SubA.famx fun _ _=>byA
 have sf:SubF (fun i=>AVal.fam (fun c=>AVal.by_ (fc (finR T).1 (finR T).2.1 i c)) (cnt (finR T).1 (finR T).2.1 (finR T).2.2.1).length) (fun i=>AVal.fam (fun c=>AVal.by_ (fc (finR T).1 (finR T).2.1 i c)) (cnt (finR T).1 (finR T).2.1 (finR T).2.2.1).length) (finR T).2.2.1 []:=fun _ _ _=>SubA.fam h_n
 have ok:OwOk T [10,10] (wd (cnt (finR T).1 (finR T).2.1 (finR T).2.2.1)) (cnt (finR T).1 (finR T).2.1 (finR T).2.2.1).length (fc (finR T).1 (finR T).2.1 0) (cnt (finR T).1 (finR T).2.1 (finR T).2.2.1).length:=⟨by simp[a_i],hW,Nat.le_refl _,hw,hg _,h1.pd⟩
 have hR0:=hR 0
 have ok2:UwOk T ([10,10]++rowT T.pad (wd (cnt (finR T).1 (finR T).2.1 (finR T).2.2.1)) (fc (finR T).1 (finR T).2.1 0) (cnt (finR T).1 (finR T).2.1 (finR T).2.2.1).length++[10]) (wd (cnt (finR T).1 (finR T).2.1 (finR T).2.2.1)) (cnt (finR T).1 (finR T).2.1 (finR T).2.2.1).length (T.C 0):=⟨by simp only[a_i,List.length_append,List.length_cons,List.length_nil];omega,hW,hw,by have:=h1.c2 0;omega,trivial,h1.pd⟩
 have hge:∀q,q<(finR T).2.2.1->(finR T).1 q<=(cnt (finR T).1 (finR T).2.1 (finR T).2.2.1).length:=fun q h=>u_i h
 have hBm:=hB ((finR T).2.2.1-1)
 have hBk:((finR T).2.2.1-1)*51539607601<=13*51539607601:=Nat.mul_le_mul_right _ ac
 have w1:IntKind.wrap IntKind.i64 (((finR T).2.2.1:Nat):Int)=(((finR T).2.2.1:Nat):Int):=a_o ac ac
 simp only[b_l,b_m,f_o,j_b]
 simp only[sj3,b_l,b_m,eq_self,implies_true,forall_eq,b_F,b_P,Nat.le_eq,f_o,j_b,eR,eU,sj2,a_e,sj0]
 repeat' (first|done|omega|exact trivial|exact rfl|assumption|exact hr|exact fun _ _ _=>a_g rfl|exact fun _ _=>a_g rfl|exact fun _ _ _=>byA|exact fun _ _=>byA|exact fun _ _=>SubA.fam h_n|exact⟨[],(List.append_nil _).symm⟩|exact⟨[],rfl⟩|(refine⟨[],?_⟩;simp[taL,tabF,tabT,bdyT];done)|(simp[taL,tabF,tabT,bdyT];done)|(simp only[taL,tabF,tabT,bdyT,List.length_append,List.length_cons,List.length_nil];done)|(simp only[taL,tabF,tabT,bdyT,List.length_append,List.length_cons,List.length_nil];omega)|intro _|refine And.intro ?_ ?_)
theorem E_D(T:TD):(tAS T).Body Tryz.prog 411/\(tAS T).BodyD Tryz.prog 411:=by
 refine a_c (fn:=Tryz.f411) (b:=a_b Tryz.f411) (LT:=fun _=>[([0,1,0,1,1,1,1,1,1,1,1,1,1],(tAD T (finR T).1 (finR T).2.1 (finR T).2.2.1 (finR T).2.2.2 (T.C 0) (taL T (finR T).1 (finR T).2.1 (finR T).2.2.1)).at (0:Nat))]) a_l (q_6 T) 1000 (fun a ha=>LTok.cons (fun fr H K hk=>LoopD.ok (E_C T (finR T).1 (finR T).2.1 (finR T).2.2.1 (finR T).2.2.2 (T.C 0) (taL T (finR T).1 (finR T).2.1 (finR T).2.2.1) (p_z ha.1 ha.2)) hk) (LTok.nil)) aa aa ?_
 exact fun a ha=>Ho.of (tAR T) aa (I_j T ha)
end Tk

