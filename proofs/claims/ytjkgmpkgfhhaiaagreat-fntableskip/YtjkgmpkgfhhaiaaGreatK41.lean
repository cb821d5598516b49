/- Lemmas of this claim; the last text says what is proved. -/
import Derived.Test.YtjkgmpkgfhhaiaaGreatK23
import Derived.Test.YtjkgmpkgfhhaiaaGreatK39
import Derived.Test.YtjkgmpkgfhhaiaaGreatK36
import Derived.Test.YtjkgmpkgfhhaiaaGreatK40
import Derived.Test.YtjkgmpkgfhhaiaaGreatK31
set_option linter.all false
set_option maxRecDepth 1000000
namespace Tk
open Go Go.Sx Go.Proofs
open Q
variable [Syms]
def uwDRa (T:TD) (l:By) (W:Nat->Nat) (w:Nat) (nA:Nat) (k:Nat):Prop:=
 letI g2:=List UInt8;letI e2:=Int.ofNat k;letI f2:=Int.ofNat 0;letI z1:=[(45:UInt8)];letI u1:=[(124:UInt8)];letI s1:=domB (TD.wp T padA);letI t1:=((45:UInt8),W k);letI q1:=t1.snd;letI r1:=t1.fst;letI k1:=fun(x:Nat)=>AVal.str [];letI m1:=Value.int .i64 e2;letI n1:=Value.int .i64 f2;letI p1:=Value.int .i64 (Int.ofNat w);letI h1:=z1=z1;letI g1:=u1=u1;letI e1:=decide (e2<Int.ofNat w);letI f1:=Value.int IntKind.i8 f2;letI d1:=s1=s1;letI c1:=z1=[r1];letI b1:=[(97:UInt8),108,105,103,110,101,100];letI a1:=Nat.le q1 140737488355328;letI z:=Value.int .i64 (IntKind.wrap .i64 (Int.ofNat (k+1)));letI v:=l++undT b1 W k;letI y:=l++undT b1 W w;letI q:=n1=n1;letI s:=p1=p1;letI p:=fun(i:Nat)=>AVal.lit (Value.int .i64 (Int.ofNat (W i)));letI n:=List.replicate q1 r1;letI m:=f1=f1;letI g:=SubF k1 k1 nA [];letI h:=List.length v;letI f:=(v,z1).fst;letI e:=(v,u1).fst;letI d:=Value.int .i64 (Int.ofNat (W k))=Value.int .i64 (Int.ofNat q1);letI c:=List.length f;letI b:=List.length e;letI a:=SubF p p w [];br e1 (gd e1 (gd (Nat.blt k w) (d1/\(nA<=1000/\k<=1000)/\nA=nA/\g/\m1=m1/\∀(x:Unit),True->br (e2==f2) (d1/\Nat.le (b+1) 70368744177664/\g1/\gd (Nat.beq h b) (q/\m/\(∃(r:g2),v=e++r)/\∀(x:g2),letI a2:=List.length x;x=e++u1->d1/\Nat.le (a2+1) 70368744177664/\h1/\gd (Nat.beq a2 a2) (q/\m/\(∃(r:g2),x=x++r)/\∀(x_1:g2),letI v1:=List.length x_1;x_1=x++z1->d1/\a1/\c1/\d/\∀(x:g2),x=n->d1/\Nat.le (v1+List.length x) 70368744177664/\x=x/\gd (Nat.beq v1 v1) (q/\m/\(∃(r:g2),x_1=x_1++r)/\∀(x_2:g2),letI w1:=List.length x_2;x_2=x_1++x->d1/\Nat.le (w1+1) 70368744177664/\h1/\gd (Nat.beq w1 w1) (q/\m/\(∃(r:g2),x_2=x_2++r)/\∀(x:g2),letI b2:=List.length x;x=x_2++z1->d1/\Nat.le (b2+1) 70368744177664/\g1/\gd (Nat.beq b2 b2) (q/\m/\(∃(r:g2),x=x++r)/\∀(x_3:g2),x_3=x++u1->∃(j':Nat),letI t:=l++undT b1 W j';Nat.le j' w/\w-j'<w-k/\d1/\nA=nA/\g/\w=w/\a/\s/\z=Value.int .i64 (Int.ofNat j')/\gd (Nat.beq (List.length x_3) (List.length t)) (q/\m/\(∃(r:g2),x_3=t++r)/\True))))))) (d1/\Nat.le (c+1) 70368744177664/\h1/\gd (Nat.beq h c) (q/\m/\(∃(r:g2),v=f++r)/\∀(x:g2),letI c2:=List.length x;x=f++z1->d1/\a1/\c1/\d/\∀(x_1:g2),x_1=n->d1/\Nat.le (c2+List.length x_1) 70368744177664/\x_1=x_1/\gd (Nat.beq c2 c2) (q/\m/\(∃(r:g2),x=x++r)/\∀(x_2:g2),letI y1:=List.length x_2;x_2=x++x_1->d1/\Nat.le (y1+1) 70368744177664/\h1/\gd (Nat.beq y1 y1) (q/\m/\(∃(r:g2),x_2=x_2++r)/\∀(x:g2),letI d2:=List.length x;x=x_2++z1->d1/\Nat.le (d2+1) 70368744177664/\g1/\gd (Nat.beq d2 d2) (q/\m/\(∃(r:g2),x=x++r)/\∀(x_3:g2),x_3=x++u1->∃(j':Nat),letI u:=l++undT b1 W j';Nat.le j' w/\w-j'<w-k/\d1/\nA=nA/\g/\w=w/\a/\s/\z=Value.int .i64 (Int.ofNat j')/\gd (Nat.beq (List.length x_3) (List.length u)) (q/\m/\(∃(r:g2),x_3=u++r)/\True))))))))) (∃(x:Unit),True/\d1/\gd (Nat.beq h (List.length y)) (q/\m/\(∃(r:g2),v=y++r)/\True))
def uwDRm (T:TD) (l:By) (W:Nat->Nat) (w:Nat) (nA:Nat) (k:Nat):Prop:=
 letI z1:=List UInt8;letI w1:=Int.ofNat k;letI y1:=Int.ofNat 0;letI r1:=[(45:UInt8)];letI m1:=[(124:UInt8)];letI k1:=domB (TD.wp T padM);letI e1:=fun(x:Nat)=>AVal.str [];letI f1:=Value.int .i64 w1;letI g1:=Value.int .i64 y1;letI h1:=Value.int .i64 (Int.ofNat w);letI d1:=r1=r1;letI c1:=m1=m1;letI a1:=decide (w1<Int.ofNat w);letI b1:=Value.int IntKind.i8 y1;letI z:=k1=k1;letI y:=[(109:UInt8),105,110,105,109,97,108];letI v:=Value.int .i64 (IntKind.wrap .i64 (Int.ofNat (k+1)));letI t:=l++undT y W k;letI u:=l++undT y W w;letI n:=g1=g1;letI p:=h1=h1;letI m:=fun(i:Nat)=>AVal.lit (Value.int .i64 (Int.ofNat (W i)));letI h:=b1=b1;letI f:=SubF e1 e1 nA [];letI g:=List.length t;letI e:=(t,r1).fst;letI d:=(t,m1).fst;letI c:=List.length e;letI b:=List.length d;letI a:=SubF m m w [];br a1 (gd a1 (gd (Nat.blt k w) (z/\(nA<=1000/\k<=1000)/\nA=nA/\f/\f1=f1/\∀(x:Unit),True->br (w1==y1) (z/\Nat.le (b+1) 70368744177664/\c1/\gd (Nat.beq g b) (n/\h/\(∃(r:z1),t=d++r)/\∀(x:z1),letI s1:=List.length x;x=d++m1->z/\Nat.le (s1+1) 70368744177664/\d1/\gd (Nat.beq s1 s1) (n/\h/\(∃(r:z1),x=x++r)/\∀(x_1:z1),letI n1:=List.length x_1;x_1=x++r1->z/\Nat.le (n1+1) 70368744177664/\d1/\gd (Nat.beq n1 n1) (n/\h/\(∃(r:z1),x_1=x_1++r)/\∀(x:z1),letI t1:=List.length x;x=x_1++r1->z/\Nat.le (t1+1) 70368744177664/\d1/\gd (Nat.beq t1 t1) (n/\h/\(∃(r:z1),x=x++r)/\∀(x_2:z1),letI p1:=List.length x_2;x_2=x++r1->z/\Nat.le (p1+1) 70368744177664/\c1/\gd (Nat.beq p1 p1) (n/\h/\(∃(r:z1),x_2=x_2++r)/\∀(x:z1),x=x_2++m1->∃(j':Nat),letI q:=l++undT y W j';Nat.le j' w/\w-j'<w-k/\z/\nA=nA/\f/\w=w/\a/\p/\v=Value.int .i64 (Int.ofNat j')/\gd (Nat.beq (List.length x) (List.length q)) (n/\h/\(∃(r:z1),x=q++r)/\True))))))) (z/\Nat.le (c+1) 70368744177664/\d1/\gd (Nat.beq g c) (n/\h/\(∃(r:z1),t=e++r)/\∀(x:z1),letI u1:=List.length x;x=e++r1->z/\Nat.le (u1+1) 70368744177664/\d1/\gd (Nat.beq u1 u1) (n/\h/\(∃(r:z1),x=x++r)/\∀(x_1:z1),letI q1:=List.length x_1;x_1=x++r1->z/\Nat.le (q1+1) 70368744177664/\d1/\gd (Nat.beq q1 q1) (n/\h/\(∃(r:z1),x_1=x_1++r)/\∀(x:z1),letI v1:=List.length x;x=x_1++r1->z/\Nat.le (v1+1) 70368744177664/\c1/\gd (Nat.beq v1 v1) (n/\h/\(∃(r:z1),x=x++r)/\∀(x_2:z1),x_2=x++m1->∃(j':Nat),letI s:=l++undT y W j';Nat.le j' w/\w-j'<w-k/\z/\nA=nA/\f/\w=w/\a/\p/\v=Value.int .i64 (Int.ofNat j')/\gd (Nat.beq (List.length x_2) (List.length s)) (n/\h/\(∃(r:z1),x_2=s++r)/\True))))))))) (∃(x:Unit),True/\z/\gd (Nat.beq g (List.length u)) (n/\h/\(∃(r:z1),t=u++r)/\True))
def uwDRn (T:TD) (l:By) (W:Nat->Nat) (w:Nat) (nA:Nat) (k:Nat):Prop:=
 letI z1:=List UInt8;letI w1:=Int.ofNat k;letI y1:=Int.ofNat 0;letI r1:=[(45:UInt8)];letI m1:=[(124:UInt8)];letI k1:=domB (TD.wp T padN);letI e1:=fun(x:Nat)=>AVal.str [];letI f1:=Value.int .i64 w1;letI g1:=Value.int .i64 y1;letI h1:=Value.int .i64 (Int.ofNat w);letI d1:=[(110:UInt8),111,110,101];letI c1:=r1=r1;letI b1:=m1=m1;letI z:=decide (w1<Int.ofNat w);letI a1:=Value.int IntKind.i8 y1;letI y:=k1=k1;letI u:=l++undT d1 W k;letI v:=l++undT d1 W w;letI q:=Value.int .i64 (IntKind.wrap .i64 (Int.ofNat (k+1)));letI p:=List.length u;letI m:=g1=g1;letI n:=h1=h1;letI h:=fun(i:Nat)=>AVal.lit (Value.int .i64 (Int.ofNat (W i)));letI g:=(u,r1).fst;letI f:=(u,m1).fst;letI e:=a1=a1;letI d:=SubF e1 e1 nA [];letI c:=List.length g;letI b:=List.length f;letI a:=SubF h h w [];br z (gd z (gd (Nat.blt k w) (y/\(nA<=1000/\k<=1000)/\nA=nA/\d/\f1=f1/\∀(x:Unit),True->br (w1==y1) (y/\Nat.le (b+1) 70368744177664/\b1/\gd (Nat.beq p b) (m/\e/\(∃(r:z1),u=f++r)/\∀(x:z1),letI s1:=List.length x;x=f++m1->y/\Nat.le (s1+1) 70368744177664/\c1/\gd (Nat.beq s1 s1) (m/\e/\(∃(r:z1),x=x++r)/\∀(x_1:z1),letI n1:=List.length x_1;x_1=x++r1->y/\Nat.le (n1+1) 70368744177664/\c1/\gd (Nat.beq n1 n1) (m/\e/\(∃(r:z1),x_1=x_1++r)/\∀(x:z1),letI t1:=List.length x;x=x_1++r1->y/\Nat.le (t1+1) 70368744177664/\c1/\gd (Nat.beq t1 t1) (m/\e/\(∃(r:z1),x=x++r)/\∀(x_2:z1),letI p1:=List.length x_2;x_2=x++r1->y/\Nat.le (p1+1) 70368744177664/\b1/\gd (Nat.beq p1 p1) (m/\e/\(∃(r:z1),x_2=x_2++r)/\∀(x:z1),x=x_2++m1->∃(j':Nat),letI s:=l++undT d1 W j';Nat.le j' w/\w-j'<w-k/\y/\nA=nA/\d/\w=w/\a/\n/\q=Value.int .i64 (Int.ofNat j')/\gd (Nat.beq (List.length x) (List.length s)) (m/\e/\(∃(r:z1),x=s++r)/\True))))))) (y/\Nat.le (c+1) 70368744177664/\c1/\gd (Nat.beq p c) (m/\e/\(∃(r:z1),u=g++r)/\∀(x:z1),letI u1:=List.length x;x=g++r1->y/\Nat.le (u1+1) 70368744177664/\c1/\gd (Nat.beq u1 u1) (m/\e/\(∃(r:z1),x=x++r)/\∀(x_1:z1),letI q1:=List.length x_1;x_1=x++r1->y/\Nat.le (q1+1) 70368744177664/\c1/\gd (Nat.beq q1 q1) (m/\e/\(∃(r:z1),x_1=x_1++r)/\∀(x:z1),letI v1:=List.length x;x=x_1++r1->y/\Nat.le (v1+1) 70368744177664/\b1/\gd (Nat.beq v1 v1) (m/\e/\(∃(r:z1),x=x++r)/\∀(x_2:z1),x_2=x++m1->∃(j':Nat),letI t:=l++undT d1 W j';Nat.le j' w/\w-j'<w-k/\y/\nA=nA/\d/\w=w/\a/\n/\q=Value.int .i64 (Int.ofNat j')/\gd (Nat.beq (List.length x_2) (List.length t)) (m/\e/\(∃(r:z1),x_2=t++r)/\True))))))))) (∃(x:Unit),True/\y/\gd (Nat.beq p (List.length v)) (m/\e/\(∃(r:z1),u=v++r)/\True))
def uwR (T:TD) (l:By) (W:Nat->Nat) (w:Nat) (nA:Nat):Prop:=
 letI m:=Int.ofNat 0;letI k:=domB T=domB T;letI g:=l++undT T.pad W 0;letI h:=l++undT T.pad W w;letI d:=fun(x:Nat)=>AVal.str [];letI e:=Value.int .i64 (Int.ofNat w);letI f:=Value.int .i64 m;letI c:=Value.int IntKind.i8 m;letI b:=f=f;letI a:=c=c;Nat.le 0 w/\(k/\nA=nA/\SubF d d nA []/\w=w/\SubF (fun(i:Nat)=>AVal.lit (Value.int .i64 (Int.ofNat ((W,w,nA).fst i)))) (fun(i:Nat)=>AVal.lit (Value.int .i64 (Int.ofNat (W i)))) w []/\e=e/\b/\gd (Nat.beq (List.length l) (List.length g)) (b/\a/\(∃(r:List UInt8),l=g++r)/\True))/\∀(x:Unit),True->∃(x:By),x=h/\k/\True/\((True/\True/\True)/\True)/\gd (Nat.beq (List.length h) (List.length x)) (b/\a/\(∃(r:List UInt8),h=x++r)/\True)
theorem uwU_ok (T:TD):TabOk Tryz.prog (uwU T):=by
 refine⟨fun f s h=>?_,fun f s h=>?_⟩
 ·unfold uwU at h
  simp only at h
  split at h
  ·cases h;exact genS_ok ag_fok (ag_ok T).1
  ·cases h;exact genS_ok rp_fok (rp_ok T).1
  ·cases h;exact genS_ok wn_fok (ws_ok T)
  ·cases h;exact genS_ok wp_fok (wr_ok T)
  ·cases h
 ·cases h
theorem uwD_ra (T:TD) (l:By) (W:Nat->Nat) (w nA:Nat) (k:Nat) (hd:UwOk (T.wp padA) l W w nA) (h:k<=w):uwDRa T l W w nA k:=by
 unfold uwDRa
 obtain⟨h1,h2,h3,h4,h5,h6⟩:=hd
 simp only[bufMax,maxC] at h1 h2 h5
 have e1:∀m:Nat,m<=1000->IntKind.wrap IntKind.i64 (Int.ofNat m)=Int.ofNat m:=fun m h=>wrapI (by simp only[Int.ofNat_eq_natCast];omega) (by simp only[Int.ofNat_eq_natCast];omega)
 have tk:∀l:By,List.take l.length l=l:=fun l=>List.take_length
 simp only[e1 (k+1) (by omega),tk]
 simp only[sj2,eq_self,implies_true,forall_eq,intE,intF,Nat.le_eq,sj1,leB_iff',sj0]
 have rL:(undT [97,108,105,103,110,101,100] W k).length<=k*4294967300:=undT_len h2 k
 have wk:=h2 k
 have rE:undT [97,108,105,103,110,101,100] W (k+1)=undT [97,108,105,103,110,101,100] W k++(bar0 k++[45]++List.replicate (W k) 45++[45,124]):=rfl
 have b0:k=0->bar0 k=[124]:=fun h=>by rw[h];rfl
 have b1:¬k=0->bar0 k=[]:=fun h=>by unfold bar0;rw[beqN_iff'.2 h];rfl
 try simp only[List.length_replicate]
 repeat' (first|done|omega|exact trivial|exact rfl|assumption|exact fun _ _ _=>nlS_sub rfl|exact fun _ _ _=>byA|exact congrArg _ (by omega)|exact⟨[],(List.append_nil _).symm⟩|(refine⟨[],?_⟩;rw[rE];(first|rw[b0 (by assumption)]|rw[b1 (by assumption)]);simp;done)|(rw[rE];(first|rw[b0 (by assumption)]|rw[b1 (by assumption)]);simp only[List.length_append,List.length_cons,List.length_nil,List.length_replicate];omega)|(refine⟨(k+1:Nat),?_⟩)|(have hkn:k=w:=(by omega);subst hkn;(first|exact rfl|exact⟨[],by simp⟩))|intro _|refine And.intro ?_ ?_)
theorem uwD_rm (T:TD) (l:By) (W:Nat->Nat) (w nA:Nat) (k:Nat) (hd:UwOk (T.wp padM) l W w nA) (h:k<=w):uwDRm T l W w nA k:=by
 unfold uwDRm
 obtain⟨h1,h2,h3,h4,h5,h6⟩:=hd
 simp only[bufMax,maxC] at h1 h2 h5
 have e1:∀m:Nat,m<=1000->IntKind.wrap IntKind.i64 (Int.ofNat m)=Int.ofNat m:=fun m h=>wrapI (by simp only[Int.ofNat_eq_natCast];omega) (by simp only[Int.ofNat_eq_natCast];omega)
 have tk:∀l:By,List.take l.length l=l:=fun l=>List.take_length
 simp only[e1 (k+1) (by omega),tk]
 simp only[sj2,eq_self,implies_true,forall_eq,intE,intF,Nat.le_eq,sj1,leB_iff',sj0]
 have rL:(undT [109,105,110,105,109,97,108] W k).length<=k*4294967300:=undT_len h2 k
 have wk:=h2 k
 have rE:undT [109,105,110,105,109,97,108] W (k+1)=undT [109,105,110,105,109,97,108] W k++(bar0 k++[45]++[45]++[45,124]):=rfl
 have b0:k=0->bar0 k=[124]:=fun h=>by rw[h];rfl
 have b1:¬k=0->bar0 k=[]:=fun h=>by unfold bar0;rw[beqN_iff'.2 h];rfl
 try simp only[List.length_replicate]
 repeat' (first|done|omega|exact trivial|exact rfl|assumption|exact fun _ _ _=>nlS_sub rfl|exact fun _ _ _=>byA|exact congrArg _ (by omega)|exact⟨[],(List.append_nil _).symm⟩|(refine⟨[],?_⟩;rw[rE];(first|rw[b0 (by assumption)]|rw[b1 (by assumption)]);simp;done)|(rw[rE];(first|rw[b0 (by assumption)]|rw[b1 (by assumption)]);simp only[List.length_append,List.length_cons,List.length_nil,List.length_replicate];omega)|(refine⟨(k+1:Nat),?_⟩)|(have hkn:k=w:=(by omega);subst hkn;(first|exact rfl|exact⟨[],by simp⟩))|intro _|refine And.intro ?_ ?_)
theorem uwD_rn (T:TD) (l:By) (W:Nat->Nat) (w nA:Nat) (k:Nat) (hd:UwOk (T.wp padN) l W w nA) (h:k<=w):uwDRn T l W w nA k:=by
 unfold uwDRn
 obtain⟨h1,h2,h3,h4,h5,h6⟩:=hd
 simp only[bufMax,maxC] at h1 h2 h5
 have e1:∀m:Nat,m<=1000->IntKind.wrap IntKind.i64 (Int.ofNat m)=Int.ofNat m:=fun m h=>wrapI (by simp only[Int.ofNat_eq_natCast];omega) (by simp only[Int.ofNat_eq_natCast];omega)
 have tk:∀l:By,List.take l.length l=l:=fun l=>List.take_length
 simp only[e1 (k+1) (by omega),tk]
 simp only[sj2,eq_self,implies_true,forall_eq,intE,intF,Nat.le_eq,sj1,leB_iff',sj0]
 have rL:(undT [110,111,110,101] W k).length<=k*4294967300:=undT_len h2 k
 have wk:=h2 k
 have rE:undT [110,111,110,101] W (k+1)=undT [110,111,110,101] W k++(bar0 k++[45]++[45]++[45,124]):=rfl
 have b0:k=0->bar0 k=[124]:=fun h=>by rw[h];rfl
 have b1:¬k=0->bar0 k=[]:=fun h=>by unfold bar0;rw[beqN_iff'.2 h];rfl
 try simp only[List.length_replicate]
 repeat' (first|done|omega|exact trivial|exact rfl|assumption|exact fun _ _ _=>nlS_sub rfl|exact fun _ _ _=>byA|exact congrArg _ (by omega)|exact⟨[],(List.append_nil _).symm⟩|(refine⟨[],?_⟩;rw[rE];(first|rw[b0 (by assumption)]|rw[b1 (by assumption)]);simp;done)|(rw[rE];(first|rw[b0 (by assumption)]|rw[b1 (by assumption)]);simp only[List.length_append,List.length_cons,List.length_nil,List.length_replicate];omega)|(refine⟨(k+1:Nat),?_⟩)|(have hkn:k=w:=(by omega);subst hkn;(first|exact rfl|exact⟨[],by simp⟩))|intro _|refine And.intro ?_ ?_)
theorem uwD_b (T:TD) (l:By) (W:Nat->Nat) (w nA:Nat) (hd:UwOk T l W w nA):(uwD T l W w nA).Body Tryz.prog (sub (bodyOf Tryz.f410) [0,0,1]):=by
 refine LoopD.bodyH (root:=(bodyOf Tryz.f410)) [0,0,1] ftOk (uwU_ok T) (LTok.nil) 1000 ?_
 intro k hk
 rcases hd.2.2.2.2.2 with h|h|h
 ·obtain⟨T',rfl⟩:=wpEx h;exact Ho.of (uwDRa T' l W w nA k) (by kernel_rfl) (uwD_ra T' l W w nA k hd hk)
 ·obtain⟨T',rfl⟩:=wpEx h;exact Ho.of (uwDRm T' l W w nA k) (by kernel_rfl) (uwD_rm T' l W w nA k hd hk)
 ·obtain⟨T',rfl⟩:=wpEx h;exact Ho.of (uwDRn T' l W w nA k) (by kernel_rfl) (uwD_rn T' l W w nA k hd hk)
theorem uw_r (T:TD) (l:By) (W:Nat->Nat) (w nA:Nat) (hd:UwOk T l W w nA):uwR T l W w nA:=by
 unfold uwR
 obtain⟨h1,h2,h3,h4,h5,h6⟩:=hd
 simp only[sj2,eq_self,implies_true,forall_eq,intE,intF,Nat.le_eq,sj1,leB_iff',sj0]
 exact⟨by omega,⟨fun _ _ _=>nlS_sub rfl,fun _ _ _=>nlS_sub rfl,by simp[undT],[],by simp[undT]⟩,fun _ _=>⟨[],by simp⟩⟩
theorem uw_fok:FunOk Tryz.prog 410:=⟨Tryz.f410,by kernel_rfl,rfl,by kernel_rfl⟩
theorem uw_ok (T:TD):(uwS T).Body Tryz.prog 410/\(uwS T).BodyD Tryz.prog 410:=by
 refine genS_body (fn:=Tryz.f410) (b:=(bodyOf Tryz.f410)) (LT:=fun a=>[([0,1],(uwD T a.1 a.2.1 a.2.2.1 a.2.2.2).at (0:Nat))]) ftOk (uwU_ok T) 1000 (fun a ha=>LTok.cons (fun fr H K hk=>LoopD.ok (uwD_b T a.1 a.2.1 a.2.2.1 a.2.2.2 ha) hk) (LTok.nil)) (by kernel_rfl) (by kernel_rfl) ?_
 exact fun a ha=>Ho.of (uwR T a.1 a.2.1 a.2.2.1 a.2.2.2) (by kernel_rfl) (uw_r T a.1 a.2.1 a.2.2.1 a.2.2.2 ha)
end Tk
