/- Lemmas of this claim; the last text says what is proved. -/
import Derived.Test.YtjkgmpkgfhhaiaaGreatK47
import Derived.Test.YtjkgmpkgfhhaiaaGreatK17
set_option linter.all false
set_option maxRecDepth 1000000
namespace Tk
open Go Go.Sx Go.Proofs
open Q
variable [Syms]
def zfDR (T:TD) (z:RowX) (k:Nat):Prop:=
 letI h:=noSt=noSt;letI g:=Int.ofNat z.n;letI f:=Value.bool false;letI e:=Int.ofNat 2147483647;letI d:=Value.int .i64 g;letI c:=decide (Int.ofNat k<g);letI b:=∃(x:Unit),True/\h/\f=f/\True;br c (gd c (br (decide (Int.ofNat (List.length (z.t k))>e)) b (br (decide (Int.ofNat (List.length (z.a k))>e)) b (∃(j':Nat),(j'<=z.n/\z.n<=2147483647/\fitX z j')/\z.n-j'<z.n-k/\h/\z.n=z.n/\(∀(k:Nat),letI a:=[AVal.str (z.t k),AVal.lit (Value.bool (z.h k)),AVal.str (z.a k),AVal.lit (Value.int .i64 (z.c k)),AVal.lit (Value.int .i64 (z.r k))];k<z.n->SubL 0 a a)/\d=d/\Value.int .i64 (IntKind.wrap .i64 (Int.ofNat (k+1)))=Value.int .i64 (Int.ofNat j')/\True)))) (∃(x:Unit),fitX z z.n/\h/\True)
def zfR (T:TD) (z:RowX):Prop:=
 letI g:=fitX z z.n;letI f:=noSt=noSt;letI e:=Int.ofNat z.n;letI d:=Value.int .i64 (Int.ofNat 0);letI c:=Value.int .i64 e;letI b:=∃(x:Bool),(x=true->g)/\f/\True/\True/\Value.bool false=Value.bool x/\True;br (decide (e>Int.ofNat 2147483647)) b ((0<=z.n/\z.n<=2147483647/\fitX z 0)/\(f/\z.n=z.n/\(∀(k:Nat),letI a:=[AVal.str (z.t k),AVal.lit (Value.bool (z.h k)),AVal.str (z.a k),AVal.lit (Value.int .i64 (z.c k)),AVal.lit (Value.int .i64 (z.r k))];k<z.n->SubL 0 a a)/\c=c/\d=d/\True)/\(∀(x:Unit),g->∃(x:Bool),(x=true->g)/\f/\True/\True/\Value.bool true=Value.bool x/\True)/\∀(x:Unit),True->b)
theorem zfD_r (T:TD) (z:RowX) (k:Nat) (h:k<=z.n/\z.n<=2147483647/\fitX z k):zfDR T z k:=by
 unfold zfDR
 obtain⟨h1,h2,h3⟩:=h
 have e1:IntKind.wrap IntKind.i64 (Int.ofNat (k+1))=Int.ofNat (k+1):=wrapI (by simp only[Int.ofNat_eq_natCast];omega) (by simp only[Int.ofNat_eq_natCast];omega)
 simp only[e1]
 simp only[decS,sj4,exists_eq_left',sj10,gt_iff_lt,ge_iff_le,exists_const,Int.ofNat_le,implies_true,Bool.true_eq,Value.bool.injEq]
 exact⟨fun g=>⟨g,fun g1 g2=>⟨k+1,⟨by omega,h2,fitX_s h3 (by unfold zzM;omega)⟩,by omega,fun _ _=>cellX_sub,rfl⟩⟩,fun g=>(show k=z.n by omega)▸h3⟩
theorem zfD_b (T:TD) (z:RowX):(zfD T z).Body Tryz.prog (sub (bodyOf Tryz.f8) [0,0,1,0,1,1]):=by
 refine LoopD.bodyH (root:=(bodyOf Tryz.f8)) [0,0,1,0,1,1] ftOk (nofOk) (LTok.nil) 1000 ?_
 exact fun j hj=>Ho.of (zfDR T z j) (by kernel_rfl) (zfD_r T z j hj)
theorem zf_r (T:TD) (z:RowX):zfR T z:=by
 unfold zfR
 simp only[decS,sj4,exists_eq_left',sj10,gt_iff_lt,ge_iff_le,exists_const,Int.ofNat_le,implies_true,Bool.true_eq,Value.bool.injEq]
 exact⟨fun _=>⟨false,nofun,rfl⟩,fun g=>⟨⟨Nat.zero_le _,by omega,fitX_0⟩,fun _ _=>cellX_sub,fun _ h=>⟨true,fun _=>h,rfl⟩,fun _ _=>⟨false,nofun,rfl⟩⟩⟩
theorem zf_fok:FunOk Tryz.prog 8:=⟨Tryz.f8,by kernel_rfl,rfl,by kernel_rfl⟩
theorem zf_ok (T:TD):(zfS T).Body Tryz.prog 8/\(zfS T).BodyD Tryz.prog 8:=by
 refine genS_body (fn:=Tryz.f8) (b:=(bodyOf Tryz.f8)) (LT:=fun a=>[([0,1,0,1,1],(zfD T a).at (0:Nat))]) ftOk (nofOk) 1000 (fun a ha=>LTok.cons (fun fr H K hk=>LoopD.ok (zfD_b T a) hk) (LTok.nil)) (by kernel_rfl) (by kernel_rfl) ?_
 exact fun a ha=>Ho.of (zfR T a) (by kernel_rfl) (zf_r T a)
def zgDR (T:TD) (k:Nat):Prop:=
 letI a1:=noSt=noSt;letI z:=Int.ofNat T.R;letI y:=Value.bool false;letI w:=Value.int .i64 z;letI v:=decide (Int.ofNat k<z);letI s:=RowX.mk (T.4 k) (T.10 k) (T.11 k) (T.12 k) (T.13 k) (T.C k);letI f:=s.t;letI g:=s.h;letI m:=s.a;letI p:=s.c;letI q:=s.r;letI e:=fun(i:Nat)=>letI u:=RowX.mk (T.4 i) (T.10 i) (T.11 i) (T.12 i) (T.13 i) (T.C i);AVal.fmw (fun(j:Nat)=>[AVal.str (u.t j),AVal.lit (Value.bool (u.h j)),AVal.str (u.a j),AVal.lit (Value.int .i64 (u.c j)),AVal.lit (Value.int .i64 (u.r j))]) 5 (T.C i);letI d:=RowX.mk (fun(j:Nat)=>strO (AVal.str (f j))) (fun(j:Nat)=>boolO (AVal.lit (Value.bool (g j)))) (fun(j:Nat)=>strO (AVal.str (m j))) (fun(j:Nat)=>intO (AVal.lit (Value.int .i64 (p j)))) (fun(j:Nat)=>intO (AVal.lit (Value.int .i64 (q j)))) (T.C k);letI b:=d.n;br v (gd v (gd (Nat.blt k T.R) (a1/\True/\T.C k=b/\(∀(k_1:Nat),k_1<T.C k->SubL 0 [AVal.str (f k_1),AVal.lit (Value.bool (g k_1)),AVal.str (m k_1),AVal.lit (Value.int .i64 (p k_1)),AVal.lit (Value.int .i64 (q k_1))] [AVal.str (d.t k_1),AVal.lit (Value.bool (d.h k_1)),AVal.str (d.a k_1),AVal.lit (Value.int .i64 (d.c k_1)),AVal.lit (Value.int .i64 (d.r k_1))])/\∀(x:Bool),(x=true->fitX d b)->br (!x) (∃(x:Unit),True/\a1/\y=y/\True) (∃(j':Nat),(j'<=T.R/\T.R<=2147483647/\fitK T j')/\T.R-j'<T.R-k/\a1/\T.R=T.R/\SubF e e T.R []/\w=w/\Value.int .i64 (IntKind.wrap .i64 (Int.ofNat (k+1)))=Value.int .i64 (Int.ofNat j')/\True)))) (∃(x:Unit),fitT T/\a1/\True)
def zgR (T:TD):Prop:=
 letI m:=noSt=noSt;letI k:=Int.ofNat T.R;letI g:=Value.int .i64 (Int.ofNat 0);letI f:=Value.int .i64 k;letI d:=∃(x:Bool),(x=true->fitT T)/\m/\True/\True/\Value.bool false=Value.bool x/\True;letI b:=fun(i:Nat)=>letI e:=RowX.mk (T.4 i) (T.10 i) (T.11 i) (T.12 i) (T.13 i) (T.C i);AVal.fmw (fun(j:Nat)=>[AVal.str (e.t j),AVal.lit (Value.bool (e.h j)),AVal.str (e.a j),AVal.lit (Value.int .i64 (e.c j)),AVal.lit (Value.int .i64 (e.r j))]) 5 (T.C i);br (decide (k>Int.ofNat 2147483647)) d ((0<=T.R/\T.R<=2147483647/\fitK T 0)/\(m/\T.R=T.R/\SubF b b T.R []/\f=f/\g=g/\True)/\(∀(x:Unit),fitT T->∃(x:Bool),(x=true->fitT T)/\m/\True/\True/\Value.bool true=Value.bool x/\True)/\∀(x:Unit),True->d)
theorem zgU_ok (T:TD):TabOk Tryz.prog (zgU T):=by
 refine⟨fun f s h=>?_,fun f s h=>?_⟩
 ·unfold zgU at h
  simp only at h
  split at h
  ·cases h;exact genS_ok zf_fok (zf_ok T).1
  ·cases h
 ·cases h
theorem zgD_r (T:TD) (k:Nat) (h:k<=T.R/\T.R<=2147483647/\fitK T k):zgDR T k:=by
 unfold zgDR
 obtain⟨h1,h2,h3⟩:=h
 have e1:IntKind.wrap IntKind.i64 (Int.ofNat (k+1))=Int.ofNat (k+1):=wrapI (by simp only[Int.ofNat_eq_natCast];omega) (by simp only[Int.ofNat_eq_natCast];omega)
 simp only[e1]
 simp only[decS,sj4,exists_eq_left',sj10,gt_iff_lt,ge_iff_le,exists_const,Int.ofNat_le,implies_true,Bool.true_eq,Value.bool.injEq]
 exact⟨fun g=>⟨g,blt_iff.2 g,fun _ _=>nlL_sub rfl,fun x hx hx2=>⟨k+1,⟨by omega,h2,fitK_s h3 (hx (by cases x<;>first|rfl|cases hx2))⟩,by omega,fun i hi _=>SubA.fmw fun _ _=>nlL_sub rfl,rfl⟩⟩,fun g=>⟨h2,(show k=T.R by omega)▸h3⟩⟩
theorem zgD_b (T:TD):(zgD T).Body Tryz.prog (sub (bodyOf Tryz.f4) [0,0,1,0,1,1]):=by
 refine LoopD.bodyH (root:=(bodyOf Tryz.f4)) [0,0,1,0,1,1] ftOk (zgU_ok T) (LTok.nil) 1000 ?_
 exact fun j hj=>Ho.of (zgDR T j) (by kernel_rfl) (zgD_r T j hj)
theorem zg_r (T:TD):zgR T:=by
 unfold zgR
 simp only[decS,sj4,exists_eq_left',sj10,gt_iff_lt,ge_iff_le,exists_const,Int.ofNat_le,implies_true,Bool.true_eq,Value.bool.injEq]
 exact⟨fun _=>⟨false,nofun,rfl⟩,fun g=>⟨⟨Nat.zero_le _,by omega,fitK_0⟩,fun i hi _=>SubA.fmw fun _ _=>nlL_sub rfl,fun _ h=>⟨true,fun _=>h,rfl⟩,fun _ _=>⟨false,nofun,rfl⟩⟩⟩
theorem zg_fok:FunOk Tryz.prog 4:=⟨Tryz.f4,by kernel_rfl,rfl,by kernel_rfl⟩
theorem zg_ok (T:TD):(zgS T).Body Tryz.prog 4/\(zgS T).BodyD Tryz.prog 4:=by
 refine genS_body (fn:=Tryz.f4) (b:=(bodyOf Tryz.f4)) (LT:=fun _=>[([0,1,0,1,1],(zgD T).at (0:Nat))]) ftOk (zgU_ok T) 1000 (fun _ ha=>LTok.cons (fun fr H K hk=>LoopD.ok (zgD_b T) hk) (LTok.nil)) (by kernel_rfl) (by kernel_rfl) ?_
 exact fun a ha=>Ho.of (zgR T) (by kernel_rfl) (zg_r T)
def w9DR (T:TD) (l:By) (k:Nat):Prop:=
 letI s:=Int.ofNat k;letI t:=noSt=noSt;letI r:=List.length l;letI q:=Value.bool false;letI p:=Int.ofNat r;letI n:=IntKind.wrap .i64 (Int.ofNat (k+1));letI m:=Value.int .i64 p;letI h:=IntKind.wrap .i64 (s-Int.ofNat 1);letI g:=decide (s<p);letI f:=Int.ofNat (UInt8.toNat (List.getD l k (0:UInt8)));letI e:=∃(x:Unit),True/\t/\q=q/\True;letI d:=∃(j':Nat),(j'<=r/\wdsK l j')/\r-j'<r-k/\t/\l=l/\m=m/\Value.int .i64 n=Value.int .i64 (Int.ofNat j')/\True;letI c:=br (f !=Int.ofNat 32) e (br (s==Int.ofNat 0) e (br (n==p) e (gd (decide (Int.ofNat 0<=h)&&decide (h<p)) (br (Int.ofNat (UInt8.toNat (List.getD l (Int.toNat h) (0:UInt8)))==Int.ofNat 32) e d))));letI b:=br (decide (f≥Int.ofNat 48)) (br (!decide (f<=Int.ofNat 57)) c d) c;letI a:=br (decide (f≥Int.ofNat 65)) (br (decide (f<=Int.ofNat 90)) d b) b;br g (gd g (br (decide (f≥Int.ofNat 97)) (br (decide (f<=Int.ofNat 122)) d a) a)) (∃(x:Unit),Words l/\t/\True)
def w9R (T:TD) (l:By):Prop:=
 letI d:=noSt=noSt;letI c:=List.length l;letI b:=Value.int .i64 (Int.ofNat 0);letI a:=Value.int .i64 (Int.ofNat c);(0<=c/\wdsK l 0)/\(d/\l=l/\a=a/\b=b/\True)/\(∀(x:Unit),Words l->∃(x:Bool),(x=true->Words l)/\d/\True/\True/\Value.bool true=Value.bool x/\True)/\∀(x:Unit),True->∃(x:Bool),(x=true->Words l)/\d/\True/\True/\Value.bool false=Value.bool x/\True
theorem w9D_r (T:TD) (l:By) (k:Nat) (hd:l.length<=2147483647) (h:k<=l.length/\wdsK l k):w9DR T l k:=by
 unfold w9DR
 obtain⟨h1,h2⟩:=h
 have e0:k<l.length->IntKind.wrap IntKind.i64 (Int.ofNat (k+1))=Int.ofNat (k+1):=fun g=>wrapI (by simp only[Int.ofNat_eq_natCast];omega) (by simp only[Int.ofNat_eq_natCast];omega)
 by_cases g:k<l.length
 ·have e0:=e0 g
  simp only[e0]
  by_cases h0:k=0
  ·subst h0
   simp only[decS,sj4,exists_eq_left',sj10,gt_iff_lt,ge_iff_le,exists_const,Int.ofNat_le,implies_true,Bool.true_eq,Value.bool.injEq,bne_eq_false_iff_eq,beq_eq_false_iff_ne,ne_eq,Bool.not_eq_true',Bool.not_eq_false',Bool.and_eq_true,Int.toNat_natCast]
   repeat' (first|done|omega|exact absurd trivial (by assumption)|exact⟨1,⟨by omega,wdsK_w h2 (by omega)⟩,by omega,rfl⟩|intro _|refine And.intro ?_ ?_)
  ·have e1:IntKind.wrap IntKind.i64 (Int.ofNat k-Int.ofNat 1)=Int.ofNat (k-1):=wrapS (by omega) (by omega)
   simp only[e1]
   simp only[decS,sj4,exists_eq_left',sj10,gt_iff_lt,ge_iff_le,exists_const,Int.ofNat_le,implies_true,Bool.true_eq,Value.bool.injEq,bne_eq_false_iff_eq,beq_eq_false_iff_ne,ne_eq,Bool.not_eq_true',Bool.not_eq_false',Bool.and_eq_true,Int.toNat_natCast]
   repeat' (first|done|omega|exact⟨k+1,⟨by omega,wdsK_w h2 (by omega)⟩,by omega,rfl⟩|exact⟨k+1,⟨by omega,wdsK_b h2 (by omega) (by omega) (by omega) (by omega)⟩,by omega,rfl⟩|intro _|refine And.intro ?_ ?_)
 ·simp only[decS,sj4,exists_eq_left',sj10,gt_iff_lt,ge_iff_le,exists_const,Int.ofNat_le,implies_true,Bool.true_eq,Value.bool.injEq,bne_eq_false_iff_eq,beq_eq_false_iff_ne,ne_eq,Bool.not_eq_true',Bool.not_eq_false',Bool.and_eq_true,Int.toNat_natCast]
  exact⟨fun h=>absurd h g,fun _=>wdsK_end h2 (by omega)⟩
theorem w9D_b (T:TD) (l:By) (hd:l.length<=2147483647):(w9D T l).Body Tryz.prog (sub (bodyOf Tryz.f9) [0,0,1,0,1]):=by
 refine LoopD.bodyH (root:=(bodyOf Tryz.f9)) [0,0,1,0,1] ftOk (nofOk) (LTok.nil) 1000 ?_
 exact fun j hj=>Ho.of (w9DR T l j) (by kernel_rfl) (w9D_r T l j hd hj)
theorem w9_r (T:TD) (l:By) (hd:l.length<=2147483647):w9R T l:=by
 unfold w9R
 simp only[decS,sj4,exists_eq_left',sj10,gt_iff_lt,ge_iff_le,exists_const,Int.ofNat_le,implies_true,Bool.true_eq,Value.bool.injEq]
 exact⟨⟨Nat.zero_le _,wdsK_0⟩,fun _ h=>⟨true,fun _=>h,rfl⟩,fun _ _=>⟨false,nofun,rfl⟩⟩
theorem w9_fok:FunOk Tryz.prog 9:=⟨Tryz.f9,by kernel_rfl,rfl,by kernel_rfl⟩
theorem w9_ok (T:TD):(w9S T).Body Tryz.prog 9/\(w9S T).BodyD Tryz.prog 9:=by
 refine genS_body (fn:=Tryz.f9) (b:=(bodyOf Tryz.f9)) (LT:=fun a=>[([0,1,0,1],(w9D T a).at (0:Nat))]) ftOk (nofOk) 1000 (fun a ha=>LTok.cons (fun fr H K hk=>LoopD.ok (w9D_b T a ha) hk) (LTok.nil)) (by kernel_rfl) (by kernel_rfl) ?_
 exact fun a ha=>Ho.of (w9R T a) (by kernel_rfl) (w9_r T a ha)
def neIR (T:TD) (i:Nat) (k:Nat) (f:Bool):Prop:=
 letI d2:=T.C i;letI c2:=T.R=T.R;letI b2:=noSt=noSt;letI a2:=d2=d2;letI z1:=Int.ofNat d2;letI y1:=Int.ofNat i==Int.ofNat 0;letI w1:=Value.int .i64 (Int.ofNat i);letI v1:=Value.int .i64 (Int.ofNat T.R);letI u1:=Value.int .i64 z1;letI s1:=decide (Int.ofNat k<z1);letI t1:=decide (Int.ofNat 0<z1);letI r1:=Value.int .i64 (IntKind.wrap .i64 (Int.ofNat (k+1)));letI n1:=RowX.mk (T.4 i) (T.10 i) (T.11 i) (T.12 i) (T.13 i) d2;letI q1:=w1=w1;letI e1:=n1.t;letI f1:=n1.c;letI g1:=n1.r;letI h1:=n1.h;letI k1:=n1.a;letI m1:=v1=v1;letI c1:=e1 k;letI d1:=h1 k;letI b1:=u1=u1;letI a1:=Words c1;letI y:= !eqL (k1 k) [];letI z:= !d1==false;letI w:=∃(x:Unit),True/\b2/\Value.bool false=Value.bool false/\True;letI u:=decide (f1 k>Int.ofNat 1);letI v:=decide (g1 k>Int.ofNat 1);letI s:=Nat.le (List.length c1) 2147483647;letI q:=c1=c1;letI p:= !d1==h1 0;letI m:=fun(i:Nat)=>letI p1:=RowX.mk (T.4 i) (T.10 i) (T.11 i) (T.12 i) (T.13 i) (T.C i);AVal.fmw (fun(j:Nat)=>[AVal.str (p1.t j),AVal.lit (Value.bool (p1.h j)),AVal.str (p1.a j),AVal.lit (Value.int .i64 (p1.c j)),AVal.lit (Value.int .i64 (p1.r j))]) 5 (T.C i);letI g:=∀(k:Nat),letI n:=[AVal.str (e1 k),AVal.lit (Value.bool (h1 k)),AVal.str (k1 k),AVal.lit (Value.int .i64 (f1 k)),AVal.lit (Value.int .i64 (g1 k))];k<d2->SubL 0 n n;letI e:=SubF m m T.R [];letI d:=br y w (∃(j':Nat×Bool),(j'.fst<=d2/\i<T.R/\d2<=12/\ntJ T i j'.fst)/\d2-j'.fst<d2-k/\b2/\c2/\e/\c2/\e/\m1/\q1/\q1/\a2/\g/\a2/\g/\b1/\r1=Value.int .i64 (Int.ofNat j'.fst)/\Value.bool true=Value.bool j'.snd/\True);letI b:=br y w (∃(j':Nat×Bool),(j'.fst<=d2/\i<T.R/\d2<=12/\ntJ T i j'.fst)/\d2-j'.fst<d2-k/\b2/\c2/\e/\c2/\e/\m1/\q1/\q1/\a2/\g/\a2/\g/\b1/\r1=Value.int .i64 (Int.ofNat j'.fst)/\(Value.bool !eqL c1 [])=Value.bool j'.snd/\True);br s1 (gd s1 (br f (b2/\s/\q/\∀(x:Bool),(x=true->a1)->br (!x) w (br u w (br v w (br y1 (gd t1 (br p w d)) (br z w d))))) (b2/\s/\q/\∀(x:Bool),(x=true->a1)->br (!x) w (br u w (br v w (br y1 (gd t1 (br p w b)) (br z w b))))))) (∃(x:Bool),ntJ T i d2/\b2/\c2/\e/\c2/\e/\m1/\q1/\Value.bool f=Value.bool x/\True)
def neDR (T:TD) (k:Nat):Prop:=
 letI d1:=T.C k;letI c1:=T.R=T.R;letI b1:=noSt=noSt;letI a1:=Int.ofNat d1;letI y:=Value.int .i64 (Int.ofNat k);letI z:=Value.int .i64 (Int.ofNat 0);letI w:=Value.int .i64 (Int.ofNat T.R);letI v:=Value.int .i64 a1;letI u:=decide (Int.ofNat k<Int.ofNat T.R);letI s:=Value.bool false=Value.bool false/\True;letI p:=y=y;letI q:=RowX.mk (T.4 k) (T.10 k) (T.11 k) (T.12 k) (T.13 k) d1;letI m:=w=w;letI g:=∃(x:Unit),True/\b1/\s;letI e:=fun(i:Nat)=>letI n:=RowX.mk (T.4 i) (T.10 i) (T.11 i) (T.12 i) (T.13 i) (T.C i);AVal.fmw (fun(j:Nat)=>[AVal.str (n.t j),AVal.lit (Value.bool (n.h j)),AVal.str (n.a j),AVal.lit (Value.int .i64 (n.c j)),AVal.lit (Value.int .i64 (n.r j))]) 5 (T.C i);letI d:=∀(k_1:Nat),letI f:=[AVal.str (q.t k_1),AVal.lit (Value.bool (q.h k_1)),AVal.str (q.a k_1),AVal.lit (Value.int .i64 (q.c k_1)),AVal.lit (Value.int .i64 (q.r k_1))];k_1<d1->SubL 0 f f;letI b:=SubF e e T.R [];br u (gd u (gd (Nat.blt k T.R) (br (a1==Int.ofNat 0) g (br (decide (a1>Int.ofNat 12)) g ((0<=d1/\k<T.R/\d1<=12/\ntJ T k 0)/\(b1/\c1/\b/\c1/\b/\m/\p/\p/\d1=d1/\d/\d1=d1/\d/\v=v/\z=z/\s)/\(∀(x:Bool),ntJ T k d1->br (!x) g (∃(j':Nat),(j'<=T.R/\0<T.R/\T.R<=12/\ntI T j')/\T.R-j'<T.R-k/\b1/\c1/\b/\c1/\b/\m/\Value.int .i64 (IntKind.wrap .i64 (Int.ofNat (k+1)))=Value.int .i64 (Int.ofNat j')/\True))/\∀(x:Unit),True->g))))) (∃(x:Unit),(T.R<=12/\ntT T)/\b1/\True)
def neR (T:TD):Prop:=
 letI p:=noSt=noSt;letI n:=Int.ofNat T.R;letI m:=T.R<=12/\ntT T;letI k:=Value.int .i64 (Int.ofNat 0);letI g:=Value.int .i64 n;letI e:=∃(x:Bool),(x=true->m)/\p/\True/\True/\Value.bool false=Value.bool x/\True;letI d:=fun(i:Nat)=>letI f:=RowX.mk (T.4 i) (T.10 i) (T.11 i) (T.12 i) (T.13 i) (T.C i);AVal.fmw (fun(j:Nat)=>[AVal.str (f.t j),AVal.lit (Value.bool (f.h j)),AVal.str (f.a j),AVal.lit (Value.int .i64 (f.c j)),AVal.lit (Value.int .i64 (f.r j))]) 5 (T.C i);letI b:=SubF d d T.R [];br (n==Int.ofNat 0) e (br (decide (n>Int.ofNat 12)) e ((0<=T.R/\0<T.R/\T.R<=12/\ntI T 0)/\(p/\T.R=T.R/\b/\T.R=T.R/\b/\g=g/\k=k/\True)/\(∀(x:Unit),m->∃(x:Bool),(x=true->m)/\p/\True/\True/\Value.bool true=Value.bool x/\True)/\∀(x:Unit),True->e))
theorem neU_ok (T:TD):TabOk Tryz.prog (neU T):=by
 refine⟨fun f s h=>?_,fun f s h=>?_⟩
 ·unfold neU at h
  simp only at h
  split at h
  ·cases h;exact genS_ok w9_fok (w9_ok T).1
  ·cases h
 ·cases h
theorem neI_r (T:TD) (i k:Nat) (f:Bool) (hd:fitT T) (h:k<=T.C i/\i<T.R/\T.C i<=12/\ntJ T i k):neIR T i k f:=by
 unfold neIR
 obtain⟨h1,h2,h3,h4⟩:=h
 have e1:IntKind.wrap IntKind.i64 (Int.ofNat (k+1))=Int.ofNat (k+1):=wrapI (by simp only[Int.ofNat_eq_natCast];omega) (by simp only[Int.ofNat_eq_natCast];omega)
 simp only[e1]
 have rF:∀us,SubF (fun i=>AVal.fmw (cellX (rowX T i)) 5 (T.C i)) (fun i=>AVal.fmw (cellX (rowX T i)) 5 (T.C i)) T.R us:=fun us i hi _=>SubA.fmw fun _ _=>nlL_sub rfl
 have xt:∀x:Bool,(!x)=false->x=true:=fun x h=>by cases x<;>first|rfl|cases h
 have n0:∀n:Nat,((n:Int)==((0:Nat):Int))=false->n≠0:=fun n h e=>by subst e;simp at h
 have hh0:((i:Int)==((0:Nat):Int))=true->(!T.hh i k==T.hh i 0)=false->T.hh i k=(Nat.beq i 0&&T.hh i 0):=fun i0 hh=>by
  have i0:i=0:=by simpa using i0
  subst i0;simpa using hh
 have hh1:((i:Int)==((0:Nat):Int))=false->(!T.hh i k==false)=false->T.hh i k=(Nat.beq i 0&&T.hh i 0):=fun i0 hh=>by
  rw[beqN_iff'.2 (n0 _ i0)];simpa using hh
 simp only[decS,sj4,exists_eq_left',sj10,gt_iff_lt,ge_iff_le,exists_const,Int.ofNat_le,implies_true,Bool.true_eq,Value.bool.injEq]
 refine⟨fun g=>⟨g,fun hf=>?_,fun hf=>?_⟩,fun g=>⟨_,(show k=T.C i by omega)▸h4,rF _,rF _,rfl⟩⟩
 ·subst hf
  refine⟨hd.2 i h2 k g,fun x hx hx2 c1 r1=>⟨fun i0=>⟨by omega,fun hh al=>?_⟩,fun i0 hh al=>?_⟩⟩
  ·exact⟨(k+1,_),⟨by omega,h2,h3,ntJ_s h4 ⟨hx (xt _ hx2),by omega,by omega,hh0 i0 hh,eqL_nil al⟩⟩,by omega,rF _,rF _,fun _ _=>nlL_sub rfl,fun _ _=>nlL_sub rfl,rfl,rfl⟩
  ·exact⟨(k+1,_),⟨by omega,h2,h3,ntJ_s h4 ⟨hx (xt _ hx2),by omega,by omega,hh1 i0 hh,eqL_nil al⟩⟩,by omega,rF _,rF _,fun _ _=>nlL_sub rfl,fun _ _=>nlL_sub rfl,rfl,rfl⟩
 ·subst hf
  refine⟨hd.2 i h2 k g,fun x hx hx2 c1 r1=>⟨fun i0=>⟨by omega,fun hh al=>?_⟩,fun i0 hh al=>?_⟩⟩
  ·exact⟨(k+1,_),⟨by omega,h2,h3,ntJ_s h4 ⟨hx (xt _ hx2),by omega,by omega,hh0 i0 hh,eqL_nil al⟩⟩,by omega,rF _,rF _,fun _ _=>nlL_sub rfl,fun _ _=>nlL_sub rfl,rfl,rfl⟩
  ·exact⟨(k+1,_),⟨by omega,h2,h3,ntJ_s h4 ⟨hx (xt _ hx2),by omega,by omega,hh1 i0 hh,eqL_nil al⟩⟩,by omega,rF _,rF _,fun _ _=>nlL_sub rfl,fun _ _=>nlL_sub rfl,rfl,rfl⟩
theorem neI_b (T:TD) (i:Nat) (hd:fitT T):(neI T i).Body Tryz.prog (sub (bodyOf Tryz.f5) [0,0,1,0,1,1,1,0,0,1,1,0,0,1,0,1,1]):=by
 refine LoopD.bodyH (root:=(bodyOf Tryz.f5)) [0,0,1,0,1,1,1,0,0,1,1,0,0,1,0,1,1] ftOk (neU_ok T) (LTok.nil) 1000 ?_
 exact fun j hj=>Ho.of (neIR T i j.1 j.2) (by kernel_rfl) (neI_r T i j.1 j.2 hd hj)
theorem neD_r (T:TD) (k:Nat) (hd:fitT T) (h:k<=T.R/\0<T.R/\T.R<=12/\ntI T k):neDR T k:=by
 unfold neDR
 obtain⟨h1,h2,h3,h4⟩:=h
 have e1:IntKind.wrap IntKind.i64 (Int.ofNat (k+1))=Int.ofNat (k+1):=wrapI (by simp only[Int.ofNat_eq_natCast];omega) (by simp only[Int.ofNat_eq_natCast];omega)
 simp only[e1]
 have rF:∀us,SubF (fun i=>AVal.fmw (cellX (rowX T i)) 5 (T.C i)) (fun i=>AVal.fmw (cellX (rowX T i)) 5 (T.C i)) T.R us:=fun us i hi _=>SubA.fmw fun _ _=>nlL_sub rfl
 have xt:∀x:Bool,(!x)=false->x=true:=fun x h=>by cases x<;>first|rfl|cases h
 have n0:∀n:Nat,((n:Int)==((0:Nat):Int))=false->n≠0:=fun n h e=>by subst e;simp at h
 simp only[decS,sj4,exists_eq_left',sj10,gt_iff_lt,ge_iff_le,exists_const,Int.ofNat_le,implies_true,Bool.true_eq,Value.bool.injEq]
 exact⟨fun g=>⟨g,blt_iff.2 g,fun c0 c1=>⟨⟨Nat.zero_le _,g,by omega,ntJ_0⟩,⟨rF _,rF _,fun _ _=>nlL_sub rfl,fun _ _=>nlL_sub rfl⟩,fun x hn _=>⟨k+1,⟨by omega,h2,h3,ntI_s h4 (Nat.pos_of_ne_zero (n0 _ c0)) (by omega) hn⟩,by omega,rF _,rF _,rfl⟩⟩⟩,fun g=>⟨h3,h2,by omega,(show k=T.R by omega)▸h4⟩⟩
theorem neD_b (T:TD) (hd:fitT T):(neD T).Body Tryz.prog (sub (bodyOf Tryz.f5) [0,0,1,0,1,1]):=by
 refine LoopD.bodyHj (root:=(bodyOf Tryz.f5)) (LT:=fun k=>[([0,1,0,1,1,1,0,0,1,1,0,0,1,0,1,1],(neI T k).at (0,false))]) [0,0,1,0,1,1] ftOk (neU_ok T) (fun k hi=>LTok.cons (fun fr H K hk=>LoopD.ok (neI_b T k hd) hk) (LTok.nil)) 1000 ?_
 exact fun j hj=>Ho.of (neDR T j) (by kernel_rfl) (neD_r T j hd hj)
theorem ne_r (T:TD) (hd:fitT T):neR T:=by
 unfold neR
 have rF:∀us,SubF (fun i=>AVal.fmw (cellX (rowX T i)) 5 (T.C i)) (fun i=>AVal.fmw (cellX (rowX T i)) 5 (T.C i)) T.R us:=fun us i hi _=>SubA.fmw fun _ _=>nlL_sub rfl
 have xt:∀x:Bool,(!x)=false->x=true:=fun x h=>by cases x<;>first|rfl|cases h
 have n0:∀n:Nat,((n:Int)==((0:Nat):Int))=false->n≠0:=fun n h e=>by subst e;simp at h
 simp only[decS,sj4,exists_eq_left',sj10,gt_iff_lt,ge_iff_le,exists_const,Int.ofNat_le,implies_true,Bool.true_eq,Value.bool.injEq]
 exact⟨fun _=>⟨false,nofun,rfl⟩,fun r0=>⟨fun _=>⟨false,nofun,rfl⟩,fun r1=>⟨⟨Nat.zero_le _,Nat.pos_of_ne_zero (n0 _ r0),by omega,ntI_0⟩,⟨rF _,rF _⟩,fun _ h=>⟨true,fun _=>h,rfl⟩,fun _ _=>⟨false,nofun,rfl⟩⟩⟩⟩
theorem ne_fok:FunOk Tryz.prog 5:=⟨Tryz.f5,by kernel_rfl,rfl,by kernel_rfl⟩
theorem ne_ok (T:TD):(neS T).Body Tryz.prog 5/\(neS T).BodyD Tryz.prog 5:=by
 refine genS_body (fn:=Tryz.f5) (b:=(bodyOf Tryz.f5)) (LT:=fun _=>[([0,1,0,1,1],(neD T).at (0:Nat))]) ftOk (neU_ok T) 1000 (fun _ ha=>LTok.cons (fun fr H K hk=>LoopD.ok (neD_b T ha) hk) (LTok.nil)) (by kernel_rfl) (by kernel_rfl) ?_
 exact fun a ha=>Ho.of (neR T) (by kernel_rfl) (ne_r T ha)
def ceR (T:TD) (t:By) (h:Bool) (c:Int) (r:Int):Prop:=
 letI a1:=Int.ofNat 1;letI b1:=noSt=noSt;letI c1:=AVal.str [];letI z:=(t,h,c,r);letI w:=[(116:UInt8),104];letI y:=[(116:UInt8),100];letI v:=([]:List UInt8)=[];letI q:=decide (c>a1);letI s:=decide (r>a1);letI u:=By×Bool×Int×Int;letI n:=Value.int .i64 a1;letI p:=Value.int .i64 (Int.ofNat 0);letI m:=AVal.lit (Value.slice none 0 0);letI k:=AVal.lit n;letI f:=p=p;letI g:=n=n;br h (br (!eqL t []) (br q False (br s False (∃(x:u),letI d1:=kidN x.fst;letI a:=[k,c1,AVal.str x.fst,m,m];x=z/\b1/\(True/\True/\True/\True/\∀(i:Nat),i<d1->SubL 0 a a)/\True/\f/\(w=bif x.2.fst then w else y)/\v/\1=d1/\d1=0+1/\g/\v/\t=x.fst/\True))) (br q False (br s False (∃(x:u),letI b:=[k,c1,AVal.str x.fst,m,m];x=z/\b1/\(True/\True/\True/\True/\∀(i:Nat),i<kidN x.fst->SubL 0 b b)/\True/\f/\(w=bif x.2.fst then w else y)/\v/\kidN x.fst=0/\True)))) (br (!eqL t []) (br q False (br s False (∃(x:u),letI e1:=kidN x.fst;letI d:=[k,c1,AVal.str x.fst,m,m];x=z/\b1/\(True/\True/\True/\True/\∀(i:Nat),i<e1->SubL 0 d d)/\True/\f/\(y=bif x.2.fst then w else y)/\v/\1=e1/\e1=0+1/\g/\v/\t=x.fst/\True))) (br q False (br s False (∃(x:u),letI e:=[k,c1,AVal.str x.fst,m,m];x=z/\b1/\(True/\True/\True/\True/\∀(i:Nat),i<kidN x.fst->SubL 0 e e)/\True/\f/\(y=bif x.2.fst then w else y)/\v/\kidN x.fst=0/\True))))
theorem ceU_ok (T:TD):TabOk Tryz.prog (ceU T):=by
 refine⟨fun f s h=>?_,fun f s h=>?_⟩
 ·unfold ceU at h
  simp only at h
  split at h
  ·cases h;exact noS_ok
  ·cases h
 ·cases h
theorem ce_r (T:TD) (t:By) (h:Bool) (c r:Int) (hd:c<=1/\r<=1):ceR T t h c r:=by
 unfold ceR
 obtain⟨c1,c2⟩:=hd
 cases h<;>cases t<;>(
 simp only[decS,sj4,exists_eq_left',sj10,gt_iff_lt,ge_iff_le,exists_const,Int.ofNat_le,implies_true,Bool.true_eq,Value.bool.injEq]
 repeat' (first|done|omega|exact trivial|exact rfl|exact fun _ _=>nlL_sub rfl|intro _|refine And.intro ?_ ?_|(exfalso;simp_all [eqL,nilB];done)))
theorem ce_fok:FunOk Tryz.prog 35:=⟨Tryz.f35,by kernel_rfl,rfl,by kernel_rfl⟩
theorem ce_ok (T:TD):(ceS T).Body Tryz.prog 35/\(ceS T).BodyD Tryz.prog 35:=by
 refine genS_body (fn:=Tryz.f35) (b:=(bodyOf Tryz.f35)) (LT:=fun _=>[]) ftOk (ceU_ok T) 1000 (fun a ha=>LTok.nil) (by kernel_rfl) (by kernel_rfl) ?_
 exact fun a ha=>Ho.of (ceR T a.1 a.2.1 a.2.2.1 a.2.2.2) (by kernel_rfl) (ce_r T a.1 a.2.1 a.2.2.1 a.2.2.2 ha)
end Tk
