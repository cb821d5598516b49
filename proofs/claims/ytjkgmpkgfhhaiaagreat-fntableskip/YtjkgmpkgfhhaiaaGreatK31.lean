/- Lemmas of this claim; the last text says what is proved. -/
import Derived.Test.YtjkgmpkgfhhaiaaGreatK21
import Derived.Test.YtjkgmpkgfhhaiaaGreatK30
import Derived.Test.YtjkgmpkgfhhaiaaGreatK24
set_option linter.all false
set_option maxRecDepth 1000000
namespace Tk
open Go Go.Sx Go.Proofs
open Q
variable [Syms]
def esDR (T:TD) (l:By) (i:Nat):Prop:=
 letI c1:=i+1+1;letI b1:=List UInt8;letI y:=List.length l;letI z:=List.take i l;letI a1:=List.drop i l;letI w:=domB T=domB T;letI v:=y-i;letI s:=Int.ofNat y;letI t:=Nat.blt i y;letI p:=List.length z;letI q:=List.take i z;letI m:=UInt8.toNat (List.getD l i (0:UInt8));letI n:=Nat.ble i p;letI k:=decide (Int.ofNat i<s);letI h:=Int.ofNat m;letI g:=UInt8.ofNat m;letI f:=Value.int .i64 (IntKind.wrap .i64 (Int.ofNat (i+1)));letI e:=(a1,List.getD a1 0 (0:UInt8));letI c:=e.fst;letI d:=e.snd;letI b:=List.length c;letI a:=decide (h<Int.ofNat 256)&&true&&true;br k (gd k (gd t (br (h==Int.ofNat 0) (gd (n&&(Nat.ble (c1+1) 140737488355328&&true)) (∃(j':Nat),Nat.le j' y/\y-j'<v/\w/\l=l/\gd (Nat.beq (c1+1) j') (f=Value.int .i64 (Int.ofNat j')/\(∃(r:b1),q++[(239:UInt8),191,189]=List.take j' l++r)/\True))) (gd (decide (Int.ofNat i<=s)&&decide (s<=s)) (w/\(0<b/\d=List.getD c 0 (0:UInt8)/\UInt8.toNat d<128/\b<=70368744177664)/\a1=c/\∀(x:UInt8),letI u:=Int.ofNat (UInt8.toNat x);x=d->br (u==Int.ofNat 92||(u==Int.ofNat 42||(u==Int.ofNat 95||(u==Int.ofNat 45||(u==Int.ofNat 43||(u==Int.ofNat 46||(u==Int.ofNat 62||(u==Int.ofNat 124||(u==Int.ofNat 36||(u==Int.ofNat 35||(u==Int.ofNat 61||(u==Int.ofNat 91||(u==Int.ofNat 93||(u==Int.ofNat 40||(u==Int.ofNat 41||(u==Int.ofNat 33||(u==Int.ofNat 126||(u==Int.ofNat 96||(u==Int.ofNat 34||(u==Int.ofNat 39||false)))))))))))))))))))) (gd k (gd t (gd a (gd (n&&(Nat.ble c1 140737488355328&&true)) (∃(j':Nat),Nat.le j' y/\y-j'<v/\w/\l=l/\gd (Nat.beq c1 j') (f=Value.int .i64 (Int.ofNat j')/\(∃(r:b1),q++[(7:UInt8),g]=List.take j' l++r)/\True)))))) (gd k (gd t (gd a (gd (n&&(Nat.ble (i+1) 140737488355328&&true)) (∃(j':Nat),Nat.le j' y/\y-j'<v/\w/\l=l/\gd (Nat.beq (i+1) j') (f=Value.int .i64 (Int.ofNat j')/\(∃(r:b1),q++[g]=List.take j' l++r)/\True))))))))))) (∃(x:Unit),True/\w/\0+i<=p/\List.take i (List.drop 0 z)=l/\True)
theorem esU_ok (T:TD):TabOk Tryz.prog (esU T):=by
 refine⟨fun f s h=>?_,fun f s h=>?_⟩
 ·unfold esU at h
  simp only at h
  split at h
  ·cases h;exact genS_ok dr_fok (dr_ok T).1
  ·cases h
 ·cases h
theorem esD_r (T:TD) (l:By) (i:Nat) (hd:WT l/\l.length<=bufMax) (hi:i<=l.length):esDR T l i:=by
 unfold esDR
 obtain⟨h1,h2⟩:=hd
 simp only[bufMax] at h2
 have ofN:∀c:UInt8,UInt8.ofNat c.toNat=c:=fun c=>by simp
 have e1:i<l.length->IntKind.wrap IntKind.i64 (Int.ofNat (i+1))=Int.ofNat (i+1):=fun h=>by rw[wrapI (by simp only[Int.ofNat_eq_natCast];omega) (by simp only[Int.ofNat_eq_natCast];omega)]
 have hw:i<l.length->wc (l.getD i 0):=fun h=>h1 _ (getD_mem h)
 simp only[sj2,intE,intF,ofN,Bool.or_eq_true,Bool.false_eq_true,forall_eq,getD_drop,sj1,leB_iff',sj0]
 unfold wc at hw
 have fin:i<l.length->∃j',Nat.le j' l.length/\l.length-j'<l.length-i/\i+1=j'/\Value.int IntKind.i64 (IntKind.wrap IntKind.i64 ((i+1:Nat):Int))=Value.int IntKind.i64 (j':Nat)/\∃r,List.take i (List.take i l)++[List.getD l i 0]=List.take j' l++r:=fun g=>⟨i+1,Nat.succ_le_of_lt g,by omega,rfl,congrArg _ (e1 g),[],by rw[List.take_of_length_le (l:=List.take i l) (List.length_take_le _ _),List.append_nil,takeS g]⟩
 exact⟨fun g=>⟨g,g,fun e=>absurd (hw g) (by omega),fun _=>⟨⟨by omega,by omega⟩,⟨by rw[List.length_drop];omega,by have:=hw g;omega,lenDrop h2⟩,fun e=>absurd (hw g) (by omega),fun _=>⟨g,g,(l.getD i 0).toNat_lt,⟨by rw[List.length_take];omega,by omega⟩,fin g⟩⟩⟩,fun g=>⟨by rw[List.length_take];omega,by rw[List.take_of_length_le (l:=List.take i l) (List.length_take_le _ _),List.take_of_length_le (by omega)]⟩⟩
theorem esD_b (T:TD) (l:By) (hd:WT l/\l.length<=bufMax):(esD T l).Body Tryz.prog (sub (bodyOf Tryz.f469) [0,0,1,0,1,1,1]):=by
 refine LoopD.bodyH (root:=(bodyOf Tryz.f469)) [0,0,1,0,1,1,1] ftOk (esU_ok T) (LTok.nil) 1000 ?_
 exact fun i hi=>Ho.of (esDR T l i) (by kernel_rfl) (esD_r T l i hd hi)
theorem es_fok:FunOk Tryz.prog 469:=⟨Tryz.f469,by kernel_rfl,rfl,by kernel_rfl⟩
theorem es_ok (T:TD):(esS T).Body Tryz.prog 469/\(esS T).BodyD Tryz.prog 469:=by
 refine genS_body (fn:=Tryz.f469) (b:=(bodyOf Tryz.f469)) (LT:=fun l=>[([0,1,0,1,1,1],(esD T l).at (0:Nat))]) ftOk (esU_ok T) 1000 (fun l ha=>LTok.cons (fun fr H K hk=>LoopD.ok (esD_b T l ha) hk) (LTok.nil)) (by kernel_rfl) (by kernel_rfl) ?_
 exact fun a ha=>Ho.of (zeR T a) (by kernel_rfl) (ze_r T a ha.2)
def wnR (T:TD) (p:By):Prop:=
 letI n1:=List UInt8;letI m1:=Int.ofNat 0;letI k1:=List.length p;letI h1:=domB T=domB T;letI g1:=k1-0;letI f1:=64<=64/\True;letI d1:=Int.ofNat k1;letI c1:=Value.int .i64 m1;letI a1:=List.take g1 p;letI z:=(True/\True/\True)/\True;letI y:=Value.int IntKind.i8 m1;letI w:=List.replicate k1 (0:UInt8);letI v:=IntKind.wrap .i64 (Int.ofNat (0+k1));letI u:=decide (d1<=m1);letI t:=decide (d1<=Int.ofNat 64);letI s:=List.length w;letI q:=c1=c1;letI n:=Int.toNat v;letI m:=n-0;letI k:=y=y;letI h:=List.take m p;letI g:=IntKind.wrap .i64 (m1+v);letI f:=Int.toNat g;letI e:=gd (decide (v=m1)) (∃(x:By),x=p/\h1/\True/\z/\False);letI c:=spliceB (List.replicate f (0:UInt8)) 0 (List.take f []);letI b:=List.length c;letI a:=br (decide (g<m1)) False (gd (decide (m1<g)&&decide (g<=Int.ofNat 140737488355328)) (∀(d:Nat),letI e1:=d*1<=d/\True;letI b1:=Nat.blt d 9223372036854775808;f<=d->d<9223372036854775808->gd (decide (m1<=v)&&decide (v<=Int.ofNat d)) (gd (decide (Int.ofNat n<=Int.ofNat d)) (br (Nat.ble (0+Nat.min k1 m) b) (∃(x:By),x=p/\h1/\True/\z/\gd (Nat.beq n (List.length x)) (gd b1 (q/\k/\(∃(r:n1),spliceB c 0 h=x++r)/\e1))) (gd (Nat.beq 0 b&&(Nat.ble (0+d) d&&true)) (∃(x:By),x=p/\h1/\True/\z/\gd (Nat.beq n (List.length x)) (gd b1 (q/\k/\(∃(r:n1),c++h=x++r)/\e1))))))));br u e (br u e (br t (gd (t&&true) (gd t (br (Nat.ble (0+Nat.min k1 g1) s) (∃(x:By),x=p/\h1/\True/\z/\gd (Nat.beq k1 (List.length x)) (q/\k/\(∃(r:n1),spliceB w 0 a1=x++r)/\f1)) (gd (Nat.beq 0 s&&true) (∃(x:By),x=p/\h1/\True/\z/\gd (Nat.beq k1 (List.length x)) (q/\k/\(∃(r:n1),w++a1=x++r)/\f1)))))) (br u e (br (decide (m1>IntKind.wrap .i64 (Int.ofNat 9223372036854775807-d1))) (gd (Syms.gn 6 0) False) (a/\a)))))
theorem wnU_ok (T:TD):TabOk Tryz.prog (wnU T):=by
 refine⟨fun f s h=>?_,fun f s h=>?_⟩
 ·cases h
 ·unfold wnU at h
  simp only at h
  split at h
  ·cases h;exact rec378
  ·cases h
theorem wn_r (T:TD) (p:By) (h:0<p.length/\p.length<=bufMax):wnR T p:=by
 unfold wnR
 obtain⟨h1,h3⟩:=h
 simp only[bufMax] at h3
 have e0:IntKind.wrap IntKind.i64 (Int.ofNat 0)=Int.ofNat 0:=by decide
 have e1:IntKind.wrap IntKind.i64 (Int.ofNat p.length)=Int.ofNat p.length:=wrapI (by simp only[Int.ofNat_eq_natCast];omega) (by simp only[Int.ofNat_eq_natCast];omega)
 have tn:∀n:Nat,Int.toNat (Int.ofNat n)=n:=fun n=>rfl
 have tk:List.take p.length p=p:=List.take_length
 have e2:IntKind.wrap IntKind.i64 (Int.ofNat 0+Int.ofNat p.length)=Int.ofNat p.length:=by rw[wrapI (by simp only[Int.ofNat_eq_natCast];omega) (by simp only[Int.ofNat_eq_natCast];omega)];simp only[Int.ofNat_eq_natCast];omega
 have e3:IntKind.wrap IntKind.i64 (Int.ofNat 9223372036854775807-Int.ofNat p.length)=Int.ofNat 9223372036854775807-Int.ofNat p.length:=wrapI (by simp only[Int.ofNat_eq_natCast];omega) (by simp only[Int.ofNat_eq_natCast];omega)
 try simp only[List.drop_zero,List.take_nil,Nat.add_zero,Nat.sub_zero,Nat.zero_add,tn,tk,e1,e2,e3]
 try simp only[List.drop_zero,Nat.add_zero,Nat.sub_zero,Nat.zero_add,tn,tk,sj1,leB_iff',and_true,true_and,forall_const,exists_eq_left,List.length_append,List.length_replicate,spliceB_length,Int.ofNat_eq_natCast,List.length_take,Bool.not_true,Bool.not_false,natMin]
 repeat' (first|done|omega|exact rfl|exact trivial|assumption|(exfalso;omega)|intro _|exact⟨[],(List.append_nil _).symm⟩|exact wnL (by omega)|exact wnL2 (by omega) (by omega)|exact wnL3 (Nat.le_refl _)|refine And.intro ?_ ?_)
theorem wn_fok:FunOk Tryz.prog 335:=⟨Tryz.f335,by kernel_rfl,rfl,by kernel_rfl⟩
theorem wn_ok (T:TD):(wnS T).Body Tryz.prog 335/\(wnS T).BodyD Tryz.prog 335:=by
 refine genS_body (fn:=Tryz.f335) (b:=(bodyOf Tryz.f335)) (LT:=fun _=>[]) ftOk (wnU_ok T) 1000 (fun a ha=>LTok.nil) (by kernel_rfl) (by kernel_rfl) ?_
 exact fun a ha=>Ho.of (wnR T a) (by kernel_rfl) (wn_r T a ha)
def xtR (T:TD) (i:Nat) (j:Nat):Prop:=
 letI s:=T.tx i j;letI q:=List UInt8;letI p:=Int.ofNat 0;letI n:=True/\True;letI h:=domB T=domB T;letI g:=True/\n;letI e:=Value.int .i64 p;letI f:=Value.int .i64 (Int.ofNat 1);letI d:=Value.int IntKind.i8 p;letI c:=e=e;letI a:=d=d;h/\True/\∀(x:Unit),True->h/\((∀(b:UInt8),b∈s->UInt8.toNat b≠60/\UInt8.toNat b≠62)/\List.length s<=70368744177664)/\s=s/\∀(x:q),letI m:=List.length x;x=s->gd (Nat.ble m 140737488355328) (h/\(WT x/\m<=70368744177664)/\0+m<=m/\List.take m x=x/\∀(x_1:q),letI k:=List.length x_1;x_1=x->h/\(0<k/\k<=70368744177664)/\x_1=x_1/\c/\a/\∀(x:q),x=x_1->∃(x_2:By),x_2=s/\h/\True/\(g/\(((((g/\n)/\n)/\n)/\n)/\True)/\True)/\f=f/\gd (Nat.beq (List.length x) (List.length x_2)) (c/\a/\(∃(r:q),x=x_2++r)/\True))
theorem xtU_ok (T:TD):TabOk Tryz.prog (xtU T):=by
 refine⟨fun f s h=>?_,fun f s h=>?_⟩
 ·unfold xtU at h
  simp only at h
  split at h
  ·cases h;exact genS_ok gt_fok (gt_ok T).1
  ·cases h;exact genS_ok ze_fok (ze_ok T).1
  ·cases h;exact genS_ok es_fok (es_ok T).1
  ·cases h;exact genS_ok wn_fok (wn_ok T).1
  ·cases h
 ·cases h
theorem xt_r (T:TD) (i j:Nat) (h:WT (T.tx i j)/\0<(T.tx i j).length/\(T.tx i j).length<=2147483647):xtR T i j:=by
 unfold xtR
 obtain⟨h1,h2,h3⟩:=h
 simp only[sj2,forall_eq,eq_self,implies_true,List.take_length,sj1,leB_iff',sj0]
 exact fun _ _=>⟨⟨fun b hb=>by have:=h1 b hb;unfold wc at this;omega,by omega⟩,by omega,⟨h1,by omega⟩,Nat.le_refl _,⟨h2,by omega⟩,[],by simp⟩
theorem xt_fok:FunOk Tryz.prog 73:=⟨Tryz.f73,by kernel_rfl,rfl,by kernel_rfl⟩
theorem xt_ok (T:TD):(xtS T).Body Tryz.prog 73/\(xtS T).BodyD Tryz.prog 73:=by
 refine genS_body (fn:=Tryz.f73) (b:=(bodyOf Tryz.f73)) (LT:=fun _=>[]) ftOk (xtU_ok T) 1000 (fun a ha=>LTok.nil) (by kernel_rfl) (by kernel_rfl) ?_
 exact fun a ha=>Ho.of (xtR T a.1 a.2) (by kernel_rfl) (xt_r T a.1 a.2 ha)
def xdRh (T:TD) (j:Nat):Prop:=
 letI t:=Int.ofNat 0;letI s:=True/\True;letI q:=domB (TD.wh T true);letI p:=True/\s;letI m:=Value.int .i64 t;letI n:=Value.int .i64 (Int.ofNat 1);letI k:=Value.int IntKind.i8 t;letI h:=q=q;letI f:=m=m;letI g:=n=n;letI e:=k=k;letI d:=TD.mk T.R T.2 true T.4 T.pad T.keep T.span T.promote T.pres T.10 T.11 T.12 T.13 T.oP T.oK T.oM;letI c:=d.tx 0 j;letI b:=List.length c;letI a:=p/\(((((p/\s)/\s)/\s)/\s)/\True)/\True;h/\True/\∀(x:Unit),True->br (TD.hasT d 0 j) (h/\(WT c/\0<b/\b<=2147483647)/\gd (Nat.beq j j&&true) (f/\e/\∀(x:List UInt8),x=c->∃(x_1:By),x_1=c/\h/\True/\a/\g/\gd (Nat.beq (List.length x) (List.length x_1)) (f/\e/\(∃(r:List UInt8),x=x_1++r)/\True))) (∃(x:By),x=c/\h/\True/\a/\g/\False)
def xdRf (T:TD) (j:Nat):Prop:=
 letI t:=Int.ofNat 0;letI s:=True/\True;letI q:=domB (TD.wh T false);letI p:=True/\s;letI m:=Value.int .i64 t;letI n:=Value.int .i64 (Int.ofNat 1);letI k:=Value.int IntKind.i8 t;letI h:=q=q;letI f:=m=m;letI g:=n=n;letI e:=k=k;letI d:=TD.mk T.R T.2 false T.4 T.pad T.keep T.span T.promote T.pres T.10 T.11 T.12 T.13 T.oP T.oK T.oM;letI c:=d.tx 0 j;letI b:=List.length c;letI a:=p/\(((((p/\s)/\s)/\s)/\s)/\True)/\True;h/\True/\∀(x:Unit),True->br (TD.hasT d 0 j) (h/\(WT c/\0<b/\b<=2147483647)/\gd (Nat.beq j j&&true) (f/\e/\∀(x:List UInt8),x=c->∃(x_1:By),x_1=c/\h/\True/\a/\g/\gd (Nat.beq (List.length x) (List.length x_1)) (f/\e/\(∃(r:List UInt8),x=x_1++r)/\True))) (∃(x:By),x=c/\h/\True/\a/\g/\False)
def xdRs (T:TD) (i:Nat) (j:Nat):Prop:=
 letI s:=i+1;letI q:=Int.ofNat 0;letI p:=True/\True;letI n:=T.tx s j;letI m:=domB T=domB T;letI k:=True/\p;letI f:=List.length n;letI g:=Value.int .i64 q;letI h:=Value.int .i64 (Int.ofNat 1);letI e:=Value.int IntKind.i8 q;letI c:=g=g;letI d:=h=h;letI b:=e=e;letI a:=k/\(((((k/\p)/\p)/\p)/\p)/\True)/\True;m/\True/\∀(x:Unit),True->br (TD.hasT T s j) (m/\(WT n/\0<f/\f<=2147483647)/\gd (Nat.beq s s&&Nat.beq j j&&true) (c/\b/\∀(x:List UInt8),x=n->∃(x_1:By),x_1=n/\m/\True/\a/\d/\gd (Nat.beq (List.length x) (List.length x_1)) (c/\b/\(∃(r:List UInt8),x=x_1++r)/\True))) (∃(x:By),x=n/\m/\True/\a/\d/\False)
theorem xdU_ok (T:TD):TabOk Tryz.prog (xdU T):=by
 refine⟨fun f s h=>?_,fun f s h=>?_⟩
 ·unfold xdU at h
  simp only at h
  split at h
  ·cases h;exact genS_ok gh_fok (gh_ok T).1
  ·cases h;exact genS_ok xt_fok (xt_ok T).1
  ·cases h
 ·cases h
theorem xd_rh (T:TD) (j:Nat) (h:T.hasT 0 j=true/\WT (T.tx 0 j)/\0<(T.tx 0 j).length/\(T.tx 0 j).length<=2147483647):xdRh T j:=by
 unfold xdRh
 obtain⟨h,h1,h2,h3⟩:=h
 simp only[TD.hasT,TD.wh] at h⊢
 simp only[sj2,h,eq_self,implies_true,Bool.true_eq_false,false_implies,true_implies,forall_eq,sj1,leB_iff',sj0]
 exact fun _=>⟨⟨h1,h2,h3⟩,[],by simp⟩
theorem xd_rf (T:TD) (j:Nat) (h:T.hasT 0 j=true/\WT (T.tx 0 j)/\0<(T.tx 0 j).length/\(T.tx 0 j).length<=2147483647):xdRf T j:=by
 unfold xdRf
 obtain⟨h,h1,h2,h3⟩:=h
 simp only[TD.hasT,TD.wh] at h⊢
 simp only[sj2,h,eq_self,implies_true,Bool.true_eq_false,false_implies,true_implies,forall_eq,sj1,leB_iff',sj0]
 exact fun _=>⟨⟨h1,h2,h3⟩,[],by simp⟩
theorem xd_rs (T:TD) (i j:Nat) (h:T.hasT (i+1) j=true/\WT (T.tx (i+1) j)/\0<(T.tx (i+1) j).length/\(T.tx (i+1) j).length<=2147483647):xdRs T i j:=by
 unfold xdRs
 obtain⟨h,h1,h2,h3⟩:=h
 simp only[TD.hasT,TD.wh] at h⊢
 simp only[sj2,h,eq_self,implies_true,Bool.true_eq_false,false_implies,true_implies,forall_eq,sj1,leB_iff',sj0]
 exact fun _=>⟨⟨h1,h2,h3⟩,[],by simp⟩
theorem xd_fok:FunOk Tryz.prog 51:=⟨Tryz.f51,by kernel_rfl,rfl,by kernel_rfl⟩
theorem xd_ok (T:TD):(xdS T).Body Tryz.prog 51/\(xdS T).BodyD Tryz.prog 51:=by
 refine genS_body (fn:=Tryz.f51) (b:=(bodyOf Tryz.f51)) (LT:=fun _=>[]) ftOk (xdU_ok T) 1000 (fun a ha=>LTok.nil) (by kernel_rfl) (by kernel_rfl) ?_
 intro a ha
 obtain⟨i,j⟩:=a
 cases i with
 |succ i=>exact Ho.of (xdRs T i j) (by kernel_rfl) (xd_rs T i j ha)
 |zero=>
  cases hh:T.hd with
  |true=>
   obtain⟨T',rfl⟩:∃T':TD,T=T'.wh true:=⟨T,by cases T;simp only[TD.wh] at hh⊢;rw[hh]⟩
   exact Ho.of (xdRh T' j) (by kernel_rfl) (xd_rh T' j ha)
  |false=>
   obtain⟨T',rfl⟩:∃T':TD,T=T'.wh false:=⟨T,by cases T;simp only[TD.wh] at hh⊢;rw[hh]⟩
   exact Ho.of (xdRf T' j) (by kernel_rfl) (xd_rf T' j ha)
def xeRh (T:TD) (j:Nat):Prop:=
 letI h:=Int.ofNat 0;letI g:=True/\True;letI f:=domB (TD.wh T true);letI e:=True/\g;letI c:=Value.int .i64 (Int.ofNat 1);letI d:=Value.int .i64 h;letI b:=Value.int IntKind.i8 h;letI a:=f=f;a/\True/\∀(x:Unit),True->br (TD.hasT (TD.mk T.R T.2 true T.4 T.pad T.keep T.span T.promote T.pres T.10 T.11 T.12 T.13 T.oP T.oK T.oM) 0 j) False (∃(x:Unit),True/\a/\True/\(e/\((((e/\g)/\g)/\g)/\g)/\True)/\c=c/\d=d/\b=b/\True)
def xeRf (T:TD) (j:Nat):Prop:=
 letI h:=Int.ofNat 0;letI g:=True/\True;letI f:=domB (TD.wh T false);letI e:=True/\g;letI c:=Value.int .i64 (Int.ofNat 1);letI d:=Value.int .i64 h;letI b:=Value.int IntKind.i8 h;letI a:=f=f;a/\True/\∀(x:Unit),True->br (TD.hasT (TD.mk T.R T.2 false T.4 T.pad T.keep T.span T.promote T.pres T.10 T.11 T.12 T.13 T.oP T.oK T.oM) 0 j) False (∃(x:Unit),True/\a/\True/\(e/\((((e/\g)/\g)/\g)/\g)/\True)/\c=c/\d=d/\b=b/\True)
def xeRs (T:TD) (i:Nat) (j:Nat):Prop:=
 letI g:=Int.ofNat 0;letI f:=True/\True;letI e:=domB T=domB T;letI d:=True/\f;letI b:=Value.int .i64 (Int.ofNat 1);letI c:=Value.int .i64 g;letI a:=Value.int IntKind.i8 g;e/\True/\∀(x:Unit),True->br (TD.hasT T (i+1) j) False (∃(x:Unit),True/\e/\True/\(d/\((((d/\f)/\f)/\f)/\f)/\True)/\b=b/\c=c/\a=a/\True)
theorem xeU_ok (T:TD):TabOk Tryz.prog (xeU T):=by
 refine⟨fun f s h=>?_,fun f s h=>?_⟩
 ·unfold xeU at h
  simp only at h
  split at h
  ·cases h;exact genS_ok gh_fok (gh_ok T).1
  ·cases h
 ·cases h
theorem xe_rh (T:TD) (j:Nat) (h:T.hasT 0 j=false):xeRh T j:=by
 unfold xeRh
 simp only[TD.hasT,TD.wh] at h⊢
 simp only[sj2,h,eq_self,implies_true,Bool.false_eq_true,false_implies,true_implies,sj1,leB_iff',sj0]
theorem xe_rf (T:TD) (j:Nat) (h:T.hasT 0 j=false):xeRf T j:=by
 unfold xeRf
 simp only[TD.hasT,TD.wh] at h⊢
 simp only[sj2,h,eq_self,implies_true,Bool.false_eq_true,false_implies,true_implies,sj1,leB_iff',sj0]
theorem xe_rs (T:TD) (i j:Nat) (h:T.hasT (i+1) j=false):xeRs T i j:=by
 unfold xeRs
 simp only[TD.hasT,TD.wh] at h⊢
 simp only[sj2,h,eq_self,implies_true,Bool.false_eq_true,false_implies,true_implies,sj1,leB_iff',sj0]
theorem xe_ok (T:TD):(xeS T).Body Tryz.prog 51/\(xeS T).BodyD Tryz.prog 51:=by
 refine genS_body (fn:=Tryz.f51) (b:=(bodyOf Tryz.f51)) (LT:=fun _=>[]) ftOk (xeU_ok T) 1000 (fun a ha=>LTok.nil) (by kernel_rfl) (by kernel_rfl) ?_
 intro a ha
 obtain⟨i,j⟩:=a
 cases i with
 |succ i=>exact Ho.of (xeRs T i j) (by kernel_rfl) (xe_rs T i j ha)
 |zero=>
  cases hh:T.hd with
  |true=>
   obtain⟨T',rfl⟩:∃T':TD,T=T'.wh true:=⟨T,by cases T;simp only[TD.wh] at hh⊢;rw[hh]⟩
   exact Ho.of (xeRh T' j) (by kernel_rfl) (xe_rh T' j ha)
  |false=>
   obtain⟨T',rfl⟩:∃T':TD,T=T'.wh false:=⟨T,by cases T;simp only[TD.wh] at hh⊢;rw[hh]⟩
   exact Ho.of (xeRf T' j) (by kernel_rfl) (xe_rf T' j ha)
def trIR (T:TD) (m:By) (k:Nat):Prop:=
 letI p:=Int.ofNat 1;letI q:=Int.ofNat 0;letI n:=List.length m;letI h:=domB T=domB T;letI f:=Int.ofNat k-p;letI g:=Int.ofNat n;letI e:=Int.toNat f;letI d:=IntKind.wrap .i64 (f+p);letI c:=UInt8.toNat (List.getD m e (0:UInt8));letI b:=Int.ofNat c;letI a:=decide (q<=d)&&decide (d<=g);br (decide (f≥q)) (gd (decide (q<=f)&&decide (f<g)) (gd (Nat.blt e n) (br (decide (b≥Int.ofNat 128)) (gd a False) (gd (decide (b<Int.ofNat 256)) (gd (Syms.gn 0 c) (br (Int.ofNat (UInt8.toNat (Syms.gf 0 c))==q) (gd a (∃(x:List UInt8),x=trim m/\h/\List.take (Int.toNat d) m=x/\True)) (∃(j':Nat),trJ m j'/\j'<k/\h/\m=m/\Value.int .i64 (IntKind.wrap .i64 (f-p))=Value.int .i64 (Int.ofNat j'-p)/\True))))))) (∃(x:Unit),False/\h/\True)
def trDR (T:TD) (l:By) (i:Nat):Prop:=
 letI m:=List.length l;letI n:=List.drop i l;letI k:=domB T=domB T;letI h:=Int.ofNat m;letI g:=List.length n;letI f:=UInt8.toNat (List.getD l i (0:UInt8));letI e:=Value.int .i64 h;letI d:=decide (Int.ofNat i<h);letI c:=Int.ofNat f;letI b:=Int.ofNat g-Int.ofNat 1;letI a:=decide (Int.ofNat i<=h)&&decide (h<=h);br d (gd d (gd (Nat.blt i m) (br (decide (c≥Int.ofNat 128)) (gd a False) (gd (decide (c<Int.ofNat 256)) (gd (Syms.gn 0 f) (br (Int.ofNat (UInt8.toNat (Syms.gf 0 f))!=Int.ofNat 0) (∃(j':Nat),trK l j'/\m-j'<m-i/\k/\l=l/\l=l/\e=e/\Value.int .i64 (IntKind.wrap .i64 (Int.ofNat (i+1)))=Value.int .i64 (Int.ofNat j')/\True) (gd a (trJ n g/\(k/\n=n/\Value.int .i64 (IntKind.wrap .i64 b)=Value.int .i64 b/\True)/\(∀(x:List UInt8),x=trim n->∃(x_1:List UInt8),x_1=trim l/\k/\x=x_1/\True)/\∀(x:Unit),False->False)))))))) (∃(x:Unit),trim l=[]/\k/\True)
def trR (T:TD) (l:By):Prop:=
 letI d:=trim l;letI c:=domB T=domB T;letI b:=Value.int .i64 (Int.ofNat 0);letI a:=Value.int .i64 (Int.ofNat (List.length l));trK l 0/\(c/\l=l/\l=l/\a=a/\b=b/\True)/\(∀(x:Unit),d=[]->∃(x:By),x=d/\c/\True/\True/\x=[]/\True)/\∀(x:List UInt8),x=d->∃(x_1:By),x_1=d/\c/\True/\True/\x=x_1/\True
theorem trU_ok (T:TD):TabOk Tryz.prog (trU T):=by
 refine⟨fun f s h=>?_,fun f s h=>?_⟩
 ·unfold trU at h
  simp only at h
  split at h
  ·cases h;exact noS_ok
  ·cases h
 ·cases h
theorem trI_r (T:TD) (m:By) (k:Nat) (hd:(∀b∈m,b.toNat<128)/\m.length<=bufMax/\T.Ok) (h:trJ m k):trIR T m k:=by
 unfold trIR
 obtain⟨h1,h2,h3⟩:=hd
 simp only[bufMax] at h2
 obtain⟨k,rfl⟩:∃n,k=n+1:=⟨k-1,by have:=trJ_pos h;omega⟩
 have hk:=h.1
 have e0:Int.ofNat (k+1)-Int.ofNat 1=Int.ofNat k:=by simp only[Int.ofNat_eq_natCast];omega
 have e1:IntKind.wrap IntKind.i64 (Int.ofNat k+Int.ofNat 1)=Int.ofNat (k+1):=by rw[wrapI (by simp only[Int.ofNat_eq_natCast];omega) (by simp only[Int.ofNat_eq_natCast];omega)];simp only[Int.ofNat_eq_natCast];omega
 have tn:∀n:Nat,Int.toNat (Int.ofNat n)=n:=fun n=>rfl
 have hb:(m.getD k 0).toNat<128:=h1 _ (getD_mem (by omega))
 have hg:=h3.g _ (show(m.getD k 0).toNat<256 by omega)
 simp only[e0,e1,tn]
 simp only[sj2,hg,intE,intF,sj1,leB_iff',sj0]
 exact⟨fun _=>⟨by omega,by omega,fun h=>by omega,fun _=>⟨by omega,fun e=>⟨by omega,trJ_end h (spB_f.2 e)⟩,fun e=>⟨k,trJ_s h (spB_t.2 e),by omega,congrArg _ (wrapI (by omega) (by omega))⟩⟩⟩,fun h=>absurd (Nat.zero_le _) h⟩
theorem trI_b (T:TD) (m:By) (hd:(∀b∈m,b.toNat<128)/\m.length<=bufMax/\T.Ok):(trI T m).Body Tryz.prog (sub (bodyOf Tryz.f151) [0,0,1,1,1,1,1,0,0,1,1,0,0,1,0,1]):=by
 refine LoopD.bodyH (root:=(bodyOf Tryz.f151)) [0,0,1,1,1,1,1,0,0,1,1,0,0,1,0,1] ftOk (trU_ok T) (LTok.nil) 1000 ?_
 exact fun i hi=>Ho.of (trIR T m i) (by kernel_rfl) (trI_r T m i hd hi)
theorem trD_r (T:TD) (l:By) (i:Nat) (hd:(∀b∈l,b.toNat<128)/\l.length<=bufMax/\T.Ok) (h:trK l i):trDR T l i:=by
 unfold trDR
 obtain⟨h1,h2,h3⟩:=hd
 simp only[bufMax] at h2
 have hI:=h.1
 have e1:i<l.length->IntKind.wrap IntKind.i64 (Int.ofNat (i+1))=Int.ofNat (i+1):=fun h=>by rw[wrapI (by simp only[Int.ofNat_eq_natCast];omega) (by simp only[Int.ofNat_eq_natCast];omega)]
 have e2:i<l.length->IntKind.wrap IntKind.i64 (Int.ofNat (l.drop i).length-Int.ofNat 1)=Int.ofNat (l.drop i).length-Int.ofNat 1:=fun h=>by rw[List.length_drop,wrapI (by simp only[Int.ofNat_eq_natCast];omega) (by simp only[Int.ofNat_eq_natCast];omega)]
 have hb:i<l.length->(l.getD i 0).toNat<128:=fun h=>h1 _ (getD_mem h)
 have hg:=fun h:i<l.length=>h3.g _ (show(l.getD i 0).toNat<256 by have:=hb h;omega)
 simp only[sj2,intN,intM,sj1,leB_iff',sj0]
 exact⟨fun g=>⟨g,g,fun e=>by have:=hb g;omega,fun _=>⟨by have:=hb g;omega,hg g,fun e=>⟨i+1,trK_s h g (spB_t.2 e),by omega,congrArg _ (e1 g)⟩,fun e=>⟨by omega,trK_J h g (spB_f.2 e),congrArg _ (e2 g),fun x hx=>by rw[hx,trK_t h g (spB_f.2 e)],fun _ h=>h.elim⟩⟩⟩,fun g=>trK_end h (by omega)⟩
theorem trD_b (T:TD) (l:By) (hd:(∀b∈l,b.toNat<128)/\l.length<=bufMax/\T.Ok):(trD T l).Body Tryz.prog (sub (bodyOf Tryz.f151) [0,0,1,0,1]):=by
 refine LoopD.bodyHj (root:=(bodyOf Tryz.f151)) (LT:=fun i=>[([0,1,1,1,1,1,0,0,1,1,0,0,1,0,1],(trI T (l.drop i)).at (List.length (l.drop i)))]) [0,0,1,0,1] ftOk (trU_ok T) (fun i hi=>LTok.cons (fun fr H K hk=>LoopD.ok (trI_b T (l.drop i) ⟨fun b hb=>hd.1 b (List.mem_of_mem_drop hb),lenDrop hd.2.1,hd.2.2⟩) hk) (LTok.nil)) 1000 ?_
 exact fun i hi=>Ho.of (trDR T l i) (by kernel_rfl) (trD_r T l i hd hi)
theorem tr_r (T:TD) (l:By):trR T l:=by
 unfold trR
 try simp only[br_iff,gd_iff,Bool.and_eq_true,sj5,leB_iff,leB_iff',sj3,sj7]
 repeat' (first|done|omega|exact rfl|exact trivial|assumption|exact trK_0|exact()|intro _|refine⟨?_,?_⟩)
theorem tr_fok:FunOk Tryz.prog 151:=⟨Tryz.f151,by kernel_rfl,rfl,by kernel_rfl⟩
theorem tr_ok (T:TD):(trS T).Body Tryz.prog 151/\(trS T).BodyD Tryz.prog 151:=by
 refine genS_body (fn:=Tryz.f151) (b:=(bodyOf Tryz.f151)) (LT:=fun l=>[([0,1,0,1],(trD T l).at (0:Nat))]) ftOk (trU_ok T) 1000 (fun l ha=>LTok.cons (fun fr H K hk=>LoopD.ok (trD_b T l ha) hk) (LTok.nil)) (by kernel_rfl) (by kernel_rfl) ?_
 exact fun a ha=>Ho.of (trR T a) (by kernel_rfl) (tr_r T a)
end Tk
