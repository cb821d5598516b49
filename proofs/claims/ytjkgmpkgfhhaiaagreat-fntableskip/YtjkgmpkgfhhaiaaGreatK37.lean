/- Lemmas of this claim; the last text says what is proved. -/
import Derived.Test.YtjkgmpkgfhhaiaaGreatK22
import Derived.Test.YtjkgmpkgfhhaiaaGreatK36
import Derived.Test.YtjkgmpkgfhhaiaaGreatK24
import Derived.Test.YtjkgmpkgfhhaiaaGreatK31
import Derived.Test.YtjkgmpkgfhhaiaaGreatK23
set_option linter.all false
set_option maxRecDepth 1000000
namespace Tk
open Go Go.Sx Go.Proofs
open Q
variable [Syms]
def ydRh (T:TD) (l:By) (j:Nat):Prop:=
 letI v:=List UInt8;letI u:=Int.ofNat 0;letI s:=List.length l;letI t:=True/\True;letI q:=domB (TD.wh T true);letI p:=True/\t;letI m:=Value.int .i64 u;letI n:=Value.int .i64 (Int.ofNat 1);letI k:=Value.int IntKind.i8 u;letI h:=q=q;letI f:=m=m;letI g:=n=n;letI e:=k=k;letI d:=TD.mk T.R T.2 true T.4 T.pad T.keep T.span T.promote T.pres T.10 T.11 T.12 T.13 T.oP T.oK T.oM;letI c:=d.tx 0 j;letI b:=l++c;letI a:=p/\(((((p/\t)/\t)/\t)/\t)/\True)/\True;h/\True/\∀(x:Unit),True->br (TD.hasT d 0 j) (h/\((WT c/\List.length c<=2147483647)/\fits 2147483647 l)/\gd (Nat.beq j j&&true) (gd (Nat.beq s s) (f/\e/\(∃(r:v),l=l++r)/\∀(x:v),x=b->∃(x_1:By),x_1=b/\h/\True/\a/\g/\gd (Nat.beq (List.length x) (List.length x_1)) (f/\e/\(∃(r:v),x=x_1++r)/\True)))) (∃(x:By),x=b/\h/\True/\a/\g/\gd (Nat.beq s (List.length x)) (f/\e/\(∃(r:v),l=x++r)/\True))
def ydRf (T:TD) (l:By) (j:Nat):Prop:=
 letI v:=List UInt8;letI u:=Int.ofNat 0;letI s:=List.length l;letI t:=True/\True;letI q:=domB (TD.wh T false);letI p:=True/\t;letI m:=Value.int .i64 u;letI n:=Value.int .i64 (Int.ofNat 1);letI k:=Value.int IntKind.i8 u;letI h:=q=q;letI f:=m=m;letI g:=n=n;letI e:=k=k;letI d:=TD.mk T.R T.2 false T.4 T.pad T.keep T.span T.promote T.pres T.10 T.11 T.12 T.13 T.oP T.oK T.oM;letI c:=d.tx 0 j;letI b:=l++c;letI a:=p/\(((((p/\t)/\t)/\t)/\t)/\True)/\True;h/\True/\∀(x:Unit),True->br (TD.hasT d 0 j) (h/\((WT c/\List.length c<=2147483647)/\fits 2147483647 l)/\gd (Nat.beq j j&&true) (gd (Nat.beq s s) (f/\e/\(∃(r:v),l=l++r)/\∀(x:v),x=b->∃(x_1:By),x_1=b/\h/\True/\a/\g/\gd (Nat.beq (List.length x) (List.length x_1)) (f/\e/\(∃(r:v),x=x_1++r)/\True)))) (∃(x:By),x=b/\h/\True/\a/\g/\gd (Nat.beq s (List.length x)) (f/\e/\(∃(r:v),l=x++r)/\True))
def ydRs (T:TD) (l:By) (i:Nat) (j:Nat):Prop:=
 letI u:=i+1;letI t:=List UInt8;letI s:=Int.ofNat 0;letI p:=List.length l;letI q:=True/\True;letI n:=T.tx u j;letI m:=domB T=domB T;letI k:=l++n;letI h:=True/\q;letI f:=Value.int .i64 s;letI g:=Value.int .i64 (Int.ofNat 1);letI e:=Value.int IntKind.i8 s;letI c:=f=f;letI d:=g=g;letI b:=e=e;letI a:=h/\(((((h/\q)/\q)/\q)/\q)/\True)/\True;m/\True/\∀(x:Unit),True->br (TD.hasT T u j) (m/\((WT n/\List.length n<=2147483647)/\fits 2147483647 l)/\gd (Nat.beq u u&&Nat.beq j j&&true) (gd (Nat.beq p p) (c/\b/\(∃(r:t),l=l++r)/\∀(x:t),x=k->∃(x_1:By),x_1=k/\m/\True/\a/\d/\gd (Nat.beq (List.length x) (List.length x_1)) (c/\b/\(∃(r:t),x=x_1++r)/\True)))) (∃(x:By),x=k/\m/\True/\a/\d/\gd (Nat.beq p (List.length x)) (c/\b/\(∃(r:t),l=x++r)/\True))
theorem ydU_ok (T:TD):TabOk Tryz.prog (ydU T):=by
 refine⟨fun f s h=>?_,fun f s h=>?_⟩
 ·unfold ydU at h
  simp only at h
  split at h
  ·cases h;exact genS_ok gh_fok (gh_ok T).1
  ·cases h;exact genS_ok xt_fok (yt_ok T).1
  ·cases h
 ·cases h
theorem yd_rh (T:TD) (l:By) (j:Nat) (h:T.hasT 0 j=true/\(WT (T.tx 0 j)/\(T.tx 0 j).length<=2147483647)/\fits 2147483647 l):ydRh T l j:=by
 unfold ydRh
 obtain⟨h,h1,h2⟩:=h
 simp only[TD.hasT,TD.wh] at h⊢
 simp only[sj2,h,eq_self,implies_true,Bool.true_eq_false,false_implies,true_implies,forall_eq,sj1,leB_iff',sj0]
 exact fun _=>⟨⟨h1,h2⟩,⟨[],by simp⟩,[],by simp⟩
theorem yd_rf (T:TD) (l:By) (j:Nat) (h:T.hasT 0 j=true/\(WT (T.tx 0 j)/\(T.tx 0 j).length<=2147483647)/\fits 2147483647 l):ydRf T l j:=by
 unfold ydRf
 obtain⟨h,h1,h2⟩:=h
 simp only[TD.hasT,TD.wh] at h⊢
 simp only[sj2,h,eq_self,implies_true,Bool.true_eq_false,false_implies,true_implies,forall_eq,sj1,leB_iff',sj0]
 exact fun _=>⟨⟨h1,h2⟩,⟨[],by simp⟩,[],by simp⟩
theorem yd_rs (T:TD) (l:By) (i j:Nat) (h:T.hasT (i+1) j=true/\(WT (T.tx (i+1) j)/\(T.tx (i+1) j).length<=2147483647)/\fits 2147483647 l):ydRs T l i j:=by
 unfold ydRs
 obtain⟨h,h1,h2⟩:=h
 simp only[TD.hasT,TD.wh] at h⊢
 simp only[sj2,h,eq_self,implies_true,Bool.true_eq_false,false_implies,true_implies,forall_eq,sj1,leB_iff',sj0]
 exact fun _=>⟨⟨h1,h2⟩,⟨[],by simp⟩,[],by simp⟩
theorem yd_ok (T:TD):(ydS T).Body Tryz.prog 51/\(ydS T).BodyD Tryz.prog 51:=by
 refine genS_body (fn:=Tryz.f51) (b:=(bodyOf Tryz.f51)) (LT:=fun _=>[]) ftOk (ydU_ok T) 1000 (fun a ha=>LTok.nil) (by kernel_rfl) (by kernel_rfl) ?_
 intro a ha
 obtain⟨l,i,j⟩:=a
 cases i with
 |succ i=>exact Ho.of (ydRs T l i j) (by kernel_rfl) (yd_rs T l i j ha)
 |zero=>
  cases hh:T.hd with
  |true=>
   obtain⟨T',rfl⟩:∃T':TD,T=T'.wh true:=⟨T,by cases T;simp only[TD.wh] at hh⊢;rw[hh]⟩
   exact Ho.of (ydRh T' l j) (by kernel_rfl) (yd_rh T' l j ha)
  |false=>
   obtain⟨T',rfl⟩:∃T':TD,T=T'.wh false:=⟨T,by cases T;simp only[TD.wh] at hh⊢;rw[hh]⟩
   exact Ho.of (ydRf T' l j) (by kernel_rfl) (yd_rf T' l j ha)
def yeRh (T:TD) (l:By) (j:Nat):Prop:=
 letI h:=Int.ofNat 0;letI g:=True/\True;letI f:=domB (TD.wh T true);letI e:=True/\g;letI c:=Value.int .i64 (Int.ofNat 1);letI d:=Value.int .i64 h;letI b:=Value.int IntKind.i8 h;letI a:=f=f;a/\True/\∀(x:Unit),True->br (TD.hasT (TD.mk T.R T.2 true T.4 T.pad T.keep T.span T.promote T.pres T.10 T.11 T.12 T.13 T.oP T.oK T.oM) 0 j) False (∃(x:By),x=l/\a/\True/\(e/\(((((e/\g)/\g)/\g)/\g)/\True)/\True)/\c=c/\gd (Nat.beq (List.length l) (List.length x)) (d=d/\b=b/\(∃(r:List UInt8),l=x++r)/\True))
def yeRf (T:TD) (l:By) (j:Nat):Prop:=
 letI h:=Int.ofNat 0;letI g:=True/\True;letI f:=domB (TD.wh T false);letI e:=True/\g;letI c:=Value.int .i64 (Int.ofNat 1);letI d:=Value.int .i64 h;letI b:=Value.int IntKind.i8 h;letI a:=f=f;a/\True/\∀(x:Unit),True->br (TD.hasT (TD.mk T.R T.2 false T.4 T.pad T.keep T.span T.promote T.pres T.10 T.11 T.12 T.13 T.oP T.oK T.oM) 0 j) False (∃(x:By),x=l/\a/\True/\(e/\(((((e/\g)/\g)/\g)/\g)/\True)/\True)/\c=c/\gd (Nat.beq (List.length l) (List.length x)) (d=d/\b=b/\(∃(r:List UInt8),l=x++r)/\True))
def yeRs (T:TD) (l:By) (i:Nat) (j:Nat):Prop:=
 letI g:=Int.ofNat 0;letI f:=True/\True;letI e:=domB T=domB T;letI d:=True/\f;letI b:=Value.int .i64 (Int.ofNat 1);letI c:=Value.int .i64 g;letI a:=Value.int IntKind.i8 g;e/\True/\∀(x:Unit),True->br (TD.hasT T (i+1) j) False (∃(x:By),x=l/\e/\True/\(d/\(((((d/\f)/\f)/\f)/\f)/\True)/\True)/\b=b/\gd (Nat.beq (List.length l) (List.length x)) (c=c/\a=a/\(∃(r:List UInt8),l=x++r)/\True))
theorem ye_rh (T:TD) (l:By) (j:Nat) (h:T.hasT 0 j=false/\fits 0 l):yeRh T l j:=by
 unfold yeRh
 obtain⟨h,h1⟩:=h
 simp only[TD.hasT,TD.wh] at h⊢
 simp only[sj2,h,eq_self,implies_true,Bool.false_eq_true,false_implies,true_implies,sj1,leB_iff',sj0]
 exact fun _=>⟨[],by simp⟩
theorem ye_rf (T:TD) (l:By) (j:Nat) (h:T.hasT 0 j=false/\fits 0 l):yeRf T l j:=by
 unfold yeRf
 obtain⟨h,h1⟩:=h
 simp only[TD.hasT,TD.wh] at h⊢
 simp only[sj2,h,eq_self,implies_true,Bool.false_eq_true,false_implies,true_implies,sj1,leB_iff',sj0]
 exact fun _=>⟨[],by simp⟩
theorem ye_rs (T:TD) (l:By) (i j:Nat) (h:T.hasT (i+1) j=false/\fits 0 l):yeRs T l i j:=by
 unfold yeRs
 obtain⟨h,h1⟩:=h
 simp only[TD.hasT,TD.wh] at h⊢
 simp only[sj2,h,eq_self,implies_true,Bool.false_eq_true,false_implies,true_implies,sj1,leB_iff',sj0]
 exact fun _=>⟨[],by simp⟩
theorem ye_ok (T:TD):(yeS T).Body Tryz.prog 51/\(yeS T).BodyD Tryz.prog 51:=by
 refine genS_body (fn:=Tryz.f51) (b:=(bodyOf Tryz.f51)) (LT:=fun _=>[]) ftOk (xeU_ok T) 1000 (fun a ha=>LTok.nil) (by kernel_rfl) (by kernel_rfl) ?_
 intro a ha
 obtain⟨l,i,j⟩:=a
 cases i with
 |succ i=>exact Ho.of (yeRs T l i j) (by kernel_rfl) (ye_rs T l i j ha)
 |zero=>
  cases hh:T.hd with
  |true=>
   obtain⟨T',rfl⟩:∃T':TD,T=T'.wh true:=⟨T,by cases T;simp only[TD.wh] at hh⊢;rw[hh]⟩
   exact Ho.of (yeRh T' l j) (by kernel_rfl) (ye_rh T' l j ha)
  |false=>
   obtain⟨T',rfl⟩:∃T':TD,T=T'.wh false:=⟨T,by cases T;simp only[TD.wh] at hh⊢;rw[hh]⟩
   exact Ho.of (yeRf T' l j) (by kernel_rfl) (ye_rf T' l j ha)
def ymDR (T:TD) (l:By) (i:Nat) (k:Nat):Prop:=
 letI g1:=T.C i;letI f1:=T.tx i k;letI e1:=List UInt8;letI d1:=TD.hasT T i k;letI b1:=domB T=domB T;letI c1:=l++catT T i k;letI y:=Int.ofNat g1;letI w:=l++catT T i g1;letI v:=(c1,i,k).fst;letI u:=Value.int .i64 (Int.ofNat 0);letI t:=List.length c1;letI n:=Nat.beq i i&&Nat.beq k k&&true;letI p:=Value.int IntKind.i8 (Int.ofNat 0);letI s:=Value.int .i64 y;letI m:=decide (Int.ofNat k<y);letI h:=fun(q:Nat)=>AVal.sp (SId.mk 5 i q) 0;letI g:=Value.int .i64 (IntKind.wrap .i64 (Int.ofNat (k+1)));letI f:=u=u;letI d:=p=p;letI e:=s=s;letI c:=∃(r:e1),c1=v++r;letI b:=Nat.beq t (List.length v);letI a:=SubF h h g1 [];br m (gd m (gd (Nat.blt k g1) (br d1 (b1/\(d1=true/\(WT f1/\List.length f1<=2147483647)/\fits 2147483647 v)/\gd n (gd b (f/\d/\c/\∀(x:e1),x=v++f1->∃(j':Nat),letI z:=l++catT T i j';Nat.le j' g1/\g1-j'<g1-k/\b1/\g1=g1/\a/\e/\g=Value.int .i64 (Int.ofNat j')/\gd (Nat.beq (List.length x) (List.length z)) (f/\d/\(∃(r:e1),x=z++r)/\True)))) (b1/\(d1=false/\fits 0 v)/\gd n (gd b (f/\d/\c/\∀(x:e1),x=v->∃(j':Nat),letI a1:=l++catT T i j';Nat.le j' g1/\g1-j'<g1-k/\b1/\g1=g1/\a/\e/\g=Value.int .i64 (Int.ofNat j')/\gd (Nat.beq (List.length x) (List.length a1)) (f/\d/\(∃(r:e1),x=a1++r)/\True))))))) (∃(x:Unit),True/\b1/\gd (Nat.beq t (List.length w)) (f/\d/\(∃(r:e1),c1=w++r)/\True))
def ymR (T:TD) (l:By) (i:Nat):Prop:=
 letI s:=T.C i;letI p:=Int.ofNat 0;letI n:=True/\True;letI k:=domB T=domB T;letI m:=l++catT T i 0;letI h:=l++catT T i s;letI g:=True/\n;letI f:=Value.int .i64 p;letI d:=Value.int .i64 (Int.ofNat s);letI e:=Value.int IntKind.i8 p;letI c:=fun(q:Nat)=>AVal.sp (SId.mk 5 i q) 0;letI b:=f=f;letI a:=e=e;Nat.le 0 s/\(k/\s=s/\SubF c c s []/\d=d/\b/\gd (Nat.beq (List.length l) (List.length m)) (b/\a/\(∃(r:List UInt8),l=m++r)/\True))/\∀(x:Unit),True->∃(x:By),x=h/\k/\True/\(g/\(((((g/\n)/\n)/\n)/\n)/\True)/\True)/\gd (Nat.beq (List.length h) (List.length x)) (b/\a/\(∃(r:List UInt8),h=x++r)/\True)
theorem ymU_ok (T:TD):TabOk Tryz.prog (ymU T):=by
 refine⟨fun f s h=>?_,fun f s h=>?_⟩
 ·unfold ymU at h
  simp only at h
  split at h
  ·cases h;exact iteS_ok (genS_ok xd_fok (yd_ok T).1) (genS_ok xd_fok (ye_ok T).1)
  ·cases h
 ·cases h
theorem ymD_r (T:TD) (l:By) (i:Nat) (k:Nat) (hd:(i<T.R/\T.Ok)/\fits 25769803768 l) (h:k<=T.C i):ymDR T l i k:=by
 unfold ymDR
 obtain⟨⟨h1,ok⟩,hf⟩:=hd
 have c2:=ok.c2 i
 have cl:=catT_len ok i k
 simp only[fits,bufMax] at hf
 have ff:k<T.C i->fits 2147483647 (l++catT T i k):=fun g=>by
  have:k*2147483647<=11*2147483647:=Nat.mul_le_mul_right _ (by omega)
  simp only[fits,bufMax,List.length_append];omega
 have f0:k<T.C i->fits 0 (l++catT T i k):=fun g=>by
  have:=ff g
  simp only[fits,bufMax] at this⊢;omega
 have e1:k<T.C i->IntKind.wrap IntKind.i64 ((k+1:Nat):Int)=((k+1:Nat):Int):=fun g=>wrapI (by omega) (by omega)
 have cE:catT T i (k+1)=catT T i k++T.tx i k:=rfl
 have em:T.hasT i k=false->T.tx i k=[]:=fun h=>by
  cases e:T.tx i k with
  |nil=>rfl
  |cons a b=>simp[TD.hasT,e,nilB] at h
 have w:=wt_words (ok.w i k)
 have hl:=ok.l i k
 simp only[sj2,eq_self,implies_true,forall_eq,intE,intF,Nat.le_eq,sj1,leB_iff',sj0]
 exact⟨fun g=>⟨g,g,fun ht=>⟨⟨ht,⟨w,hl⟩,ff g⟩,⟨[],by simp⟩,k+1,by omega,by omega,fun _ _ _=>pinA,congrArg _ (e1 g),by rw[cE,List.length_append];omega,[],by rw[cE];simp⟩,fun ht=>⟨⟨ht,f0 g⟩,⟨[],by simp⟩,k+1,by omega,by omega,fun _ _ _=>pinA,congrArg _ (e1 g),by rw[cE,em ht,List.append_nil],[],by rw[cE,em ht];simp⟩⟩,fun g=>by
  have e:k=T.C i:=by omega
  rw[e];exact⟨rfl,[],by simp⟩⟩
theorem ymD_b (T:TD) (l:By) (i:Nat) (hd:(i<T.R/\T.Ok)/\fits 25769803768 l):(ymD T l i).Body Tryz.prog (sub (bodyOf Tryz.f471) [0,0,1]):=by
 refine LoopD.bodyH (root:=(bodyOf Tryz.f471)) [0,0,1] ftOk (ymU_ok T) (LTok.nil) 1000 ?_
 exact fun k hk=>Ho.of (ymDR T l i k) (by kernel_rfl) (ymD_r T l i k hd hk)
theorem ym_r (T:TD) (l:By) (i:Nat) (hd:(i<T.R/\T.Ok)/\fits 25769803768 l):ymR T l i:=by
 unfold ymR
 try simp only[List.append_assoc]
 simp only[sj2,eq_self,implies_true,forall_eq,intE,intF,Nat.le_eq,sj1,leB_iff',sj0]
 exact⟨by omega,⟨fun _ _ _=>pinA,by simp[catT],[],by simp[catT]⟩,fun _ _=>⟨[],by simp⟩⟩
theorem ym_fok:FunOk Tryz.prog 471:=⟨Tryz.f471,by kernel_rfl,rfl,by kernel_rfl⟩
theorem ym_ok (T:TD):(ymS T).Body Tryz.prog 471/\(ymS T).BodyD Tryz.prog 471:=by
 refine genS_body (fn:=Tryz.f471) (b:=(bodyOf Tryz.f471)) (LT:=fun a=>[([0,1],(ymD T a.1 a.2).at (0:Nat))]) ftOk (ymU_ok T) 1000 (fun a ha=>LTok.cons (fun fr H K hk=>LoopD.ok (ymD_b T a.1 a.2 ha) hk) (LTok.nil)) (by kernel_rfl) (by kernel_rfl) ?_
 exact fun a ha=>Ho.of (ymR T a.1 a.2) (by kernel_rfl) (ym_r T a.1 a.2 ha)
def acDR (T:TD) (i:Nat):Prop:=
 letI e:=T.C i;letI d:=e+1;letI c:=domB T=domB T;letI b:=gd (Nat.beq i i&&true&&true) True;letI a:=∃(j':Unit),True/\d<d/\c/\False;br (Nat.blt (0+1) e) (a\/∃(j':Nat),(0<j'/\j'<=e)/\e-j'<d/\c/\gd (Nat.beq 1 j') (br (Nat.blt j' e) (gd (Nat.beq i i&&Nat.beq 1 j'&&true) (j'=1/\b)) False)) (a\/∃(j':Nat),(0<j'/\j'<=e)/\e-j'<d/\c/\gd (Nat.beq 1 j') (br (Nat.blt j' e) False (j'=1/\b)))
def acDQ (T:TD) (i:Nat) (k:Nat):Prop:=
 letI h:=T.C i;letI m:=k+1;letI g:=h-k;letI f:=domB T=domB T;letI d:=fun(q:Nat)=>AVal.sp (SId.mk 5 i q) 0;letI c:=∃(j':Unit),True/\h+1<g/\f/\False;letI b:=SubF d d k [];letI a:=b/\gd (Nat.beq i i&&Nat.beq k k&&true) True;br (Nat.blt k h) (gd (Nat.beq k k&&(Nat.ble (0+k+1+k+1+k+1+k+1+k+1+k+1+k+1+k+1) 140737488355328&&(Nat.ble m 140737488355328&&true))) (br (Nat.blt m h) (c\/∃(j':Nat),letI e:=Nat.beq m j';(0<j'/\j'<=h)/\h-j'<g/\f/\gd e (br (Nat.blt j' h) (gd (Nat.beq i i&&e&&true) (j'=m/\a)) False)) (c\/∃(j':Nat),(0<j'/\j'<=h)/\h-j'<g/\f/\gd (Nat.beq m j') (br (Nat.blt j' h) False (j'=m/\a))))) ((∃(x:Unit),True/\f/\k=h/\k=k/\b/\True)\/False)
def acR (T:TD) (i:Nat):Prop:=
 letI b:=domB T=domB T;True/\(b/\gd (Nat.beq i i&&true&&true) True)/\∀(x:Unit),True->∃(x:Nat),x=i/\b/\(∀(i:Nat),letI a:=AVal.sp (SId.mk 5 x i) 0;i<T.C x->SubA 0 a a)/\True/\T.C i=T.C x/\SubF (fun(q:Nat)=>AVal.sp (SId.mk 5 i q) 0) (fun(q:Nat)=>AVal.sp (SId.mk 5 x q) 0) (T.C i) []/\True
theorem acD_r (T:TD) (i:Nat) (hd:0<T.C i/\T.C i<=12):acDR T i:=by
 unfold acDR
 simp only[sj2,sj12,exists_eq_right,Nat.add_right_cancel_iff,Nat.lt_irrefl,Bool.and_eq_false_iff,Bool.true_eq_false,or_self,sj1,leB_iff',sj0]
 have sf:∀n us,SubF (fun q=>AVal.sp {k:=5,i:=i,j:=q} 0) (fun q=>AVal.sp {k:=5,i:=i,j:=q} 0) n us:=fun n _ _ _ _=>pinA
 repeat' (first|exact sf _ _|omega|exact trivial|exact rfl|exact pinA|refine⟨1,?_⟩|intro _|refine And.intro ?_ ?_)
theorem acD_q (T:TD) (i:Nat) (k:Nat) (hd:0<T.C i/\T.C i<=12) (h:0<k/\k<=T.C i):acDQ T i k:=by
 unfold acDQ
 obtain⟨h1,h2⟩:=h
 simp only[sj2,sj12,exists_eq_right,Nat.add_right_cancel_iff,Nat.lt_irrefl,Bool.and_eq_false_iff,Bool.true_eq_false,or_self,sj1,leB_iff',sj0]
 have sf:∀n us,SubF (fun q=>AVal.sp {k:=5,i:=i,j:=q} 0) (fun q=>AVal.sp {k:=5,i:=i,j:=q} 0) n us:=fun n _ _ _ _=>pinA
 repeat' (first|exact sf _ _|omega|exact trivial|exact rfl|exact pinA|refine⟨k+1,?_⟩|intro _|refine And.intro ?_ ?_)
theorem acD_b (T:TD) (i:Nat) (hd:0<T.C i/\T.C i<=12):(acD T i).Body2 (acDE T i) Tryz.prog (sub (bodyOf Tryz.f264) [0,0,1,0,1]):=by
 refine LoopD.bodyH2 (root:=(bodyOf Tryz.f264)) [0,0,1,0,1] ftOk (nofOk) (LTok.nil) 1000 ?_ ?_
 ·exact fun j hj=>Ho.of (acDR T i) (by kernel_rfl) (acD_r T i hd)
 ·exact fun j hj=>Ho.of (acDQ T i j) (by kernel_rfl) (acD_q T i j hd hj)
theorem ac_r (T:TD) (i:Nat) (hd:0<T.C i/\T.C i<=12):acR T i:=by
 unfold acR
 simp only[sj2,sj12,exists_eq_right,Nat.add_right_cancel_iff,Nat.lt_irrefl,Bool.and_eq_false_iff,Bool.true_eq_false,or_self,sj1,leB_iff',sj0]
 have sf:∀n us,SubF (fun q=>AVal.sp {k:=5,i:=i,j:=q} 0) (fun q=>AVal.sp {k:=5,i:=i,j:=q} 0) n us:=fun n _ _ _ _=>pinA
 repeat' (first|exact sf _ _|omega|exact trivial|exact rfl|exact pinA|refine⟨0,?_⟩|intro _|refine And.intro ?_ ?_)
theorem ac_fok:FunOk Tryz.prog 264:=⟨Tryz.f264,by kernel_rfl,rfl,by kernel_rfl⟩
theorem ac_ok (T:TD):(acS T).Body Tryz.prog 264/\(acS T).BodyD Tryz.prog 264:=by
 refine genS_body (fn:=Tryz.f264) (b:=(bodyOf Tryz.f264)) (LT:=fun i=>[([0,1,0,1],(acD T i).at ())]) ftOk (nofOk) 1000 (fun i ha=>LTok.cons (fun fr H K hk=>LoopD.ok2 (acD_b T i ha) hk) (LTok.nil)) (by kernel_rfl) (by kernel_rfl) ?_
 exact fun a ha=>Ho.of (acR T a) (by kernel_rfl) (ac_r T a ha)
def yrR (T:TD) (l:By) (i:Nat):Prop:=
 letI v:=List UInt8;letI u:=Int.ofNat 0;letI p:=List.length l;letI t:=True/\True;letI m:=domB T=domB T;letI k:=[(10:UInt8),10];letI h:=True/\t;letI f:=Value.int .i64 u;letI g:=Value.int .i64 (Int.ofNat 1);letI e:=Value.int IntKind.i8 u;letI d:=k=k;letI b:=f=f;letI a:=e=e;m/\True/\∀(x:Unit),True->m/\Nat.le (p+1+1) 70368744177664/\d/\gd (Nat.beq p p) (b/\a/\(∃(r:v),l=l++r)/\∀(x:v),letI s:=List.length x;x=l++k->m/\(0<T.C i/\T.C i<=12)/\gd (Nat.beq i i&&true&&true) (∀(x_1:Nat),letI w:=T.C x_1;letI c:=fun(q:Nat)=>AVal.sp (SId.mk 5 x_1 q) 0;x_1=i->m/\((x_1<T.R/\TD.Ok T)/\fits 25769803768 x)/\w=w/\SubF c c w []/\gd (Nat.beq s s) (b/\a/\(∃(r:v),x=x++r)/\∀(x_2:v),letI n:=List.length x_2;x_2=x++catT T x_1 w->m/\Nat.le (n+1+1) 70368744177664/\d/\gd (Nat.beq n n) (b/\a/\(∃(r:v),x_2=x_2++r)/\∀(x:v),x=x_2++k->∃(x_3:By),x_3=l++rowF T i/\m/\True/\(h/\(((((h/\t)/\t)/\t)/\t)/\True)/\True)/\g=g/\gd (Nat.beq (List.length x) (List.length x_3)) (b/\a/\(∃(r:v),x=x_3++r)/\True)))))
theorem yrU_ok (T:TD):TabOk Tryz.prog (yrU T):=by
 refine⟨fun f s h=>?_,fun f s h=>?_⟩
 ·unfold yrU at h
  simp only at h
  split at h
  ·cases h;exact genS_ok gh_fok (gh_ok T).1
  ·cases h;exact genS_ok wn_fok (ws_ok T)
  ·cases h;exact genS_ok ac_fok (ac_ok T).1
  ·cases h;exact genS_ok ym_fok (ym_ok T).1
  ·cases h
 ·cases h
theorem yr_r (T:TD) (l:By) (i:Nat) (hd:(i<T.R/\T.Ok)/\fits 25769803772 l):yrR T l i:=by
 unfold yrR
 obtain⟨⟨h1,ok⟩,hf⟩:=hd
 have c2:=ok.c2 i
 have c0:=ok.c i h1
 have cl:=rowF_len ok i
 have cc:=catT_len ok i (T.C i)
 have cm:T.C i*2147483647<=12*2147483647:=Nat.mul_le_mul_right _ c2
 simp only[fits,bufMax] at hf
 have ff:fits 25769803768 (l++[10,10]):=by simp only[fits,bufMax,List.length_append,List.length_cons,List.length_nil];omega
 simp only[sj2,eq_self,implies_true,forall_eq,intE,intF,Nat.le_eq,sj1,leB_iff',sj0]
 repeat' (first|done|omega|exact trivial|exact rfl|assumption|exact fun _ _ _=>pinA|exact⟨[],(List.append_nil _).symm⟩|(simp only[rowF,List.length_append,List.length_cons,List.length_nil];omega)|(refine⟨[],?_⟩;simp[rowF];done)|intro _|refine And.intro ?_ ?_)
theorem yr_ok (T:TD):(yrS T).Body Tryz.prog 51/\(yrS T).BodyD Tryz.prog 51:=by
 refine genS_body (fn:=Tryz.f51) (b:=(bodyOf Tryz.f51)) (LT:=fun _=>[]) ftOk (yrU_ok T) 1000 (fun a ha=>LTok.nil) (by kernel_rfl) (by kernel_rfl) ?_
 exact fun a ha=>Ho.of (yrR T a.1 a.2) (by kernel_rfl) (yr_r T a.1 a.2 ha)
def yRDR (T:TD) (l:By) (k:Nat):Prop:=
 letI w:=List UInt8;letI v:=Int.ofNat 0;letI u:=Int.ofNat T.R;letI t:=l++rowsF T k;letI p:=domB T=domB T;letI n:=l++rowsF T T.R;letI m:=(t,k).fst;letI g:=List.length t;letI h:=Value.int .i64 v;letI f:=Value.int .i64 u;letI e:=Value.int IntKind.i8 v;letI d:=decide (Int.ofNat k<u);letI c:=fun(q:Nat)=>AVal.sp (SId.mk 4 q 0) 0;letI b:=h=h;letI a:=e=e;br d (gd d (gd (Nat.blt k T.R) (p/\((k<T.R/\TD.Ok T)/\fits 25769803772 m)/\gd (Nat.beq k k&&true&&true) (gd (Nat.beq g (List.length m)) (b/\a/\(∃(r:w),t=m++r)/\∀(x:w),x=m++rowF T k->∃(j':Nat),letI s:=l++rowsF T j';Nat.le j' T.R/\T.R-j'<T.R-k/\p/\T.R=T.R/\SubF c c T.R []/\f=f/\Value.int .i64 (IntKind.wrap .i64 (Int.ofNat (k+1)))=Value.int .i64 (Int.ofNat j')/\gd (Nat.beq (List.length x) (List.length s)) (b/\a/\(∃(r:w),x=s++r)/\True)))))) (∃(x:Unit),True/\p/\gd (Nat.beq g (List.length n)) (b/\a/\(∃(r:w),t=n++r)/\True))
def yRR (T:TD) (l:By):Prop:=
 letI p:=Int.ofNat 0;letI n:=True/\True;letI m:=l++rowsF T 0;letI k:=domB T=domB T;letI h:=l++rowsF T T.R;letI g:=True/\n;letI f:=Value.int .i64 p;letI e:=Value.int .i64 (Int.ofNat T.R);letI d:=Value.int IntKind.i8 p;letI c:=fun(q:Nat)=>AVal.sp (SId.mk 4 q 0) 0;letI b:=f=f;letI a:=d=d;Nat.le 0 T.R/\(k/\T.R=T.R/\SubF c c T.R []/\e=e/\b/\gd (Nat.beq (List.length l) (List.length m)) (b/\a/\(∃(r:List UInt8),l=m++r)/\True))/\∀(x:Unit),True->∃(x:By),x=h/\k/\True/\(g/\(((((g/\n)/\n)/\n)/\n)/\True)/\True)/\gd (Nat.beq (List.length h) (List.length x)) (b/\a/\(∃(r:List UInt8),h=x++r)/\True)
theorem yRU_ok (T:TD):TabOk Tryz.prog (yRU T):=by
 refine⟨fun f s h=>?_,fun f s h=>?_⟩
 ·unfold yRU at h
  simp only at h
  split at h
  ·cases h;exact genS_ok xd_fok (yr_ok T).1
  ·cases h
 ·cases h
theorem yRD_r (T:TD) (l:By) (k:Nat) (hd:T.Ok/\fits 335007448990 l) (h:k<=T.R):yRDR T l k:=by
 unfold yRDR
 obtain⟨ok,hf⟩:=hd
 have c2:=ok.r2
 have cl:=rowsF_len ok k
 simp only[fits,bufMax] at hf
 have ff:k<T.R->fits 25769803772 (l++rowsF T k):=fun g=>by
  have:k*25769803768<=12*25769803768:=Nat.mul_le_mul_right _ (by omega)
  simp only[fits,bufMax,List.length_append];omega
 have e1:k<T.R->IntKind.wrap IntKind.i64 ((k+1:Nat):Int)=((k+1:Nat):Int):=fun g=>wrapI (by omega) (by omega)
 have cE:rowsF T (k+1)=rowsF T k++rowF T k:=rfl
 simp only[sj2,eq_self,implies_true,forall_eq,intE,intF,Nat.le_eq,sj1,leB_iff',sj0]
 repeat' (first|done|omega|exact trivial|exact rfl|assumption|exact fun _ _ _=>pinA|exact ff (by omega)|exact congrArg _ (e1 (by omega))|exact⟨[],(List.append_nil _).symm⟩|(refine⟨(k+1:Nat),?_⟩)|(rw[cE];simp only[List.length_append];omega)|(refine⟨[],?_⟩;rw[cE];simp;done)|(have hkn:k=T.R:=(by omega);subst hkn;(first|exact rfl|exact⟨[],by simp⟩))|intro _|refine And.intro ?_ ?_)
theorem yRD_b (T:TD) (l:By) (hd:T.Ok/\fits 335007448990 l):(yRD T l).Body Tryz.prog (sub (bodyOf Tryz.f471) [0,0,1]):=by
 refine LoopD.bodyH (root:=(bodyOf Tryz.f471)) [0,0,1] ftOk (yRU_ok T) (LTok.nil) 1000 ?_
 exact fun k hk=>Ho.of (yRDR T l k) (by kernel_rfl) (yRD_r T l k hd hk)
theorem yR_r (T:TD) (l:By) (hd:T.Ok/\fits 335007448990 l):yRR T l:=by
 unfold yRR
 try simp only[List.append_assoc]
 simp only[sj2,eq_self,implies_true,forall_eq,intE,intF,Nat.le_eq,sj1,leB_iff',sj0]
 exact⟨by omega,⟨fun _ _ _=>pinA,by simp[rowsF],[],by simp[rowsF]⟩,fun _ _=>⟨[],by simp⟩⟩
theorem yR_ok (T:TD):(yRS T).Body Tryz.prog 471/\(yRS T).BodyD Tryz.prog 471:=by
 refine genS_body (fn:=Tryz.f471) (b:=(bodyOf Tryz.f471)) (LT:=fun a=>[([0,1],(yRD T a).at (0:Nat))]) ftOk (yRU_ok T) 1000 (fun a ha=>LTok.cons (fun fr H K hk=>LoopD.ok (yRD_b T a ha) hk) (LTok.nil)) (by kernel_rfl) (by kernel_rfl) ?_
 exact fun a ha=>Ho.of (yRR T a) (by kernel_rfl) (yR_r T a ha)
def arDR (T:TD):Prop:=
 letI c:=T.R+1;letI b:=domB T=domB T;letI a:=∃(j':Unit),True/\c<c/\b/\False;br (Nat.blt 1 T.R) (a\/∃(j':Nat),(0<j'/\j'<=T.R)/\T.R-j'<c/\b/\gd (Nat.beq 1 j') (br (Nat.blt j' T.R) (gd (Nat.beq 1 j'&&true&&true) (j'=1/\True)) False)) (a\/∃(j':Nat),(0<j'/\j'<=T.R)/\T.R-j'<c/\b/\gd (Nat.beq 1 j') (br (Nat.blt j' T.R) False (j'=1/\True)))
def arDQ (T:TD) (k:Nat):Prop:=
 letI g:=k+1;letI f:=domB T=domB T;letI d:=fun(q:Nat)=>AVal.sp (SId.mk 4 q 0) 0;letI c:=∃(j':Unit),True/\T.R+1<T.R-k/\f/\False;letI b:=SubF d d k [];letI a:=b/\gd (Nat.beq k k&&true&&true) True;br (Nat.blt k T.R) (gd (Nat.beq k k&&(Nat.ble (0+k+1+k+1+k+1+k+1+k+1+k+1+k+1+k+1) 140737488355328&&(Nat.ble g 140737488355328&&true))) (br (Nat.blt g T.R) (c\/∃(j':Nat),letI e:=Nat.beq g j';(0<j'/\j'<=T.R)/\T.R-j'<T.R-k/\f/\gd e (br (Nat.blt j' T.R) (gd (e&&true&&true) (j'=g/\a)) False)) (c\/∃(j':Nat),(0<j'/\j'<=T.R)/\T.R-j'<T.R-k/\f/\gd (Nat.beq g j') (br (Nat.blt j' T.R) False (j'=g/\a))))) ((∃(x:Unit),True/\f/\k=T.R/\k=k/\b/\True)\/False)
def arR (T:TD):Prop:=
 letI c:=domB T=domB T;letI a:=fun(q:Nat)=>AVal.sp (SId.mk 4 q 0) 0;True/\(c/\True)/\∀(x:Unit),True->∃(x:Unit),x=Unit.unit/\c/\(∀(i:Nat),letI b:=AVal.sp (SId.mk 4 i 0) 0;i<T.R->SubA 0 b b)/\True/\T.R=T.R/\SubF a a T.R []/\True
theorem arD_r (T:TD) (hd:0<T.R/\T.R<=13):arDR T:=by
 unfold arDR
 simp only[sj2,sj12,exists_eq_right,Nat.add_right_cancel_iff,Nat.lt_irrefl,Bool.and_eq_false_iff,Bool.true_eq_false,or_self,sj1,leB_iff',sj0]
 have sf:∀n us,SubF (fun q=>AVal.sp {k:=4,i:=q,j:=0} 0) (fun q=>AVal.sp {k:=4,i:=q,j:=0} 0) n us:=fun n _ _ _ _=>pinA
 repeat' (first|exact sf _ _|omega|exact trivial|exact rfl|exact pinA|refine⟨1,?_⟩|intro _|refine And.intro ?_ ?_)
theorem arD_q (T:TD) (k:Nat) (hd:0<T.R/\T.R<=13) (h:0<k/\k<=T.R):arDQ T k:=by
 unfold arDQ
 obtain⟨h1,h2⟩:=h
 simp only[sj2,sj12,exists_eq_right,Nat.add_right_cancel_iff,Nat.lt_irrefl,Bool.and_eq_false_iff,Bool.true_eq_false,or_self,sj1,leB_iff',sj0]
 have sf:∀n us,SubF (fun q=>AVal.sp {k:=4,i:=q,j:=0} 0) (fun q=>AVal.sp {k:=4,i:=q,j:=0} 0) n us:=fun n _ _ _ _=>pinA
 repeat' (first|exact sf _ _|omega|exact trivial|exact rfl|exact pinA|refine⟨k+1,?_⟩|intro _|refine And.intro ?_ ?_)
theorem arD_b (T:TD) (hd:0<T.R/\T.R<=13):(arD T).Body2 (arDE T) Tryz.prog (sub (bodyOf Tryz.f264) [0,0,1,0,1]):=by
 refine LoopD.bodyH2 (root:=(bodyOf Tryz.f264)) [0,0,1,0,1] ftOk (nofOk) (LTok.nil) 1000 ?_ ?_
 ·exact fun j hj=>Ho.of (arDR T) (by kernel_rfl) (arD_r T hd)
 ·exact fun j hj=>Ho.of (arDQ T j) (by kernel_rfl) (arD_q T j hd hj)
theorem ar_r (T:TD) (hd:0<T.R/\T.R<=13):arR T:=by
 unfold arR
 simp only[sj2,sj12,exists_eq_right,Nat.add_right_cancel_iff,Nat.lt_irrefl,Bool.and_eq_false_iff,Bool.true_eq_false,or_self,sj1,leB_iff',sj0]
 have sf:∀n us,SubF (fun q=>AVal.sp {k:=4,i:=q,j:=0} 0) (fun q=>AVal.sp {k:=4,i:=q,j:=0} 0) n us:=fun n _ _ _ _=>pinA
 repeat' (first|exact sf _ _|omega|exact trivial|exact rfl|exact pinA|refine⟨0,?_⟩|intro _|refine And.intro ?_ ?_)
theorem ar_ok (T:TD):(arS T).Body Tryz.prog 264/\(arS T).BodyD Tryz.prog 264:=by
 refine genS_body (fn:=Tryz.f264) (b:=(bodyOf Tryz.f264)) (LT:=fun _=>[([0,1,0,1],(arD T).at ())]) ftOk (nofOk) 1000 (fun _ ha=>LTok.cons (fun fr H K hk=>LoopD.ok2 (arD_b T ha) hk) (LTok.nil)) (by kernel_rfl) (by kernel_rfl) ?_
 exact fun a ha=>Ho.of (arR T) (by kernel_rfl) (ar_r T ha)
end Tk
