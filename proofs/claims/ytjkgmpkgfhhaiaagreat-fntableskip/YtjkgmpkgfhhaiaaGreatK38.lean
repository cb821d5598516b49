/- Lemmas of this claim; the last text says what is proved. -/
import Derived.Test.YtjkgmpkgfhhaiaaGreatK23
import Derived.Test.YtjkgmpkgfhhaiaaGreatK37
import Derived.Test.YtjkgmpkgfhhaiaaGreatK24
import Derived.Test.YtjkgmpkgfhhaiaaGreatK36
import Derived.Test.YtjkgmpkgfhhaiaaGreatK31
import Derived.Test.YtjkgmpkgfhhaiaaGreatK29
import Derived.Test.YtjkgmpkgfhhaiaaGreatK30
import Derived.Test.YtjkgmpkgfhhaiaaGreatK34
import Derived.Test.YtjkgmpkgfhhaiaaGreatK35
set_option linter.all false
set_option maxRecDepth 1000000
namespace Tk
open Go Go.Sx Go.Proofs
open Q
variable [Syms]
def ybR (T:TD) (l:By):Prop:=
 letI s:=List UInt8;letI p:=Int.ofNat 0;letI m:=List.length l;letI n:=True/\True;letI k:=domB T=domB T;letI h:=l++rowsF T T.R;letI g:=True/\n;letI e:=Value.int .i64 p;letI f:=Value.int .i64 (Int.ofNat 1);letI d:=Value.int IntKind.i8 p;letI c:=fun(q:Nat)=>AVal.sp (SId.mk 4 q 0) 0;letI b:=e=e;letI a:=d=d;k/\True/\∀(x:Unit),True->k/\(0<T.R/\T.R<=13)/\∀(x:Unit),x=Unit.unit->k/\(TD.Ok T/\fits 335007448990 l)/\T.R=T.R/\SubF c c T.R []/\gd (Nat.beq m m) (b/\a/\(∃(r:s),l=l++r)/\∀(x:s),x=h->∃(x_1:By),x_1=h/\k/\True/\(g/\(((((g/\n)/\n)/\n)/\n)/\True)/\True)/\f=f/\gd (Nat.beq (List.length x) (List.length x_1)) (b/\a/\(∃(r:s),x=x_1++r)/\True))
theorem ybU_ok (T:TD):TabOk Tryz.prog (ybU T):=by
 refine⟨fun f s h=>?_,fun f s h=>?_⟩
 ·unfold ybU at h
  simp only at h
  split at h
  ·cases h;exact genS_ok gh_fok (gh_ok T).1
  ·cases h;exact genS_ok ac_fok (ar_ok T).1
  ·cases h;exact genS_ok ym_fok (yR_ok T).1
  ·cases h
 ·cases h
theorem yb_r (T:TD) (l:By) (hd:T.Ok/\fits 335007448990 l):ybR T l:=by
 unfold ybR
 obtain⟨ok,hf⟩:=hd
 simp only[sj2,eq_self,implies_true,forall_eq,intE,intF,Nat.le_eq,sj1,leB_iff',sj0]
 exact fun _ _=>⟨⟨ok.r,ok.r2⟩,fun _ _=>⟨⟨ok,hf⟩,fun _ _ _=>pinA,⟨[],by simp⟩,[],by simp⟩⟩
theorem yb_ok (T:TD):(ybS T).Body Tryz.prog 51/\(ybS T).BodyD Tryz.prog 51:=by
 refine genS_body (fn:=Tryz.f51) (b:=(bodyOf Tryz.f51)) (LT:=fun _=>[]) ftOk (ybU_ok T) 1000 (fun a ha=>LTok.nil) (by kernel_rfl) (by kernel_rfl) ?_
 exact fun a ha=>Ho.of (ybR T a) (by kernel_rfl) (yb_r T a ha)
def wqR (T:TD) (l:By) (d:Nat):Prop:=
 letI e1:=List UInt8;letI d1:=List.length l;letI c1:=domB T=domB T;letI z:=d1+1;letI w:=l++[(10:UInt8)];letI s:=Value.int .i64 (Int.ofNat 1);letI t:=Value.int .i64 (Int.ofNat 0);letI p:=∃(r:e1),l=l++r;letI n:=(True/\True/\True)/\True;letI m:=Value.int IntKind.i8 (Int.ofNat 0);letI f:=Nat.beq d1 d1;letI c:=s=s;letI e:=t=t;letI b:=m=m;letI a:=d1<=d/\d<9223372036854775808/\z<=70368744177664;br (Nat.ble z d) (c1/\(a/\z<=d)/\c/\gd f (d=d/\e/\b/\p/\gd (Nat.ble d d) (∀(x:By×Nat×Nat),letI a1:=List.length x.fst;letI u:=a1+x.2.fst;letI q:=x.2.snd*1<=x.2.snd/\True;letI h:=Nat.blt x.2.snd 9223372036854775808;x=(l,1,d)->gd (decide (Int.ofNat a1<Int.ofNat u)) (br (Nat.blt a1 a1) (∃(x_1:By),x_1=w/\c1/\True/\n/\gd (Nat.beq u (List.length x_1)) (gd h (e/\b/\(∃(r:e1),List.set x.fst a1 (10:UInt8)=x_1++r)/\q))) (gd (Nat.beq a1 a1&&(Nat.blt a1 x.2.snd&&true)) (∃(x_1:By),x_1=w/\c1/\True/\n/\gd (Nat.beq u (List.length x_1)) (gd h (e/\b/\(∃(r:e1),x.fst++[(10:UInt8)]=x_1++r)/\q)))))))) (c1/\(a/\d<z)/\c/\gd f (d=d/\e/\b/\p/\gd (Nat.ble d d) (∀(x:By×Nat×Nat),letI b1:=(1,x.2.snd).snd;letI v:=(x.fst,1,x.2.snd).fst;letI k:=List.length v;letI g:=k+1;x=(l,1,d)->c1/\((k<=b1/\b1<9223372036854775808/\g<=70368744177664)/\b1<g)/\c/\gd (Nat.beq (List.length x.fst) k) (x.2.snd=b1/\e/\b/\(∃(r:e1),x.fst=v++r)/\gd (Nat.ble b1 x.2.snd) (∀(x_1:By×Nat),letI y:=List.length x_1.fst;y=g/\List.take k x_1.fst=v/\x_1.snd=k->gd (decide (Int.ofNat x_1.snd<Int.ofNat y)) (gd (Nat.blt x_1.snd y&&true) (∃(x:By),x=w/\c1/\True/\n/\gd (Nat.beq y (List.length x)) (e/\b/\(∃(r:e1),List.set x_1.fst x_1.snd (10:UInt8)=x++r)/\True))))))))
theorem wq_r (T:TD) (l:By) (d:Nat) (h:l.length<=d/\d<9223372036854775808/\l.length+1<=bufMax):wqR T l d:=by
 unfold wqR
 obtain⟨h1,h2,h3⟩:=h
 simp only[bufMax] at h3
 have tn:∀n:Nat,Int.toNat (Int.ofNat n)=n:=fun n=>rfl
 have tk:List.take l.length l=l:=List.take_length
 simp only[forall_eq]
 try simp only[List.drop_zero,List.take_nil,Nat.add_zero,Nat.sub_zero,Nat.zero_add,tn,tk,tn]
 try simp only[List.drop_zero,Nat.add_zero,Nat.sub_zero,Nat.zero_add,tn,tk,sj1,leB_iff',and_true,true_and,forall_const,exists_eq_left,List.length_append,List.length_replicate,spliceB_length,Int.ofNat_eq_natCast,List.length_take,Bool.not_true,Bool.not_false,natMin]
 repeat' (first|done|omega|exact rfl|exact trivial|assumption|(exfalso;omega)|rintro x ⟨hx1,hx2,hx3⟩|intro _|exact⟨[],(List.append_nil _).symm⟩|exact wqL (by assumption) (by assumption) (by omega)|refine And.intro ?_ ?_)
theorem wq_fok:FunOk Tryz.prog 326:=⟨Tryz.f326,by kernel_rfl,rfl,by kernel_rfl⟩
theorem wq_ok (T:TD):(wqS T).Body Tryz.prog 326/\(wqS T).BodyD Tryz.prog 326:=by
 refine genS_body (fn:=Tryz.f326) (b:=(bodyOf Tryz.f326)) (LT:=fun _=>[]) ftOk (woU_ok T) 1000 (fun a ha=>LTok.nil) (by kernel_rfl) (by kernel_rfl) ?_
 exact fun a ha=>Ho.of (wqR T a.1 a.2) (by kernel_rfl) (wq_r T a.1 a.2 ha)
theorem wy_ok (T:TD):(wyS T).Body Tryz.prog 326:=fun a ha w0 F0 ι w vs hi hd=>by
 obtain⟨d,h63,hld,hi'⟩:=bufOpen hi
 exact(wq_ok T).1 (a,d) ⟨hld,h63,ha⟩ w0 F0 ι w vs hi' hd
def wzR (T:TD):Prop:=
 letI c:=Int.ofNat 0;letI b:=Value.int .i64 c;letI a:=Value.int IntKind.i8 c;∃(x:By),x=[(10:UInt8)]/\domB T=domB T/\True/\((True/\True/\True)/\True)/\gd (Nat.beq 1 (List.length x)) (b=b/\a=a/\(∃(r:List UInt8),[(10:UInt8)]=x++r)/\64<=64/\True)
theorem wz_r (T:TD):wzR T:=by
 unfold wzR
 exact⟨_,rfl,rfl,trivial,⟨⟨trivial,trivial,trivial⟩,trivial⟩,gd_in rfl ⟨rfl,rfl,⟨[],rfl⟩,Nat.le_refl _,trivial⟩⟩
theorem wz_ok (T:TD):(wzS T).Body Tryz.prog 326/\(wzS T).BodyD Tryz.prog 326:=by
 refine genS_body (fn:=Tryz.f326) (b:=(bodyOf Tryz.f326)) (LT:=fun _=>[]) ftOk (wnU_ok T) 1000 (fun a ha=>LTok.nil) (by kernel_rfl) (by kernel_rfl) ?_
 exact fun a ha=>Ho.of (wzR T) (by kernel_rfl) (wz_r T)
def yTR (T:TD):Prop:=
 letI v:=List UInt8;letI u:=Int.ofNat 0;letI t:=True/\True;letI p:=[(10:UInt8)];letI k:=domB T=domB T;letI h:=True/\t;letI f:=Value.int .i64 u;letI g:=Value.int .i64 (Int.ofNat 1);letI e:=Value.int IntKind.i8 u;letI d:=Value.int IntKind.i32 (Int.ofNat 10);letI c:=f=f;letI b:=e=e;letI a:=d=d;k/\True/\∀(x:Unit),True->k/\(TD.Ok T/\allE (rn T) (rc T) (T.R-hN T+1)=true)/\c/\b/\∀(x:Unit),True->k/\True/\a/\c/\b/\∀(x:v),letI q:=List.length x;x=p->k/\Nat.le (q+1) 70368744177664/\a/\gd (Nat.beq q q) (c/\b/\(∃(r:v),x=x++r)/\∀(x_1:v),letI m:=List.length x_1;x_1=x++p->k/\(TD.Ok T/\fits 335007448990 x_1)/\gd (Nat.beq m m) (c/\b/\(∃(r:v),x_1=x_1++r)/\∀(x:v),letI s:=List.length x;x=x_1++rowsF T T.R->k/\Nat.le (s+1) 70368744177664/\a/\gd (Nat.beq s s) (c/\b/\(∃(r:v),x=x++r)/\∀(x_2:v),letI n:=List.length x_2;x_2=x++p->k/\Nat.le (n+1) 70368744177664/\a/\gd (Nat.beq n n) (c/\b/\(∃(r:v),x_2=x_2++r)/\∀(x:v),x=x_2++p->∃(x_3:By),x_3=fbF T/\k/\True/\(h/\(((((h/\t)/\t)/\t)/\t)/\True)/\True)/\g=g/\gd (Nat.beq (List.length x) (List.length x_3)) (c/\b/\(∃(r:v),x=x_3++r)/\True)))))
theorem yTU_ok (T:TD):TabOk Tryz.prog (yTU T):=by
 refine⟨fun f s h=>?_,fun f s h=>?_⟩
 ·unfold yTU at h
  simp only at h
  split at h
  ·cases h;exact genS_ok gh_fok (gh_ok T).1
  ·cases h;exact genS_ok tN_fok (tN_ok T).1
  ·cases h;exact genS_ok xd_fok (yb_ok T).1
  ·cases h;exact orS_ok (genS_ok wq_fok (wz_ok T).1) (genS_ok wq_fok (wy_ok T))
  ·cases h
 ·cases h
theorem yT_r (T:TD) (hT:T.Ok/\allE (rn T) (rc T) (nR T)=true):yTR T:=by
 unfold yTR
 have ok:=hT.1
 have cl:=rowsF_len ok T.R
 have cr:T.R*25769803768<=13*25769803768:=Nat.mul_le_mul_right _ ok.r2
 have ff:fits 335007448990 ([10]++[10]):=by simp only[fits,bufMax,List.length_append,List.length_cons,List.length_nil];omega
 have h3:(T.Ok/\allE (rn T) (rc T) (T.R-hN T+1)=true):=hT
 simp only[sj2,eq_self,implies_true,forall_eq,intE,intF,Nat.le_eq,sj1,leB_iff',sj0]
 repeat' (first|done|omega|exact trivial|exact rfl|assumption|exact hT|exact⟨[],rfl⟩|exact⟨[],(List.append_nil _).symm⟩|(simp only[fbF,List.length_append,List.length_cons,List.length_nil];done)|(simp only[fbF,List.length_append,List.length_cons,List.length_nil];omega)|(refine⟨[],?_⟩;simp[fbF];done)|intro _|refine And.intro ?_ ?_)
theorem yT_ok (T:TD):(yTS T).Body Tryz.prog 51/\(yTS T).BodyD Tryz.prog 51:=by
 refine genS_body (fn:=Tryz.f51) (b:=(bodyOf Tryz.f51)) (LT:=fun _=>[]) ftOk (yTU_ok T) 1000 (fun a ha=>LTok.nil) (by kernel_rfl) (by kernel_rfl) ?_
 exact fun a ha=>Ho.of (yTR T) (by kernel_rfl) (yT_r T ha)
def ktIR (T:TD) (rn:Nat->Nat) (rc:Nat->Nat->By) (m:Nat) (c:Nat) (q:Nat) (k:Nat):Prop:=
 letI d1:=T.R-hN T;letI c1:=Nat.beq m m;letI b1:=domB T=domB T;letI z:=Int.ofNat (rn q);letI a1:=(rc q k,10).fst;letI y:=d1=d1;letI v:=Value.int .i64 (Int.ofNat m);letI w:=Value.int .i64 (Int.ofNat q);letI u:=Value.int .i64 z;letI t:=fun(k:Nat)=>AVal.by_ (rc q k);letI s:=Value.int IntKind.u8 (Int.ofNat 10);letI r:=decide (Int.ofNat k<z);letI p:=fun(q:Nat)=>AVal.sp (SId.mk 4 (q+hN T) 0) 0;letI h:=v=v;letI n:=w=w;letI g:=fun(q:Nat)=>AVal.famx (fun(k:Nat)=>AVal.by_ (rc q k)) (rn q);letI f:=SubF p p d1 [];letI e:=m<=m/\SubF g g m []/\gd (Nat.ble c c) True;letI d:=y/\f/\gd c1 (c=c/\gd c1 (c=c/\h/\n/\e));br r (gd r (gd (Nat.blt k (rn q)) (b1/\((∀(b:UInt8),b∈a1->UInt8.toNat b≠10)/\List.length a1<=70368744177664/\10<256)/\rc q k=a1/\s=s/\∀(x:Unit),True->∃(j':Nat),letI a:=y/\f/\gd c1 (c=c/\gd c1 (c=c/\h/\n/\rn q=rn q/\SubF t t (rn q) []/\u=u/\Value.int .i64 (IntKind.wrap .i64 (Int.ofNat (k+1)))=Value.int .i64 (Int.ofNat j')/\e));Nat.le j' (rn q)/\rn q-j'<rn q-k/\b1/\br T.hd (br T.hd a False) (br T.hd False a)))) (∃(x:Unit),True/\b1/\br T.hd (br T.hd d False) (br T.hd False d))
def ktDR (T:TD) (rn:Nat->Nat) (rc:Nat->Nat->By) (m:Nat) (c:Nat) (q:Nat):Prop:=
 letI a1:=T.R-hN T;letI z:=Nat.beq m m;letI y:=domB T=domB T;letI w:=a1=a1;letI t:=Value.int .i64 (Int.ofNat m);letI u:=Value.int .i64 (Int.ofNat q);letI v:=Value.int .i64 (Int.ofNat 0);letI s:=Value.int .i64 (Int.ofNat (rn q));letI p:=decide (Int.ofNat q<Int.ofNat m);letI r:=fun(k:Nat)=>AVal.by_ (rc q k);letI n:=fun(q:Nat)=>AVal.sp (SId.mk 4 (q+hN T) 0) 0;letI h:=t=t;letI g:=fun(q:Nat)=>AVal.famx (fun(k:Nat)=>AVal.by_ (rc q k)) (rn q);letI f:=SubF n n a1 [];letI e:=m<=m/\SubF g g m []/\gd (Nat.ble c c) True;letI d:=w/\f/\gd z (c=c/\e);letI a:=w/\f/\gd z (c=c/\gd z (c=c/\h/\u=u/\rn q=rn q/\SubF r r (rn q) []/\s=s/\v=v/\e));br p (gd p (gd (Nat.blt q m) (Nat.le 0 (rn q)/\(y/\br T.hd (br T.hd a False) (br T.hd False a))/\∀(x:Unit),True->∃(j':Nat),letI b:=w/\f/\gd z (c=c/\gd z (c=c/\h/\Value.int .i64 (IntKind.wrap .i64 (Int.ofNat (q+1)))=Value.int .i64 (Int.ofNat j')/\e));Nat.le j' m/\m-j'<m-q/\y/\br T.hd (br T.hd b False) (br T.hd False b)))) (∃(x:Unit),True/\y/\br T.hd (br T.hd d False) (br T.hd False d))
def ktR (T:TD):Prop:=
 letI u1:=finR T;letI t1:=TD.Ok T;letI s1:=T.R-hN T;letI q1:=Int.ofNat 0;letI r1:=AVal.str [];letI p1:=True/\True;letI n1:=domB T=domB T;letI h1:=List (Nat×AVal);letI k1:=u1.snd.2.fst;letI m1:=u1.snd.2.snd;letI e1:=s1=s1;letI d1:=Nat.le 0 k1;letI b1:=Value.int .i64 q1;letI c1:=fun(x:Nat)=>r1;letI y:=([]:List AVal)=([]:List AVal);letI u:=Value.int .i64 (Int.ofNat k1);letI t:=fun(q:Nat)=>AVal.sp (SId.mk 4 (q+hN T) 0) 0;letI s:=(Nat->Nat)×(Nat->Nat->By)×Nat×Nat;letI r:=([]:h1)=([]:h1);letI p:=t1/\allE (rn T) (rc T) (s1+1)=false;letI n:=b1=b1;letI g:=(∀(i:Nat),i<T.C 0->SubA 0 r1 r1)/\p1;letI f:=fun(q:Nat)=>AVal.famx (fun(k:Nat)=>AVal.by_ (u1.2.fst q k)) (u1.fst q);letI e:=(((((True/\p1)/\p1)/\p1)/\p1)/\p1)/\True;letI d:=SubF t t s1 [];letI c:=∃(x:s),x=u1/\n1/\True/\(e/\g/\r/\y/\∀(i:Nat),letI h:=AVal.famx (fun(k:Nat)=>AVal.by_ (x.2.fst i k)) (x.fst i);i<x.snd.2.fst->SubA 0 h h)/\False;letI b:=e1/\d/\∀(x:Unit),True->n1/\t1/\∀(x:Unit),True->∃(x:s),x=u1/\n1/\True/\(e/\g/\r/\y/\∀(i:Nat),letI m:=AVal.famx (fun(k:Nat)=>AVal.by_ (x.2.fst i k)) (x.fst i);i<x.snd.2.fst->SubA 0 m m)/\T.C 0=T.C 0/\SubF c1 c1 (T.C 0) []/\gd (Nat.beq k1 x.snd.2.fst) (m1=x.snd.2.snd/\x.snd.2.fst<=k1/\SubF f (fun(q:Nat)=>AVal.famx (fun(k:Nat)=>AVal.by_ (x.2.fst q k)) (x.fst q)) x.snd.2.fst []/\gd (Nat.ble x.snd.2.snd m1) True);letI a:=∀(x:Unit),True->br T.hd (n1/\t1/\br T.hd b False) (n1/\t1/\br T.hd False b);n1/\t1/\∀(x:Unit),True->n1/\t1/\∀(x:Unit),True->br T.hd (n1/\t1/\br T.hd (∀(x:Unit),True->n1/\p/\br T.hd (e1/\d/\∀(x:s),letI f1:=Int.ofNat x.snd.2.fst;letI z:=x.snd.2.snd=m1;letI v:=Nat.beq x.snd.2.fst k1;x=u1->br (f1==q1) c (d1/\(n1/\br T.hd (e1/\d/\gd v (z/\gd v (z/\Value.int .i64 f1=u/\n/\k1<=x.snd.2.fst/\SubF (fun(q:Nat)=>AVal.famx (fun(k:Nat)=>AVal.by_ (x.2.fst q k)) (x.fst q)) f k1 []/\gd (Nat.ble m1 x.snd.2.snd) True))) False)/\a)) False) False) (n1/\t1/\br T.hd False (∀(x:Unit),True->n1/\p/\br T.hd False (e1/\d/\∀(x:s),letI g1:=Int.ofNat x.snd.2.fst;letI a1:=x.snd.2.snd=m1;letI w:=Nat.beq x.snd.2.fst k1;x=u1->br (g1==q1) c (d1/\(n1/\br T.hd False (e1/\d/\gd w (a1/\gd w (a1/\Value.int .i64 g1=u/\n/\k1<=x.snd.2.fst/\SubF (fun(q:Nat)=>AVal.famx (fun(k:Nat)=>AVal.by_ (x.2.fst q k)) (x.fst q)) f k1 []/\gd (Nat.ble m1 x.snd.2.snd) True))))/\a))))
theorem ktU_ok (T:TD):TabOk Tryz.prog (ktU T):=by
 refine⟨fun f s h=>?_,fun f s h=>?_⟩
 ·unfold ktU at h
  simp only at h
  split at h
  ·cases h;exact genS_ok f3_fok (f3_ok T).1
  ·cases h;exact genS_ok sh_fok (sh_ok T).1
  ·cases h;exact genS_ok nr_fok (nr_ok T).1
  ·cases h;exact genS_ok cz_fok (cr_ok T).1
  ·cases h;exact genS_ok zh_fok (zh_ok T).1
  ·cases h;exact genS_ok ca_fok (ca_ok T).1
  ·cases h;exact genS_ok cn_fok (cn_ok T).1
  ·cases h
 ·cases h
theorem ktI_r (T:TD) (rn:Nat->Nat) (rc:Nat->Nat->By) (m c:Nat) (q k:Nat) (hd:RowsOk rn rc m c) (h:k<=rn q):ktIR T rn rc m c q k:=by
 unfold ktIR
 obtain⟨hw,hn,hm,hmc,hc⟩:=hd
 have e1:∀m:Nat,m<=1000->IntKind.wrap IntKind.i64 (Int.ofNat m)=Int.ofNat m:=fun m h=>wrapI (by simp only[Int.ofNat_eq_natCast];omega) (by simp only[Int.ofNat_eq_natCast];omega)
 have sr:SubF (fun q=>AVal.famx (fun k=>AVal.by_ (rc q k)) (rn q)) (fun q=>AVal.famx (fun k=>AVal.by_ (rc q k)) (rn q)) m []:=fun _ _ _=>SubA.famx fun _ _=>byA
 have sn:SubF (fun q=>AVal.sp {k:=4,i:=q+hN T,j:=0} 0) (fun q=>AVal.sp {k:=4,i:=q+hN T,j:=0} 0) (T.R-hN T) []:=fun _ _ _=>pinA
 have hq:=hn q
 have w10:∀b∈rc q k,b.toNat≠10:=fun b hb=>by have:=(hw q k).1 b hb;unfold wc at this;omega
 have hl:=(hw q k).2
 simp only[e1 (k+1) (by omega)]
 simp only[sj2,eq_self,implies_true,forall_eq,intE,intF,Nat.le_eq,sj1,leB_iff',sj0]
 repeat' (first|omega|exact trivial|exact rfl|exact sr|exact w10|exact sn|exact fun _ _ _=>byA|(exfalso;simp_all;done)|refine⟨k+1,?_⟩|intro _|refine And.intro ?_ ?_)
theorem ktI_b (T:TD) (rn:Nat->Nat) (rc:Nat->Nat->By) (m c:Nat) (q:Nat) (hd:RowsOk rn rc m c):(ktI T rn rc m c q).Body Tryz.prog (sub (bodyOf Tryz.f406) [0,0,1,1,0,0,1,1,0,0,1,0,1,1,1,1,1,1,1,1]):=by
 refine LoopD.bodyH (root:=(bodyOf Tryz.f406)) [0,0,1,1,0,0,1,1,0,0,1,0,1,1,1,1,1,1,1,1] ftOk (ktU_ok T) (LTok.nil) 1000 ?_
 exact fun k hk=>Ho.of (ktIR T rn rc m c q k) (by kernel_rfl) (ktI_r T rn rc m c q k hd hk)
theorem ktD_r (T:TD) (rn:Nat->Nat) (rc:Nat->Nat->By) (m c:Nat) (q:Nat) (hd:RowsOk rn rc m c) (h:q<=m):ktDR T rn rc m c q:=by
 unfold ktDR
 obtain⟨hw,hn,hm,hmc,hc⟩:=hd
 have e1:∀m:Nat,m<=1000->IntKind.wrap IntKind.i64 (Int.ofNat m)=Int.ofNat m:=fun m h=>wrapI (by simp only[Int.ofNat_eq_natCast];omega) (by simp only[Int.ofNat_eq_natCast];omega)
 have sr:SubF (fun q=>AVal.famx (fun k=>AVal.by_ (rc q k)) (rn q)) (fun q=>AVal.famx (fun k=>AVal.by_ (rc q k)) (rn q)) m []:=fun _ _ _=>SubA.famx fun _ _=>byA
 have sn:SubF (fun q=>AVal.sp {k:=4,i:=q+hN T,j:=0} 0) (fun q=>AVal.sp {k:=4,i:=q+hN T,j:=0} 0) (T.R-hN T) []:=fun _ _ _=>pinA
 simp only[e1 (q+1) (by omega)]
 simp only[sj2,eq_self,implies_true,forall_eq,intE,intF,Nat.le_eq,sj1,leB_iff',sj0]
 repeat' (first|omega|exact trivial|exact rfl|exact sr|exact sn|exact fun _ _ _=>byA|(exfalso;simp_all;done)|refine⟨q+1,?_⟩|intro _|refine And.intro ?_ ?_)
theorem ktD_b (T:TD) (rn:Nat->Nat) (rc:Nat->Nat->By) (m c:Nat) (hd:RowsOk rn rc m c):(ktD T rn rc m c).Body Tryz.prog (sub (bodyOf Tryz.f406) [0,0,1,0,1,1,1,1,1,1,1,1]):=by
 refine LoopD.bodyHj (root:=(bodyOf Tryz.f406)) (LT:=fun q=>[([0,1,1,0,0,1,1,0,0,1,0,1,1,1,1,1,1,1,1],(ktI T rn rc m c q).at (0:Nat))]) [0,0,1,0,1,1,1,1,1,1,1,1] ftOk (ktU_ok T) (fun q hi=>LTok.cons (fun fr H K hk=>LoopD.ok (ktI_b T rn rc m c q hd) hk) (LTok.nil)) 1000 ?_
 exact fun q hq=>Ho.of (ktDR T rn rc m c q) (by kernel_rfl) (ktD_r T rn rc m c q hd hq)
theorem kt_r (T:TD) (hT:T.Ok/\allE (rn T) (rc T) (nR T)=false):ktR T:=by
 unfold ktR
 obtain⟨h1,h2⟩:=hT
 have h3:allE (rn T) (rc T) (T.R-hN T+1)=false:=h2
 have hp:=finR_pos h2
 obtain⟨hw,hn,hm,hmc,hc⟩:=finR_ok h1
 have sr:SubF (fun q=>AVal.famx (fun k=>AVal.by_ ((finR T).2.1 q k)) ((finR T).1 q)) (fun q=>AVal.famx (fun k=>AVal.by_ ((finR T).2.1 q k)) ((finR T).1 q)) (finR T).2.2.1 []:=fun _ _ _=>SubA.famx fun _ _=>byA
 have sn:SubF (fun q=>AVal.sp {k:=4,i:=q+hN T,j:=0} 0) (fun q=>AVal.sp {k:=4,i:=q+hN T,j:=0} 0) (T.R-hN T) []:=fun _ _ _=>pinA
 simp only[sj2,eq_self,implies_true,forall_eq,intE,intF,Nat.le_eq,sj1,leB_iff',sj0]
 repeat' (first|omega|exact h1|exact h3|exact trivial|exact rfl|exact sr|exact sn|exact fun _ _ _=>SubA.famx fun _ _=>byA|exact fun _ _=>SubA.famx fun _ _=>byA|exact fun _ _ _=>nlS_sub rfl|exact fun _ _=>nlS_sub rfl|(exfalso;simp_all;done)|intro _|refine And.intro ?_ ?_)
theorem kt_ok (T:TD):(ktS T).Body Tryz.prog 406/\(ktS T).BodyD Tryz.prog 406:=by
 refine genS_body (fn:=Tryz.f406) (b:=(bodyOf Tryz.f406)) (LT:=fun _=>[([0,1,0,1,1,1,1,1,1,1,1],(ktD T (finR T).1 (finR T).2.1 (finR T).2.2.1 (finR T).2.2.2).at (0:Nat))]) ftOk (ktU_ok T) 1000 (fun _ ha=>LTok.cons (fun fr H K hk=>LoopD.ok (ktD_b T (finR T).1 (finR T).2.1 (finR T).2.2.1 (finR T).2.2.2 (finR_ok ha.1)) hk) (LTok.nil)) (by kernel_rfl) (by kernel_rfl) ?_
 exact fun a ha=>Ho.of (ktR T) (by kernel_rfl) (kt_r T ha)
def rcDR (T:TD) (l:By) (i:Nat):Prop:=
 letI f:=Int.ofNat i;letI e:=List.length l;letI d:=domB T=domB T;letI c:=Int.ofNat e;letI b:=Value.int .i64 c;letI a:=decide (f<c);br a (gd a (gd (Nat.blt i e) (br (decide (Int.ofNat (UInt8.toNat (List.getD l i (0:UInt8)))≥Int.ofNat 128)) (gd (decide (f<=c)&&decide (c<=c)) False) (∃(j':Nat),Nat.le j' e/\e-j'<e-i/\d/\l=l/\b=b/\Value.int .i64 (IntKind.wrap .i64 (Int.ofNat (i+1)))=Value.int .i64 (Int.ofNat j')/\True)))) (∃(x:Unit),True/\d/\Value.int .i64 f=b/\True)
def rcR (T:TD) (l:By):Prop:=
 letI d:=List.length l;letI c:=domB T=domB T;letI b:=Value.int .i64 (Int.ofNat 0);letI a:=Value.int .i64 (Int.ofNat d);Nat.le 0 d/\(c/\l=l/\a=a/\b=b/\True)/\∀(x:Unit),True->∃(x:Nat),x=d/\c/\True/\True/\a=Value.int .i64 (Int.ofNat x)/\True
theorem rcU_ok (T:TD):TabOk Tryz.prog (rcU T):=by
 refine⟨fun f s h=>?_,fun f s h=>?_⟩
 ·unfold rcU at h
  simp only at h
  split at h
  ·cases h;exact noS_ok
  ·cases h
 ·cases h
theorem rcD_r (T:TD) (l:By) (i:Nat) (hd:(∀b∈l,b.toNat<128)/\l.length<=bufMax) (hi:i<=l.length):rcDR T l i:=by
 unfold rcDR
 obtain⟨h1,h2⟩:=hd
 simp only[bufMax] at h2
 have e1:i<l.length->IntKind.wrap IntKind.i64 (Int.ofNat (i+1))=Int.ofNat (i+1):=fun h=>by rw[wrapI (by simp only[Int.ofNat_eq_natCast];omega) (by simp only[Int.ofNat_eq_natCast];omega)]
 have hb:i<l.length->(l.getD i 0).toNat<128:=fun h=>h1 _ (getD_mem h)
 simp only[sj2,sj1,leB_iff',sj0]
 exact⟨fun g=>⟨g,g,fun e=>absurd (hb g) (by omega),fun _=>⟨i+1,Nat.succ_le_of_lt g,by omega,congrArg _ (e1 g)⟩⟩,fun g=>by rw[show i=l.length by omega]⟩
theorem rcD_b (T:TD) (l:By) (hd:(∀b∈l,b.toNat<128)/\l.length<=bufMax):(rcD T l).Body Tryz.prog (sub (bodyOf Tryz.f420) [0,0,0,1,1,1]):=by
 refine LoopD.bodyH (root:=(bodyOf Tryz.f420)) [0,0,0,1,1,1] ftOk (rcU_ok T) (LTok.nil) 1000 ?_
 exact fun i hi=>Ho.of (rcDR T l i) (by kernel_rfl) (rcD_r T l i hd hi)
theorem rc_r (T:TD) (l:By):rcR T l:=by
 unfold rcR
 try simp only[br_iff,gd_iff,Bool.and_eq_true,sj5,leB_iff,leB_iff',sj3,sj7]
 repeat' (first|done|omega|exact rfl|exact trivial|assumption|exact Nat.zero_le _|exact()|intro _|refine⟨?_,?_⟩)
theorem rc_fok:FunOk Tryz.prog 420:=⟨Tryz.f420,by kernel_rfl,rfl,by kernel_rfl⟩
theorem rc_ok (T:TD):(rcS T).Body Tryz.prog 420/\(rcS T).BodyD Tryz.prog 420:=by
 refine genS_body (fn:=Tryz.f420) (b:=(bodyOf Tryz.f420)) (LT:=fun l=>[([0,0,1,1,1],(rcD T l).at (0:Nat))]) ftOk (rcU_ok T) 1000 (fun l ha=>LTok.cons (fun fr H K hk=>LoopD.ok (rcD_b T l ha) hk) (LTok.nil)) (by kernel_rfl) (by kernel_rfl) ?_
 exact fun a ha=>Ho.of (rcR T a) (by kernel_rfl) (rc_r T a)
end Tk
