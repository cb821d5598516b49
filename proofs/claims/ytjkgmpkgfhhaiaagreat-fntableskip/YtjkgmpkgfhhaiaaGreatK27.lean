/- Lemmas of this claim; the last text says what is proved. -/
import Derived.Test.YtjkgmpkgfhhaiaaGreatK21
import Derived.Test.YtjkgmpkgfhhaiaaGreatK24
import Derived.Test.YtjkgmpkgfhhaiaaGreatK26
import Derived.Test.YtjkgmpkgfhhaiaaGreatK25
import Derived.Test.YtjkgmpkgfhhaiaaGreatK20
set_option linter.all false
set_option maxRecDepth 1000000
namespace Tk
open Go Go.Sx Go.Proofs
variable [Syms]
def lbR1 (T:TD) (i:Nat) (k:Nat):Prop:=
 letI m:=T.C i;letI n:=k+1;letI h:=domB T=domB T;letI g:=Value.bool false;letI f:=AVal.lit g;letI e:=g=g;letI d:=fun(j:Nat)=>[AVal.sp (SId.mk 5 i j) 0,f,f,AVal.ptr 0 0,AVal.ptr 1 0];letI c:=PinF 2 d;letI b:=d=d;letI a:=b/\c/\gd (Nat.beq i i&&Nat.beq k k&&true) (e/\e/\True);br (Nat.blt k m) (br (Nat.blt n m) (∃(j':Nat),Nat.le j' m/\m-j'<m-k/\h/\e/\e/\br (Nat.blt j' m) (gd (Nat.beq i i&&Nat.beq n j'&&true) (j'=n/\a)) False) (∃(j':Nat),Nat.le j' m/\m-j'<m-k/\h/\e/\e/\br (Nat.blt j' m) False (j'=n/\a))) (∃(x:Unit),True/\h/\k=m/\b/\c/\True)
def lbR2 (T:TD) (i:Nat):Prop:=
 letI d:=domB T=domB T;letI c:=Value.bool false;letI b:=c=c;letI a:=AHeap.mk (Tr.node (some (ABlk.row [AVal.top] 115 (ATot.n 1))) (Tr.node (some (ABlk.row [AVal.fn (Fn.func 272) [] [AVal.ptr 0 0,AVal.ptr 1 0]] 346 (ATot.n 1))) Tr.nil Tr.nil) Tr.nil) 2 [] [0,1] (domB T);Nat.le 0 (T.C i)/\(d/\b/\b/\br (Nat.blt 0 (T.C i)) (gd (Nat.beq i i&&true&&true) (0=0/\True)) False)/\∀(x:Unit),True->(∀(k:Nat),k<T.C i->d/\True/\gd (Nat.beq i i&&Nat.beq k k&&true) (b/\b/\∀(x:Unit),True->a=a))/\∃(x:Unit),True/\d/\True/\True/\True
def lbR3 (T:TD) (k:Nat):Prop:=
 letI m:=k+1;letI h:=domB T=domB T;letI g:=Value.bool false;letI f:=AVal.lit g;letI e:=g=g;letI d:=fun(j:Nat)=>[AVal.sp (SId.mk 4 j 0) 0,f,f,AVal.ptr 0 0,AVal.ptr 1 0];letI c:=PinF 2 d;letI b:=d=d;letI a:=b/\c/\gd (Nat.beq k k&&true&&true) (e/\e/\True);br (Nat.blt k T.R) (br (Nat.blt m T.R) (∃(j':Nat),Nat.le j' T.R/\T.R-j'<T.R-k/\h/\e/\e/\br (Nat.blt j' T.R) (gd (Nat.beq m j'&&true&&true) (j'=m/\a)) False) (∃(j':Nat),Nat.le j' T.R/\T.R-j'<T.R-k/\h/\e/\e/\br (Nat.blt j' T.R) False (j'=m/\a))) (∃(x:Unit),True/\h/\k=T.R/\b/\c/\True)
def lbR4 (T:TD):Prop:=
 letI d:=domB T=domB T;letI c:=Value.bool false;letI b:=c=c;letI a:=AHeap.mk (Tr.node (some (ABlk.row [AVal.top] 115 (ATot.n 1))) (Tr.node (some (ABlk.row [AVal.fn (Fn.func 272) [] [AVal.ptr 0 0,AVal.ptr 1 0]] 346 (ATot.n 1))) Tr.nil Tr.nil) Tr.nil) 2 [] [0,1] (domB T);Nat.le 0 T.R/\(d/\b/\b/\br (Nat.blt 0 T.R) (0=0/\True) False)/\∀(x:Unit),True->(∀(k:Nat),k<T.R->d/\Nat.le 1 (T.C k)/\gd (Nat.beq k k&&true&&true) (b/\b/\∀(x:Unit),True->a=a))/\∃(x:Unit),True/\d/\True/\True/\True
def lbR5 (T:TD):Prop:=
 letI c:=domB T=domB T;letI b:=Value.bool false;letI a:=b=b;c/\TD.Ok T/\a/\a/\∀(x:Unit),True->∃(x:Unit),True/\c/\True/\True/\True
theorem lb_pin (f:Nat->SId):PinF 2 (fun j=>lbArgs (.sp (f j) 0)):=fun k=>.cons pinA (.cons (nlS_sub rfl) (.cons (nlS_sub rfl) (.cons (SubA.ptr (by omega)) (.cons (SubA.ptr (by omega)) .nil))))
theorem lb_r1 (T:TD) (i k:Nat) (h:k<=T.C i):lbR1 T i k:=by
 unfold lbR1
 try simp only[sj6,sj3,imp_self]
 have hp:=lb_pin (fun j=>⟨5,i,j⟩)
 repeat' (first|done|omega|exact rfl|exact hp|exact trivial|intro _|refine⟨k+1,?_⟩|refine⟨?_,?_⟩)
theorem lb_r2 (T:TD) (i:Nat) (h:0<T.C i):lbR2 T i:=by
 unfold lbR2
 try simp only[sj6,sj3,imp_self,Nat.zero_le,h]
 repeat' (first|done|omega|exact rfl|exact trivial|intro _|refine⟨?_,?_⟩)
theorem lb_r3 (T:TD) (hT:T.Ok) (k:Nat) (h:k<=T.R):lbR3 T k:=by
 have hC:=hT.2 k
 unfold lbR3
 try simp only[sj6,sj3,imp_self]
 have hp:=lb_pin (fun j=>⟨4,j,0⟩)
 repeat' (first|done|omega|exact rfl|exact hp|exact trivial|intro _|refine⟨k+1,?_⟩|refine⟨?_,?_⟩)
theorem lb_r4 (T:TD) (hT:T.Ok):lbR4 T:=by
 have hR:=hT.1
 unfold lbR4
 try simp only[sj6,sj3,imp_self,Nat.zero_le,hR]
 repeat' (first|done|omega|exact rfl|exact trivial|exact fun k hk=>hT.2 k hk|intro _|refine⟨?_,?_⟩)
theorem lb_r5 (T:TD) (hT:T.Ok):lbR5 T:=by
 have hR:=hT.1
 unfold lbR5
 try simp only[sj6,sj3,imp_self,Nat.zero_le,hR]
 repeat' (first|done|omega|exact rfl|exact trivial|exact hT|assumption|intro _|refine⟨?_,?_⟩)
theorem lb_fok:FunOk Tryz.prog 272:=⟨Tryz.f272,by kernel_rfl,rfl,by kernel_rfl⟩
theorem lb_td (T:TD):(lbTd T).Body Tryz.prog 272/\(lbTd T).BodyD Tryz.prog 272:=by
 refine genS_body (fn:=Tryz.f272) (b:=bodyOf Tryz.f272) (LT:=fun _=>[]) ftOk nofOk 1000 (fun _ _=>LTok.nil) (by kernel_rfl) (by kernel_rfl) ?_
 exact fun a _=>Ho.of (rmR0 T a.1 a.2) (by kernel_rfl) (rm_r0 T a.1 a.2)
theorem lbTabs1_ok (T:TD):TabOk Tryz.prog (lbTabs1 T):=by
 refine⟨fun f s h=>(by cases h),fun f s h=>?_⟩
 unfold lbTabs1 at h
 simp only at h
 split at h
 ·cases h;exact genS_okD lb_fok (lb_td T).2
 ·cases h
theorem lb_trD (T:TD) (i:Nat):(lbTrD T i).Body Tryz.prog (sub (bodyOf Tryz.f272) [0,0,1,1,1,1,1,1]):=
 LoopD.bodyH (root:=bodyOf Tryz.f272) [0,0,1,1,1,1,1,1] ftOk (lbTabs1_ok T) LTok.nil 1000 (fun k hk=>Ho.of (lbR1 T i k) (by kernel_rfl) (lb_r1 T i k hk))
theorem lb_tr (T:TD):(lbTr T).Body Tryz.prog 272/\(lbTr T).BodyD Tryz.prog 272:=by
 refine genS_body (fn:=Tryz.f272) (b:=bodyOf Tryz.f272) (LT:=fun i=>[([0,1,1,1,1,1,1],(lbTrD T i).at (0:Nat))]) ftOk (lbTabs1_ok T) 1000 (fun i _=>LTok.cons (fun fr H K hk=>LoopD.ok (lb_trD T i) hk) LTok.nil) (by kernel_rfl) (by kernel_rfl) ?_
 exact fun i hi=>Ho.of (lbR2 T i) (by kernel_rfl) (lb_r2 T i hi)
theorem lbTabs2_ok (T:TD):TabOk Tryz.prog (lbTabs2 T):=by
 refine⟨fun f s h=>(by cases h),fun f s h=>?_⟩
 unfold lbTabs2 at h
 simp only at h
 split at h
 ·cases h;exact genS_okD lb_fok (lb_tr T).2
 ·cases h
theorem lb_tbD (T:TD) (hT:T.Ok):(lbTbD T).Body Tryz.prog (sub (bodyOf Tryz.f272) [0,0,1,1,1,1,1,1]):=
 LoopD.bodyH (root:=bodyOf Tryz.f272) [0,0,1,1,1,1,1,1] ftOk (lbTabs2_ok T) LTok.nil 1000 (fun k hk=>Ho.of (lbR3 T k) (by kernel_rfl) (lb_r3 T hT k hk))
theorem lb_tb (T:TD):(lbTb T).Body Tryz.prog 272/\(lbTb T).BodyD Tryz.prog 272:=by
 refine genS_body (fn:=Tryz.f272) (b:=bodyOf Tryz.f272) (LT:=fun _=>[([0,1,1,1,1,1,1],(lbTbD T).at (0:Nat))]) ftOk (lbTabs2_ok T) 1000 (fun _ hT=>LTok.cons (fun fr H K hk=>LoopD.ok (lb_tbD T hT) hk) LTok.nil) (by kernel_rfl) (by kernel_rfl) ?_
 exact fun _ hT=>Ho.of (lbR4 T) (by kernel_rfl) (lb_r4 T hT)
theorem lbTabs3_ok (T:TD):TabOk Tryz.prog (lbTabs3 T):=by
 refine⟨fun f s h=>(by cases h),fun f s h=>?_⟩
 unfold lbTabs3 at h
 simp only at h
 split at h
 ·cases h;exact genS_okD lb_fok (lb_tb T).2
 ·cases h
theorem lb_tl (T:TD):(lbTl T).Body Tryz.prog 272/\(lbTl T).BodyD Tryz.prog 272:=by
 refine genS_body (fn:=Tryz.f272) (b:=bodyOf Tryz.f272) (LT:=fun _=>[]) ftOk (lbTabs3_ok T) 1000 (fun _ _=>LTok.nil) (by kernel_rfl) (by kernel_rfl) ?_
 exact fun _ hT=>Ho.of (lbR5 T) (by kernel_rfl) (lb_r5 T hT)
theorem lbTabs4_ok (T:TD):TabOk Tryz.prog (lbTabs4 T):=by
 refine⟨fun f s h=>(by cases h),fun f s h=>?_⟩
 unfold lbTabs4 at h
 simp only at h
 split at h
 ·cases h;exact genS_okD lb_fok (lb_tl T).2
 ·cases h
theorem lb_to (T:TD):(lbTo T).Body Tryz.prog 272/\(lbTo T).BodyD Tryz.prog 272:=by
 refine genS_body (fn:=Tryz.f272) (b:=bodyOf Tryz.f272) (LT:=fun _=>[]) ftOk (lbTabs4_ok T) 1000 (fun _ _=>LTok.nil) (by kernel_rfl) (by kernel_rfl) ?_
 exact fun _ hT=>Ho.of (lbR5 T) (by kernel_rfl) (lb_r5 T hT)
theorem lbTabs5_ok (T:TD):TabOk Tryz.prog (lbTabs5 T):=by
 refine⟨fun f s h=>(by cases h),fun f s h=>?_⟩
 unfold lbTabs5 at h
 simp only at h
 split at h
 ·cases h;exact genS_okD lb_fok (lb_to T).2
 ·cases h
theorem ml_fok:FunOk Tryz.prog 223:=⟨Tryz.f223,by kernel_rfl,rfl,by kernel_rfl⟩
theorem ml_td (T:TD):(mlTd T).Body Tryz.prog 223/\(mlTd T).BodyD Tryz.prog 223:=by
 refine genS_body (fn:=Tryz.f223) (b:=bodyOf Tryz.f223) (LT:=fun _=>[]) ftOk nofOk 1000 (fun _ _=>LTok.nil) (by kernel_rfl) (by kernel_rfl) ?_
 exact fun a _=>Ho.of (sbR0 T a.1 a.2) (by kernel_rfl) (sb_r0 T a.1 a.2)
theorem mlTabs1_ok (T:TD):TabOk Tryz.prog (mlTabs1 T):=by
 refine⟨fun f s h=>?_,fun f s h=>(by cases h)⟩
 unfold mlTabs1 at h
 simp only at h
 split at h
 ·cases h;exact genS_ok ml_fok (ml_td T).1
 ·cases h
theorem ml_trD (T:TD) (i:Nat):(mlTrD T i).Body Tryz.prog (sub (bodyOf Tryz.f223) [0,0,1,1]):=
 LoopD.bodyH (root:=bodyOf Tryz.f223) [0,0,1,1] ftOk (mlTabs1_ok T) LTok.nil 1000 (fun k hk=>Ho.of (fsR1 T i k) (by kernel_rfl) (fs_r1 T i k hk))
theorem ml_tr (T:TD):(mlTr T).Body Tryz.prog 223/\(mlTr T).BodyD Tryz.prog 223:=by
 refine genS_body (fn:=Tryz.f223) (b:=bodyOf Tryz.f223) (LT:=fun i=>[([0,1,1],(mlTrD T i).at (0:Nat))]) ftOk (mlTabs1_ok T) 1000 (fun i _=>LTok.cons (fun fr H K hk=>LoopD.ok (ml_trD T i) hk) LTok.nil) (by kernel_rfl) (by kernel_rfl) ?_
 exact fun i hi=>Ho.of (mtR2 T i) (by kernel_rfl) (mt_r2 T i hi)
theorem mlTabs2_ok (T:TD):TabOk Tryz.prog (mlTabs2 T):=by
 refine⟨fun f s h=>?_,fun f s h=>(by cases h)⟩
 unfold mlTabs2 at h
 simp only at h
 split at h
 ·cases h;exact genS_ok ml_fok (ml_tr T).1
 ·cases h
theorem ml_tbD (T:TD) (hT:T.Ok):(mlTbD T).Body Tryz.prog (sub (bodyOf Tryz.f223) [0,0,1,1]):=
 LoopD.bodyH (root:=bodyOf Tryz.f223) [0,0,1,1] ftOk (mlTabs2_ok T) LTok.nil 1000 (fun k hk=>Ho.of (fsR3 T k) (by kernel_rfl) (fs_r3 T hT k hk))
theorem ml_tb (T:TD):(mlTb T).Body Tryz.prog 223/\(mlTb T).BodyD Tryz.prog 223:=by
 refine genS_body (fn:=Tryz.f223) (b:=bodyOf Tryz.f223) (LT:=fun _=>[([0,1,1],(mlTbD T).at (0:Nat))]) ftOk (mlTabs2_ok T) 1000 (fun _ hT=>LTok.cons (fun fr H K hk=>LoopD.ok (ml_tbD T hT) hk) LTok.nil) (by kernel_rfl) (by kernel_rfl) ?_
 exact fun _ hT=>Ho.of (mtR4 T) (by kernel_rfl) (mt_r4 T hT)
theorem mlTabs3_ok (T:TD):TabOk Tryz.prog (mlTabs3 T):=by
 refine⟨fun f s h=>?_,fun f s h=>(by cases h)⟩
 unfold mlTabs3 at h
 simp only at h
 split at h
 ·cases h;exact genS_ok ml_fok (ml_tb T).1
 ·cases h
theorem ml_tl (T:TD):(mlTl T).Body Tryz.prog 223/\(mlTl T).BodyD Tryz.prog 223:=by
 refine genS_body (fn:=Tryz.f223) (b:=bodyOf Tryz.f223) (LT:=fun _=>[]) ftOk (mlTabs3_ok T) 1000 (fun _ _=>LTok.nil) (by kernel_rfl) (by kernel_rfl) ?_
 exact fun _ hT=>Ho.of (rmR5 T) (by kernel_rfl) (rm_r5 T hT)
theorem mlTabs4_ok (T:TD):TabOk Tryz.prog (mlTabs4 T):=by
 refine⟨fun f s h=>?_,fun f s h=>(by cases h)⟩
 unfold mlTabs4 at h
 simp only at h
 split at h
 ·cases h;exact genS_ok ml_fok (ml_tl T).1
 ·cases h
theorem ml_to (T:TD):(mlTo T).Body Tryz.prog 223/\(mlTo T).BodyD Tryz.prog 223:=by
 refine genS_body (fn:=Tryz.f223) (b:=bodyOf Tryz.f223) (LT:=fun _=>[]) ftOk (mlTabs4_ok T) 1000 (fun _ _=>LTok.nil) (by kernel_rfl) (by kernel_rfl) ?_
 exact fun _ hT=>Ho.of (rmR5 T) (by kernel_rfl) (rm_r5 T hT)
theorem mlTabs5_ok (T:TD):TabOk Tryz.prog (mlTabs5 T):=by
 refine⟨fun f s h=>?_,fun f s h=>(by cases h)⟩
 unfold mlTabs5 at h
 simp only at h
 split at h
 ·cases h;exact genS_ok ml_fok (ml_to T).1
 ·cases h
def kcR (T:TD):Prop:=
 letI d:=TD.Ok T;letI c:=domB T=domB T;letI b:=Value.bool false;letI a:=b=b;c/\d/\∀(x:Unit),True->c/\d/\∀(x:Unit),True->c/\True/\∀(x:Unit),True->c/\True/\∀(x:Unit),True->c/\d/\∀(x:Unit),True->c/\True/\∀(x:Unit),True->c/\True/\∀(x:Unit),True->c/\d/\∀(x:Unit),True->c/\d/\∀(x:Unit),True->c/\d/\∀(x:Unit),True->c/\d/\a/\a/\∀(x:Unit),True->c/\d/\∀(x:Unit),True->∃(x:Unit),True/\c/\True/\True/\True
theorem kcU_ok (T:TD) (hT:T.Ok):TabOk Tryz.prog (kcU T):=by
 refine⟨fun f s h=>?_,fun f s h=>(by cases h)⟩
 unfold kcU at h
 simp only at h
 split at h
 ·cases h;exact genS_ok fs_fok (fs_to T).1
 ·cases h;exact orS_ok (genS_ok rr_fok (rr_ok T hT).1) (genS_ok rr_fok (rs_ok T hT).1)
 ·cases h;exact orS_ok (genS_ok ma_fok (ma_ok T hT).1) (genS_ok ma_fok (mb_ok T hT).1)
 ·cases h;exact genS_ok re_fok (re_ok T hT).1
 ·cases h;exact orS_ok (genS_ok wc_fok (wc_ok T hT).1) (orS_ok (genS_ok wc_fok (wb_ok T hT).1) (genS_ok wc_fok (wl_ok T hT).1))
 ·cases h;exact genS_ok as_fok (as_ok T hT).1
 ·cases h;exact genS_ok lb_fok (lb_to T).1
 ·cases h;exact genS_ok ml_fok (ml_to T).1
 ·cases h
theorem kc_r (T:TD) (hT:T.Ok):kcR T:=by
 unfold kcR
 try simp only[br_iff,gd_iff,Bool.and_eq_true,sj5,leB_iff,sj3,sj7]
 repeat' (first|done|omega|exact rfl|exact trivial|assumption|exact()|intro _|refine⟨?_,?_⟩)
theorem kc_fok:FunOk Tryz.prog 187:=⟨Tryz.f187,by kernel_rfl,rfl,by kernel_rfl⟩
theorem kc_ok (T:TD) (hT:T.Ok):(hrS T).Body Tryz.prog 187/\(hrS T).BodyD Tryz.prog 187:=by
 refine genS_body (fn:=Tryz.f187) (b:=(bodyOf Tryz.f187)) (LT:=fun _=>[]) ftOk (kcU_ok T hT) 1000 (fun a ha=>LTok.nil) (by kernel_rfl) (by kernel_rfl) ?_
 exact fun a ha=>Ho.of (kcR T) (by kernel_rfl) (kc_r T ha)
theorem kcTabs_ok (T:TD) (hT:T.Ok):TabOk Tryz.prog (kcTabs T):=by
 refine⟨fun f s h=>?_,fun f s h=>(by cases h)⟩
 unfold kcTabs at h
 simp only at h
 split at h
 ·cases h;exact genS_ok kc_fok (kc_ok T hT).1
 ·cases h
def rwDRf (T:TD) (l:List UInt8) (k:Nat):Prop:=
 letI p:=List.length l;letI q:=Int.negSucc 0;letI n:=l=l/\True;letI m:=domB T=domB T;letI h:=p-k;letI g:=Value.int .i64 (Int.ofNat 0);letI f:=Value.int .i64 q;letI e:=decide (Int.ofNat k<Int.ofNat p);letI d:=Int.ofNat (UInt8.toNat (List.getD l k (0:UInt8)));letI c:=Value.int .i64 (IntKind.wrap .i64 (Int.ofNat (k+1)));letI b:=g=g;letI a:=∃(j':Nat×Bool),(j'.fst<=p/\j'.snd=blankAt l j'.fst)/\p-j'.fst<h/\m/\b/\Value.int .i64 (Int.ofNat k)=Value.int .i64 (bif j'.snd then Int.ofNat (j'.fst-1) else q)/\c=Value.int .i64 (Int.ofNat j'.fst)/\n;br e (gd e (br (d==Int.ofNat 32) a (gd e (br (d==Int.ofNat 13) a (gd e (br (d==Int.ofNat 10) a (gd e (br (d==Int.ofNat 9) a (∃(j':Nat×Bool),(j'.fst<=p/\j'.snd=blankAt l j'.fst)/\p-j'.fst<h/\m/\b/\f=Value.int .i64 (bif j'.snd then Int.ofNat (j'.fst-1) else q)/\c=Value.int .i64 (Int.ofNat j'.fst)/\n))))))))) (∃(x:Unit),True/\m/\b/\f=f/\n)
def rwDRt (T:TD) (l:List UInt8) (k:Nat):Prop:=
 letI b1:=Nat×Bool;letI c1:=Int.ofNat k;letI z:=List.length l;letI a1:=Int.negSucc 0;letI y:=l=l/\True;letI w:=domB T=domB T;letI v:=Int.ofNat (k+1);letI u:=z-(k+1);letI s:=Int.ofNat z;letI t:=Int.ofNat 281474976710656;letI r:=List.drop 0 (List.take k l);letI p:=Value.int .i64 (Int.ofNat 0);letI q:=Value.int .i64 c1;letI n:=Value.int .i64 a1;letI m:=0+List.length r;letI h:=decide (v<s);letI g:=Int.ofNat (UInt8.toNat (List.getD l (k+1) (0:UInt8)));letI f:=Value.int .i64 (IntKind.wrap .i64 (Int.ofNat (k+1+1)));letI e:=p=p;letI d:=Nat.ble m 140737488355328;letI c:=∃(j':b1),(j'.fst<=z/\j'.snd=blankAt l j'.fst)/\z-j'.fst<u/\w/\e/\q=Value.int .i64 (bif j'.snd then Int.ofNat (j'.fst-1) else a1)/\f=Value.int .i64 (Int.ofNat j'.fst)/\y;letI b:=gd (Nat.ble m (List.length ([]++r))&&(Nat.ble (m+1) 140737488355328&&true)) (∃(j':b1),(j'.fst<=z/\j'.snd=blankAt l j'.fst)/\z-j'.fst<u/\w/\Value.int .i64 v=p/\n=Value.int .i64 (bif j'.snd then Int.ofNat (j'.fst-1) else a1)/\f=Value.int .i64 (Int.ofNat j'.fst)/\l=l/\False);letI a:=gd (decide (s<=t)&&(decide (Int.ofNat (1*z)<=t)&&true)) (gd (decide (c1<=s)) (br (Nat.blt z m) (gd d b) (gd (Nat.ble (z*1) z&&Nat.blt z 9223372036854775808&&(d&&true)) b)));br h (gd h (br (g==Int.ofNat 32) c (gd h (br (g==Int.ofNat 13) c (gd h (br (g==Int.ofNat 10) c (gd h (br (g==Int.ofNat 9) c (br (IntKind.wrap .i64 (v-c1)==Int.ofNat 1) (gd (decide (c1<s)) (br (Int.ofNat (UInt8.toNat (List.getD l k (0:UInt8)))==Int.ofNat 32) (∃(j':b1),(j'.fst<=z/\j'.snd=blankAt l j'.fst)/\z-j'.fst<u/\w/\e/\n=Value.int .i64 (bif j'.snd then Int.ofNat (j'.fst-1) else a1)/\f=Value.int .i64 (Int.ofNat j'.fst)/\y) a)) a))))))))) (∃(x:Unit),True/\w/\e/\q=n/\y)
def rwR (T:TD) (l:List UInt8):Prop:=
 letI e:=domB T=domB T;letI d:=Value.int .i64 (Int.ofNat 0);letI c:=Value.int .i64 (Int.negSucc 0);letI b:=d=d;letI a:=∃(x:List UInt8),x=l/\e/\True/\True/\l=x/\True;br (eqL l []) a ((0<=List.length l/\false=blankAt l 0)/\(e/\b/\c=c/\b/\l=l/\True)/\∀(x:Unit),True->a)
theorem rwD_rf (T:TD) (l:List UInt8) (k:Nat) (hw:Words l) (hl:l.length<=2147483647) (hk:k<=l.length) (hb:false=blankAt l k):rwDRf T l k:=by
 unfold rwDRf
 simp only[wrapS1,br_iff,gd_iff,ltI,ltI',leI,leI',eqI,eqI',Bool.and_eq_true,and_true,true_and,implies_true,forall_const,exists_const,exists_eq_left]
 have hc:k<l.length->_:=fun h=>hw.at h
 try simp only[Nat.add_sub_cancel] at hc
 repeat' (first|done|omega|exact rfl|exact trivial|exact absurd trivial (by assumption)|exact()|exact blankT (by omega)|exact blankF (by omega)|(rw[wrapN (by omega)];first|done|rfl)|(intro h;try have hc:=hc (by omega))|(have:(l.getD k 0).toNat=32:=(by omega);refine⟨(k+1,true),?_⟩)|refine⟨(k+1,false),?_⟩|refine And.intro ?_ ?_)
theorem rwD_rt (T:TD) (l:List UInt8) (k:Nat) (hw:Words l) (hl:l.length<=2147483647) (hk:k+1<=l.length) (hb:true=blankAt l (k+1)):rwDRt T l k:=by
 unfold rwDRt
 have hb:=blank_out hb
 have hc0:=hw.at (i:=k) (by omega)
 simp only[wrapS1,br_iff,gd_iff,ltI,ltI',leI,leI',eqI,eqI',Bool.and_eq_true,and_true,true_and,implies_true,forall_const,exists_const,exists_eq_left]
 have hc:(k+1)<l.length->_:=fun h=>hw.at h
 try simp only[Nat.add_sub_cancel] at hc
 repeat' (first|done|omega|exact rfl|exact trivial|exact absurd trivial (by assumption)|exact()|exact blankT (by omega)|exact blankF (by omega)|(rw[wrapN (by omega)];first|done|rfl)|(intro h;try have hc:=hc (by omega))|(have:(l.getD (k+1) 0).toNat=32:=(by omega);refine⟨((k+1)+1,true),?_⟩)|refine⟨((k+1)+1,false),?_⟩|refine And.intro ?_ ?_)
theorem rwD_b (T:TD) (l:List UInt8) (hw:Words l) (hl:l.length<=2147483647):(rwD T l).Body Tryz.prog (sub (bodyOf Tryz.f157) [0,0,1,0,1,1,1,1,1,1]):=by
 refine LoopD.bodyH (root:=(bodyOf Tryz.f157)) [0,0,1,0,1,1,1,1,1,1] ftOk (nofOk) LTok.nil 1000 ?_
 rintro⟨k,b⟩ ⟨hk,hb⟩
 cases b with
 |false=>exact Ho.of (rwDRf T l k) (by kernel_rfl) (rwD_rf T l k hw hl hk hb)
 |true=>
  cases k with
  |zero=>cases hb
  |succ k=>exact Ho.of (rwDRt T l k) (by kernel_rfl) (rwD_rt T l k hw hl hk hb)
theorem rw_r (T:TD) (l:List UInt8):rwR T l:=by
 unfold rwR
 unfold eqL
 try simp only[br_iff,gd_iff,Bool.and_eq_true,sj5,leB_iff,sj3,sj7]
 repeat' (first|done|omega|exact rfl|exact trivial|assumption|exact()|intro _|refine⟨?_,?_⟩)
theorem rw_fok:FunOk Tryz.prog 157:=⟨Tryz.f157,by kernel_rfl,rfl,by kernel_rfl⟩
theorem rw_ok (T:TD):(rwS T).Body Tryz.prog 157/\(rwS T).BodyD Tryz.prog 157:=by
 refine genS_body (fn:=Tryz.f157) (b:=(bodyOf Tryz.f157)) (LT:=fun l=>[([0,1,0,1,1,1,1,1,1],(rwD T l).at ((0:Nat),false))]) ftOk (nofOk) 1000 (fun l ha=>LTok.cons (fun fr H K hk=>LoopD.ok (rwD_b T l ha.1 ha.2) hk) (LTok.nil)) (by kernel_rfl) (by kernel_rfl) ?_
 exact fun a ha=>Ho.of (rwR T a) (by kernel_rfl) (rw_r T a)
theorem rwTabs_ok (T:TD):TabOk Tryz.prog (rwTabs T):=by
 refine⟨fun f s h=>?_,fun f s h=>(by cases h)⟩
 unfold rwTabs at h
 simp only at h
 split at h
 ·cases h;exact genS_ok rw_fok (rw_ok T).1
 ·cases h
def hsR (T:TD) (l:List UInt8):Prop:=
 letI d:=domB T=domB T;letI c:=Value.bool false;letI b:=Int.ofNat (List.length l);letI a:=IntKind.wrap .i64 (b-Int.ofNat 1);br (decide (b≥Int.ofNat 1)) (gd (decide (Int.ofNat 0<=a)&&(decide (a<=b)&&decide (b<=b))) (∃(x:List UInt8),x=l/\d/\True/\True/\Value.bool (eqL (List.drop (Int.toNat a) l) [(32:UInt8)])=c/\True)) (∃(x:List UInt8),x=l/\d/\True/\True/\c=c/\True)
theorem hs_r (T:TD) (l:List UInt8) (h:Words l/\l≠[]/\l.length<=2147483647):hsR T l:=by
 unfold hsR
 obtain⟨hw,hn,hl⟩:=h
 have hp:0<l.length:=List.length_pos_iff.2 hn
 have he:=hw.end hp
 have hs:=wrapS (a:=l.length) (b:=1) hp (by omega)
 have ht:Int.toNat (Int.ofNat (l.length-1))=l.length-1:=rfl
 simp only[hs,ht,he,br_iff,gd_iff,Bool.and_eq_true,geI,geI',leI,exists_eq_left,and_true,true_and,Bool.false_eq_true]
 repeat' (first|done|omega|exact rfl|exact trivial|contradiction|exact⟨_,rfl⟩|intro _|refine And.intro ?_ ?_)
theorem hs_fok:FunOk Tryz.prog 158:=⟨Tryz.f158,by kernel_rfl,rfl,by kernel_rfl⟩
theorem hs_ok (T:TD):(hsS T).Body Tryz.prog 158/\(hsS T).BodyD Tryz.prog 158:=by
 refine genS_body (fn:=Tryz.f158) (b:=(bodyOf Tryz.f158)) (LT:=fun l=>[]) ftOk (nofOk) 1000 (fun l ha=>LTok.nil) (by kernel_rfl) (by kernel_rfl) ?_
 exact fun a ha=>Ho.of (hsR T a) (by kernel_rfl) (hs_r T a ha)
theorem hsTabs_ok (T:TD):TabOk Tryz.prog (hsTabs T):=by
 refine⟨fun f s h=>?_,fun f s h=>(by cases h)⟩
 unfold hsTabs at h
 simp only at h
 split at h
 ·cases h;exact genS_ok hs_fok (hs_ok T).1
 ·cases h
def tsR (T:TD) (l:List UInt8):Prop:=
 letI g:=domB T=domB T;letI f:=Int.ofNat (List.length l);letI e:=IntKind.wrap .i64 (f-Int.ofNat 1);letI d:=Int.toNat e;letI b:=decide (Int.ofNat 0<=e);letI c:=∃(x:List UInt8),x=l/\g/\True/\True/\l=x/\True;letI a:=decide (e<=f);br (decide (f≥Int.ofNat 1)) (gd (b&&(a&&decide (f<=f))) (br (eqL (List.drop d l) [(32:UInt8)]) (gd (b&&a) (∃(x:List UInt8),x=l/\g/\True/\True/\List.take d l=x/\True)) c)) c
theorem ts_r (T:TD) (l:List UInt8) (h:Words l/\l≠[]/\l.length<=2147483647):tsR T l:=by
 unfold tsR
 obtain⟨hw,hn,hl⟩:=h
 have hp:0<l.length:=List.length_pos_iff.2 hn
 have he:=hw.end hp
 have hs:=wrapS (a:=l.length) (b:=1) hp (by omega)
 have ht:Int.toNat (Int.ofNat (l.length-1))=l.length-1:=rfl
 simp only[hs,ht,he,br_iff,gd_iff,Bool.and_eq_true,geI,geI',leI,exists_eq_left,and_true,true_and,Bool.false_eq_true]
 repeat' (first|done|omega|exact rfl|exact trivial|contradiction|exact⟨_,rfl⟩|intro _|refine And.intro ?_ ?_)
theorem ts_fok:FunOk Tryz.prog 160:=⟨Tryz.f160,by kernel_rfl,rfl,by kernel_rfl⟩
theorem ts_ok (T:TD):(tsS T).Body Tryz.prog 160/\(tsS T).BodyD Tryz.prog 160:=by
 refine genS_body (fn:=Tryz.f160) (b:=(bodyOf Tryz.f160)) (LT:=fun l=>[]) ftOk (nofOk) 1000 (fun l ha=>LTok.nil) (by kernel_rfl) (by kernel_rfl) ?_
 exact fun a ha=>Ho.of (tsR T a) (by kernel_rfl) (ts_r T a ha)
theorem tsTabs_ok (T:TD):TabOk Tryz.prog (tsTabs T):=by
 refine⟨fun f s h=>?_,fun f s h=>(by cases h)⟩
 unfold tsTabs at h
 simp only at h
 split at h
 ·cases h;exact genS_ok ts_fok (ts_ok T).1
 ·cases h
end Tk
