/- Lemmas of this claim; the last text says what is proved. -/
import Derived.Test.YtjkgmpkgfhhaiaaGreatK20
set_option linter.all false
set_option maxRecDepth 1000000
namespace Tk
open Go Go.Sx Go.Proofs
open Q
variable [Syms]
def gpR (T:TD):Prop:=
 letI e:=True/\True;letI c:=Value.int .i64 (Int.ofNat 100);letI d:=Value.int .i64 (Int.ofNat 500);letI a:=Value.int .i64 (Int.ofNat 1000);letI b:=Value.int .i64 (Int.ofNat 1100);∃(x:Unit),True/\domB T=domB T/\True/\(e/\True/\e/\True/\e/\True/\e/\True)/\4=4/\c=c/\d=d/\a=a/\b=b/\True
theorem gp_r (T:TD):gpR T:=by
 unfold gpR
 try simp only[br_iff,gd_iff,Bool.and_eq_true,sj5,leB_iff,leB_iff',sj3,sj7]
 repeat' (first|done|omega|exact rfl|exact trivial|assumption|exact()|intro _|refine⟨?_,?_⟩)
theorem gp_fok:FunOk Tryz.prog 50:=⟨Tryz.f50,by kernel_rfl,rfl,by kernel_rfl⟩
theorem gp_ok (T:TD):(gpS T).Body Tryz.prog 50/\(gpS T).BodyD Tryz.prog 50:=by
 refine genS_body (fn:=Tryz.f50) (b:=(bodyOf Tryz.f50)) (LT:=fun _=>[]) ftOk (sortU_ok) 1000 (fun a ha=>LTok.nil) (by kernel_rfl) (by kernel_rfl) ?_
 exact fun a ha=>Ho.of (gpR T) (by kernel_rfl) (gp_r T)
def goR (T:TD):Prop:=
 letI p:=True/\True;letI n:=Value.bool false;letI m:=[(42:UInt8),42];letI k:=[(96:UInt8),96,96];letI h:=[(97:UInt8),116,120];letI e:=Value.int .i64 (Int.ofNat 500);letI f:=Value.int .i64 (Int.ofNat 520);letI g:=[(42:UInt8),32,42,32,42];letI d:=Value.int .i64 (Int.ofNat 1000);letI c:=[(114:UInt8),101,110,100,101,114];letI b:=[(105:UInt8),110,108,105,110,101,100];letI a:=c=c;∃(x:Unit),True/\domB T=domB T/\True/\(p/\True/\p/\True/\((True/\True/\True/\True/\True/\True/\True/\True/\p)/\True)/\True)/\3=3/\e=e/\f=f/\[(42:UInt8)]=[(42:UInt8)]/\m=m/\g=g/\[(45:UInt8)]=[(45:UInt8)]/\n=n/\k=k/\h=h/\b=b/\a/\a/\d=d/\True
theorem go_r (T:TD):goR T:=by
 unfold goR
 try simp only[br_iff,gd_iff,Bool.and_eq_true,sj5,leB_iff,leB_iff',sj3,sj7]
 repeat' (first|done|omega|exact rfl|exact trivial|assumption|exact()|intro _|refine⟨?_,?_⟩)
theorem go_fok:FunOk Tryz.prog 53:=⟨Tryz.f53,by kernel_rfl,rfl,by kernel_rfl⟩
theorem go_ok (T:TD):(goS T).Body Tryz.prog 53/\(goS T).BodyD Tryz.prog 53:=by
 refine genS_body (fn:=Tryz.f53) (b:=(bodyOf Tryz.f53)) (LT:=fun _=>[]) ftOk (sortU_ok) 1000 (fun a ha=>LTok.nil) (by kernel_rfl) (by kernel_rfl) ?_
 exact fun a ha=>Ho.of (goR T) (by kernel_rfl) (go_r T)
def ghR (T:TD):Prop:=
 letI c:=True/\True;letI b:=Value.int .i64 (Int.ofNat 500);letI a:=b=b;∃(x:Unit),True/\domB T=domB T/\True/\(c/\True/\c/\True)/\2=2/\a/\a/\True
theorem gh_r (T:TD):ghR T:=by
 unfold ghR
 try simp only[br_iff,gd_iff,Bool.and_eq_true,sj5,leB_iff,leB_iff',sj3,sj7]
 repeat' (first|done|omega|exact rfl|exact trivial|assumption|exact()|intro _|refine⟨?_,?_⟩)
theorem gh_fok:FunOk Tryz.prog 41:=⟨Tryz.f41,by kernel_rfl,rfl,by kernel_rfl⟩
theorem gh_ok (T:TD):(ghS T).Body Tryz.prog 41/\(ghS T).BodyD Tryz.prog 41:=by
 refine genS_body (fn:=Tryz.f41) (b:=(bodyOf Tryz.f41)) (LT:=fun _=>[]) ftOk (sortU_ok) 1000 (fun a ha=>LTok.nil) (by kernel_rfl) (by kernel_rfl) ?_
 exact fun a ha=>Ho.of (ghR T) (by kernel_rfl) (gh_r T)
end Tk
namespace Tk
open Go Go.Sx Go.Proofs
variable [Syms]
def rmR0 (T:TD) (i:Nat) (j:Nat):Prop:=
 letI b:=∃(x:Unit),True/\domB T=domB T/\True/\True/\True;letI a:=br (TD.hasT T i j) b b;br (Nat.beq i 0&&T.hd) a a
def rmR1 (T:TD) (i:Nat) (k:Nat):Prop:=
 letI f:=T.C i;letI g:=k+1;letI e:=domB T=domB T;letI d:=fun(j:Nat)=>[AVal.sp (SId.mk 5 i j) 0,AVal.ptr 0 0,AVal.ptr 1 0];letI c:=PinF 3 d;letI b:=d=d;letI a:=b/\c/\gd (Nat.beq i i&&Nat.beq k k&&true) True;br (Nat.blt k f) (br (Nat.blt g f) (∃(j':Nat),Nat.le j' f/\f-j'<f-k/\e/\br (Nat.blt j' f) (gd (Nat.beq i i&&Nat.beq g j'&&true) (j'=g/\a)) False) (∃(j':Nat),Nat.le j' f/\f-j'<f-k/\e/\br (Nat.blt j' f) False (j'=g/\a))) (∃(x:Unit),True/\e/\k=f/\b/\c/\True)
def rmR2 (T:TD) (i:Nat):Prop:=
 letI c:=domB T=domB T;letI b:=AVal.ifc 179 AVal.top;letI a:=AHeap.mk (Tr.node (some (ABlk.row [AVal.ifc 187 (AVal.ptr 2 0)] 131 (ATot.n 1))) (Tr.node (some (ABlk.row [AVal.fn (Fn.func 142) [] [AVal.ptr 0 0,AVal.ptr 1 0]] 162 (ATot.n 1))) Tr.nil Tr.nil) (Tr.node (some (ABlk.row [AVal.ifc 201 (AVal.agg [AVal.ifc 201 (AVal.agg [AVal.ifc 201 (AVal.agg [AVal.ifc 201 (AVal.agg [AVal.ifc 201 (AVal.agg [AVal.ifc 177 (AVal.agg []),b,AVal.top]),b,AVal.top]),b,AVal.top]),b,AVal.top]),b,AVal.top]),AVal.sp (SId.mk 0 0 0) 0] 189 (ATot.n 2))) Tr.nil Tr.nil)) 3 [] [0,1,2] (domB T);Nat.le 0 (T.C i)/\(c/\br (Nat.blt 0 (T.C i)) (gd (Nat.beq i i&&true&&true) (0=0/\True)) False)/\∀(x:Unit),True->(∀(k:Nat),k<T.C i->c/\True/\gd (Nat.beq i i&&Nat.beq k k&&true) (∀(x:Unit),True->a=a))/\∃(x:Unit),True/\c/\True/\True/\True
def rmR3 (T:TD) (k:Nat):Prop:=
 letI f:=k+1;letI e:=domB T=domB T;letI d:=fun(j:Nat)=>[AVal.sp (SId.mk 4 j 0) 0,AVal.ptr 0 0,AVal.ptr 1 0];letI c:=PinF 3 d;letI b:=d=d;letI a:=b/\c/\gd (Nat.beq k k&&true&&true) True;br (Nat.blt k T.R) (br (Nat.blt f T.R) (∃(j':Nat),Nat.le j' T.R/\T.R-j'<T.R-k/\e/\br (Nat.blt j' T.R) (gd (Nat.beq f j'&&true&&true) (j'=f/\a)) False) (∃(j':Nat),Nat.le j' T.R/\T.R-j'<T.R-k/\e/\br (Nat.blt j' T.R) False (j'=f/\a))) (∃(x:Unit),True/\e/\k=T.R/\b/\c/\True)
def rmR4 (T:TD):Prop:=
 letI c:=domB T=domB T;letI b:=AVal.ifc 179 AVal.top;letI a:=AHeap.mk (Tr.node (some (ABlk.row [AVal.ifc 187 (AVal.ptr 2 0)] 131 (ATot.n 1))) (Tr.node (some (ABlk.row [AVal.fn (Fn.func 142) [] [AVal.ptr 0 0,AVal.ptr 1 0]] 162 (ATot.n 1))) Tr.nil Tr.nil) (Tr.node (some (ABlk.row [AVal.ifc 201 (AVal.agg [AVal.ifc 201 (AVal.agg [AVal.ifc 201 (AVal.agg [AVal.ifc 201 (AVal.agg [AVal.ifc 201 (AVal.agg [AVal.ifc 177 (AVal.agg []),b,AVal.top]),b,AVal.top]),b,AVal.top]),b,AVal.top]),b,AVal.top]),AVal.sp (SId.mk 0 0 0) 0] 189 (ATot.n 2))) Tr.nil Tr.nil)) 3 [] [0,1,2] (domB T);Nat.le 0 T.R/\(c/\br (Nat.blt 0 T.R) (0=0/\True) False)/\∀(x:Unit),True->(∀(k:Nat),k<T.R->c/\Nat.le 1 (T.C k)/\gd (Nat.beq k k&&true&&true) (∀(x:Unit),True->a=a))/\∃(x:Unit),True/\c/\True/\True/\True
def rmR5 (T:TD):Prop:=
 domB T=domB T/\TD.Ok T/\∀(x:Unit),True->∃(x:Unit),True/\domB T=domB T/\True/\True/\True
theorem rm_pin (f:Nat->SId):PinF 3 (fun j=>rmArgs (.sp (f j) 0)):=fun k=>.cons pinA (.cons (SubA.ptr (by omega)) (.cons (SubA.ptr (by omega)) .nil))
theorem rm_r0 (T:TD) (i j:Nat):rmR0 T i j:=by
 unfold rmR0
 simp only[sj6,sj3,imp_self]
theorem rm_r1 (T:TD) (i k:Nat) (h:k<=T.C i):rmR1 T i k:=by
 unfold rmR1
 try simp only[sj6,sj3,imp_self]
 have hp:=rm_pin (fun j=>⟨5,i,j⟩)
 repeat' (first|done|omega|exact rfl|exact hp|exact trivial|intro _|refine⟨k+1,?_⟩|refine⟨?_,?_⟩)
theorem rm_r2 (T:TD) (i:Nat) (h:0<T.C i):rmR2 T i:=by
 unfold rmR2
 try simp only[sj6,sj3,imp_self,Nat.zero_le,h]
 repeat' (first|done|omega|exact rfl|exact trivial|intro _|refine⟨?_,?_⟩)
theorem rm_r3 (T:TD) (hT:T.Ok) (k:Nat) (h:k<=T.R):rmR3 T k:=by
 have hC:=hT.2 k
 unfold rmR3
 try simp only[sj6,sj3,imp_self]
 have hp:=rm_pin (fun j=>⟨4,j,0⟩)
 repeat' (first|done|omega|exact rfl|exact hp|exact trivial|intro _|refine⟨k+1,?_⟩|refine⟨?_,?_⟩)
theorem rm_r4 (T:TD) (hT:T.Ok):rmR4 T:=by
 have hR:=hT.1
 unfold rmR4
 try simp only[sj6,sj3,imp_self,Nat.zero_le,hR]
 repeat' (first|done|omega|exact rfl|exact trivial|exact fun k hk=>hT.2 k hk|intro _|refine⟨?_,?_⟩)
theorem rm_r5 (T:TD) (hT:T.Ok):rmR5 T:=by
 have hR:=hT.1
 unfold rmR5
 try simp only[sj6,sj3,imp_self,Nat.zero_le,hR]
 repeat' (first|done|omega|exact rfl|exact trivial|exact hT|assumption|intro _|refine⟨?_,?_⟩)
theorem rm_fok:FunOk Tryz.prog 142:=⟨Tryz.f142,by kernel_rfl,rfl,by kernel_rfl⟩
theorem rm_td (T:TD):(rmTd T).Body Tryz.prog 142/\(rmTd T).BodyD Tryz.prog 142:=by
 refine genS_body (fn:=Tryz.f142) (b:=bodyOf Tryz.f142) (LT:=fun _=>[]) ftOk nofOk 1000 (fun _ _=>LTok.nil) (by kernel_rfl) (by kernel_rfl) ?_
 exact fun a _=>Ho.of (rmR0 T a.1 a.2) (by kernel_rfl) (rm_r0 T a.1 a.2)
theorem rmTabs1_ok (T:TD):TabOk Tryz.prog (rmTabs1 T):=by
 refine⟨fun f s h=>(by cases h),fun f s h=>?_⟩
 unfold rmTabs1 at h
 simp only at h
 split at h
 ·cases h;exact genS_okD rm_fok (rm_td T).2
 ·cases h
theorem rm_trD (T:TD) (i:Nat):(rmTrD T i).Body Tryz.prog (sub (bodyOf Tryz.f142) [0,0,1,1,1]):=
 LoopD.bodyH (root:=bodyOf Tryz.f142) [0,0,1,1,1] ftOk (rmTabs1_ok T) LTok.nil 1000 (fun k hk=>Ho.of (rmR1 T i k) (by kernel_rfl) (rm_r1 T i k hk))
theorem rm_tr (T:TD):(rmTr T).Body Tryz.prog 142/\(rmTr T).BodyD Tryz.prog 142:=by
 refine genS_body (fn:=Tryz.f142) (b:=bodyOf Tryz.f142) (LT:=fun i=>[([0,1,1,1],(rmTrD T i).at (0:Nat))]) ftOk (rmTabs1_ok T) 1000 (fun i _=>LTok.cons (fun fr H K hk=>LoopD.ok (rm_trD T i) hk) LTok.nil) (by kernel_rfl) (by kernel_rfl) ?_
 exact fun i hi=>Ho.of (rmR2 T i) (by kernel_rfl) (rm_r2 T i hi)
theorem rmTabs2_ok (T:TD):TabOk Tryz.prog (rmTabs2 T):=by
 refine⟨fun f s h=>(by cases h),fun f s h=>?_⟩
 unfold rmTabs2 at h
 simp only at h
 split at h
 ·cases h;exact genS_okD rm_fok (rm_tr T).2
 ·cases h
theorem rm_tbD (T:TD) (hT:T.Ok):(rmTbD T).Body Tryz.prog (sub (bodyOf Tryz.f142) [0,0,1,1,1]):=
 LoopD.bodyH (root:=bodyOf Tryz.f142) [0,0,1,1,1] ftOk (rmTabs2_ok T) LTok.nil 1000 (fun k hk=>Ho.of (rmR3 T k) (by kernel_rfl) (rm_r3 T hT k hk))
theorem rm_tb (T:TD):(rmTb T).Body Tryz.prog 142/\(rmTb T).BodyD Tryz.prog 142:=by
 refine genS_body (fn:=Tryz.f142) (b:=bodyOf Tryz.f142) (LT:=fun _=>[([0,1,1,1],(rmTbD T).at (0:Nat))]) ftOk (rmTabs2_ok T) 1000 (fun _ hT=>LTok.cons (fun fr H K hk=>LoopD.ok (rm_tbD T hT) hk) LTok.nil) (by kernel_rfl) (by kernel_rfl) ?_
 exact fun _ hT=>Ho.of (rmR4 T) (by kernel_rfl) (rm_r4 T hT)
theorem rmTabs3_ok (T:TD):TabOk Tryz.prog (rmTabs3 T):=by
 refine⟨fun f s h=>(by cases h),fun f s h=>?_⟩
 unfold rmTabs3 at h
 simp only at h
 split at h
 ·cases h;exact genS_okD rm_fok (rm_tb T).2
 ·cases h
theorem rm_tl (T:TD):(rmTl T).Body Tryz.prog 142/\(rmTl T).BodyD Tryz.prog 142:=by
 refine genS_body (fn:=Tryz.f142) (b:=bodyOf Tryz.f142) (LT:=fun _=>[]) ftOk (rmTabs3_ok T) 1000 (fun _ _=>LTok.nil) (by kernel_rfl) (by kernel_rfl) ?_
 exact fun _ hT=>Ho.of (rmR5 T) (by kernel_rfl) (rm_r5 T hT)
theorem rmTabs4_ok (T:TD):TabOk Tryz.prog (rmTabs4 T):=by
 refine⟨fun f s h=>(by cases h),fun f s h=>?_⟩
 unfold rmTabs4 at h
 simp only at h
 split at h
 ·cases h;exact genS_okD rm_fok (rm_tl T).2
 ·cases h
theorem rm_to (T:TD):(rmTo T).Body Tryz.prog 142/\(rmTo T).BodyD Tryz.prog 142:=by
 refine genS_body (fn:=Tryz.f142) (b:=bodyOf Tryz.f142) (LT:=fun _=>[]) ftOk (rmTabs4_ok T) 1000 (fun _ _=>LTok.nil) (by kernel_rfl) (by kernel_rfl) ?_
 exact fun _ hT=>Ho.of (rmR5 T) (by kernel_rfl) (rm_r5 T hT)
theorem rmTabs5_ok (T:TD):TabOk Tryz.prog (rmTabs5 T):=by
 refine⟨fun f s h=>(by cases h),fun f s h=>?_⟩
 unfold rmTabs5 at h
 simp only at h
 split at h
 ·cases h;exact genS_okD rm_fok (rm_to T).2
 ·cases h
def mtR0 (T:TD) (i:Nat) (j:Nat):Prop:=
 br (TD.hasT T i j) (∃(x:Unit),True/\domB T=domB T/\True/\True/\True) (∃(x:Unit),True/\domB T=domB T/\True/\True/\True)
def mtR1 (T:TD) (i:Nat) (k:Nat):Prop:=
 letI c:=T.C i;letI b:=domB T=domB T;letI a:=Nat.beq i i&&Nat.beq k k&&true;br (Nat.blt k c) (br (Nat.blt (k+1) c) (b/\True/\gd a (∀(x:Unit),True->∃(j':Nat),Nat.le j' c/\c-j'<c-k/\b/\br (Nat.blt j' c) (gd (Nat.beq i i&&Nat.beq (k+1) j'&&true) True) False)) (b/\True/\gd a (∀(x:Unit),True->∃(j':Nat),Nat.le j' c/\c-j'<c-k/\b/\br (Nat.blt j' c) False True))) (∃(x:Unit),True/\b/\True)
def mtR2 (T:TD) (i:Nat):Prop:=
 letI a:=domB T=domB T;Nat.le 0 (T.C i)/\(a/\br (Nat.blt 0 (T.C i)) (gd (Nat.beq i i&&true&&true) True) False)/\∀(x:Unit),True->∃(x:Unit),True/\a/\True/\True/\True
def mtR3 (T:TD) (k:Nat):Prop:=
 letI c:=domB T=domB T;letI b:=Nat.le 1 (T.C k);letI a:=Nat.beq k k&&true&&true;br (Nat.blt k T.R) (br (Nat.blt (k+1) T.R) (c/\b/\gd a (∀(x:Unit),True->∃(j':Nat),Nat.le j' T.R/\T.R-j'<T.R-k/\c/\br (Nat.blt j' T.R) (gd (Nat.beq (k+1) j'&&true&&true) True) False)) (c/\b/\gd a (∀(x:Unit),True->∃(j':Nat),Nat.le j' T.R/\T.R-j'<T.R-k/\c/\br (Nat.blt j' T.R) False True))) (∃(x:Unit),True/\c/\True)
def mtR4 (T:TD):Prop:=
 letI a:=domB T=domB T;Nat.le 0 T.R/\(a/\br (Nat.blt 0 T.R) True False)/\∀(x:Unit),True->∃(x:Unit),True/\a/\True/\True/\True
theorem mt_r0 (T:TD) (i j:Nat):mtR0 T i j:=by
 unfold mtR0
 simp only[sj6,sj3,imp_self]
theorem mt_r1 (T:TD) (i k:Nat) (h:k<=T.C i):mtR1 T i k:=by
 unfold mtR1
 try simp only[sj6,sj3,imp_self]
 have hp:True:=trivial
 repeat' (first|done|omega|exact rfl|exact hp|exact trivial|intro _|refine⟨k+1,?_⟩|refine⟨?_,?_⟩)
theorem mt_r2 (T:TD) (i:Nat) (h:0<T.C i):mtR2 T i:=by
 unfold mtR2
 try simp only[sj6,sj3,imp_self,Nat.zero_le,h]
 repeat' (first|done|omega|exact rfl|exact trivial|intro _|refine⟨?_,?_⟩)
theorem mt_r3 (T:TD) (hT:T.Ok) (k:Nat) (h:k<=T.R):mtR3 T k:=by
 have hC:=hT.2 k
 unfold mtR3
 try simp only[sj6,sj3,imp_self]
 have hp:True:=trivial
 repeat' (first|done|omega|exact rfl|exact hp|exact trivial|intro _|refine⟨k+1,?_⟩|refine⟨?_,?_⟩)
theorem mt_r4 (T:TD) (hT:T.Ok):mtR4 T:=by
 have hR:=hT.1
 unfold mtR4
 try simp only[sj6,sj3,imp_self,Nat.zero_le,hR]
 repeat' (first|done|omega|exact rfl|exact trivial|exact fun k hk=>hT.2 k hk|intro _|refine⟨?_,?_⟩)
theorem mt_fok:FunOk Tryz.prog 144:=⟨Tryz.f144,by kernel_rfl,rfl,by kernel_rfl⟩
theorem mt_td (T:TD):(mtTd T).Body Tryz.prog 144/\(mtTd T).BodyD Tryz.prog 144:=by
 refine genS_body (fn:=Tryz.f144) (b:=bodyOf Tryz.f144) (LT:=fun _=>[]) ftOk nofOk 1000 (fun _ _=>LTok.nil) (by kernel_rfl) (by kernel_rfl) ?_
 exact fun a _=>Ho.of (mtR0 T a.1 a.2) (by kernel_rfl) (mt_r0 T a.1 a.2)
theorem mtTabs1_ok (T:TD):TabOk Tryz.prog (mtTabs1 T):=by
 refine⟨fun f s h=>?_,fun f s h=>(by cases h)⟩
 unfold mtTabs1 at h
 simp only at h
 split at h
 ·cases h;exact genS_ok mt_fok (mt_td T).1
 ·cases h
theorem mt_trD (T:TD) (i:Nat):(mtTrD T i).Body Tryz.prog (sub (bodyOf Tryz.f144) [0,0,1,1,1]):=
 LoopD.bodyH (root:=bodyOf Tryz.f144) [0,0,1,1,1] ftOk (mtTabs1_ok T) LTok.nil 1000 (fun k hk=>Ho.of (mtR1 T i k) (by kernel_rfl) (mt_r1 T i k hk))
theorem mt_tr (T:TD):(mtTr T).Body Tryz.prog 144/\(mtTr T).BodyD Tryz.prog 144:=by
 refine genS_body (fn:=Tryz.f144) (b:=bodyOf Tryz.f144) (LT:=fun i=>[([0,1,1,1],(mtTrD T i).at (0:Nat))]) ftOk (mtTabs1_ok T) 1000 (fun i _=>LTok.cons (fun fr H K hk=>LoopD.ok (mt_trD T i) hk) LTok.nil) (by kernel_rfl) (by kernel_rfl) ?_
 exact fun i hi=>Ho.of (mtR2 T i) (by kernel_rfl) (mt_r2 T i hi)
theorem mtTabs2_ok (T:TD):TabOk Tryz.prog (mtTabs2 T):=by
 refine⟨fun f s h=>?_,fun f s h=>(by cases h)⟩
 unfold mtTabs2 at h
 simp only at h
 split at h
 ·cases h;exact genS_ok mt_fok (mt_tr T).1
 ·cases h
theorem mt_tbD (T:TD) (hT:T.Ok):(mtTbD T).Body Tryz.prog (sub (bodyOf Tryz.f144) [0,0,1,1,1]):=
 LoopD.bodyH (root:=bodyOf Tryz.f144) [0,0,1,1,1] ftOk (mtTabs2_ok T) LTok.nil 1000 (fun k hk=>Ho.of (mtR3 T k) (by kernel_rfl) (mt_r3 T hT k hk))
theorem mt_tb (T:TD):(mtTb T).Body Tryz.prog 144/\(mtTb T).BodyD Tryz.prog 144:=by
 refine genS_body (fn:=Tryz.f144) (b:=bodyOf Tryz.f144) (LT:=fun _=>[([0,1,1,1],(mtTbD T).at (0:Nat))]) ftOk (mtTabs2_ok T) 1000 (fun _ hT=>LTok.cons (fun fr H K hk=>LoopD.ok (mt_tbD T hT) hk) LTok.nil) (by kernel_rfl) (by kernel_rfl) ?_
 exact fun _ hT=>Ho.of (mtR4 T) (by kernel_rfl) (mt_r4 T hT)
theorem mtTabs3_ok (T:TD):TabOk Tryz.prog (mtTabs3 T):=by
 refine⟨fun f s h=>?_,fun f s h=>(by cases h)⟩
 unfold mtTabs3 at h
 simp only at h
 split at h
 ·cases h;exact genS_ok mt_fok (mt_tb T).1
 ·cases h
theorem mt_tl (T:TD):(mtTl T).Body Tryz.prog 144/\(mtTl T).BodyD Tryz.prog 144:=by
 refine genS_body (fn:=Tryz.f144) (b:=bodyOf Tryz.f144) (LT:=fun _=>[]) ftOk (mtTabs3_ok T) 1000 (fun _ _=>LTok.nil) (by kernel_rfl) (by kernel_rfl) ?_
 exact fun _ hT=>Ho.of (rmR5 T) (by kernel_rfl) (rm_r5 T hT)
theorem mtTabs4_ok (T:TD):TabOk Tryz.prog (mtTabs4 T):=by
 refine⟨fun f s h=>?_,fun f s h=>(by cases h)⟩
 unfold mtTabs4 at h
 simp only at h
 split at h
 ·cases h;exact genS_ok mt_fok (mt_tl T).1
 ·cases h
theorem mt_to (T:TD):(mtTo T).Body Tryz.prog 144/\(mtTo T).BodyD Tryz.prog 144:=by
 refine genS_body (fn:=Tryz.f144) (b:=bodyOf Tryz.f144) (LT:=fun _=>[]) ftOk (mtTabs4_ok T) 1000 (fun _ _=>LTok.nil) (by kernel_rfl) (by kernel_rfl) ?_
 exact fun _ hT=>Ho.of (rmR5 T) (by kernel_rfl) (rm_r5 T hT)
theorem mtTabs5_ok (T:TD):TabOk Tryz.prog (mtTabs5 T):=by
 refine⟨fun f s h=>?_,fun f s h=>(by cases h)⟩
 unfold mtTabs5 at h
 simp only at h
 split at h
 ·cases h;exact genS_ok mt_fok (mt_to T).1
 ·cases h
def hrR (T:TD):Prop:=
 letI a:=domB T=domB T;a/\TD.Ok T/\∀(x:Unit),True->a/\TD.Ok T/\∀(x:Unit),True->∃(x:Unit),True/\a/\True/\True/\True
theorem hrU_ok (T:TD) (hT:T.Ok):TabOk Tryz.prog (hrU T):=by
 refine⟨fun f s h=>?_,fun f s h=>(by cases h)⟩
 unfold hrU at h
 simp only at h
 split at h
 ·cases h;exact genS_ok rm_fok (rm_to T).1
 ·cases h;exact genS_ok mt_fok (mt_to T).1
 ·cases h
theorem hr_r (T:TD) (hT:T.Ok):hrR T:=by
 unfold hrR
 try simp only[br_iff,gd_iff,Bool.and_eq_true,sj5,leB_iff,sj3,sj7]
 repeat' (first|done|omega|exact rfl|exact trivial|assumption|exact()|intro _|refine⟨?_,?_⟩)
theorem hr_fok:FunOk Tryz.prog 133:=⟨Tryz.f133,by kernel_rfl,rfl,by kernel_rfl⟩
theorem hr_ok (T:TD) (hT:T.Ok):(hrS T).Body Tryz.prog 133/\(hrS T).BodyD Tryz.prog 133:=by
 refine genS_body (fn:=Tryz.f133) (b:=(bodyOf Tryz.f133)) (LT:=fun _=>[]) ftOk (hrU_ok T hT) 1000 (fun a ha=>LTok.nil) (by kernel_rfl) (by kernel_rfl) ?_
 exact fun a ha=>Ho.of (hrR T) (by kernel_rfl) (hr_r T ha)
theorem hrTabs_ok (T:TD) (hT:T.Ok):TabOk Tryz.prog (hrTabs T):=by
 refine⟨fun f s h=>?_,fun f s h=>(by cases h)⟩
 unfold hrTabs at h
 simp only at h
 split at h
 ·cases h;exact genS_ok hr_fok (hr_ok T hT).1
 ·cases h
def fsR1 (T:TD) (i:Nat) (k:Nat):Prop:=
 letI b:=T.C i;letI a:=domB T=domB T;br (Nat.blt k b) (a/\True/\gd (Nat.beq i i&&Nat.beq k k&&true) (∀(x:Unit),True->br (Nat.blt (k+1) b) (∃(j':Nat),Nat.le j' b/\b-j'<b-k/\a/\br (Nat.blt j' b) (gd (Nat.beq i i&&Nat.beq (k+1) j'&&true) True) False) (∃(j':Nat),Nat.le j' b/\b-j'<b-k/\a/\br (Nat.blt j' b) False True))) (∃(x:Unit),True/\a/\True)
def fsR3 (T:TD) (k:Nat):Prop:=
 letI a:=domB T=domB T;br (Nat.blt k T.R) (a/\Nat.le 1 (T.C k)/\gd (Nat.beq k k&&true&&true) (∀(x:Unit),True->br (Nat.blt (k+1) T.R) (∃(j':Nat),Nat.le j' T.R/\T.R-j'<T.R-k/\a/\br (Nat.blt j' T.R) (gd (Nat.beq (k+1) j'&&true&&true) True) False) (∃(j':Nat),Nat.le j' T.R/\T.R-j'<T.R-k/\a/\br (Nat.blt j' T.R) False True))) (∃(x:Unit),True/\a/\True)
theorem fs_r1 (T:TD) (i k:Nat) (h:k<=T.C i):fsR1 T i k:=by
 unfold fsR1
 try simp only[sj6,sj3,imp_self]
 have hp:True:=trivial
 repeat' (first|done|omega|exact rfl|exact hp|exact trivial|intro _|refine⟨k+1,?_⟩|refine⟨?_,?_⟩)
theorem fs_r3 (T:TD) (hT:T.Ok) (k:Nat) (h:k<=T.R):fsR3 T k:=by
 have hC:=hT.2 k
 unfold fsR3
 try simp only[sj6,sj3,imp_self]
 have hp:True:=trivial
 repeat' (first|done|omega|exact rfl|exact hp|exact trivial|intro _|refine⟨k+1,?_⟩|refine⟨?_,?_⟩)
theorem fs_fok:FunOk Tryz.prog 251:=⟨Tryz.f251,by kernel_rfl,rfl,by kernel_rfl⟩
theorem fs_td (T:TD):(fsTd T).Body Tryz.prog 251/\(fsTd T).BodyD Tryz.prog 251:=by
 refine genS_body (fn:=Tryz.f251) (b:=bodyOf Tryz.f251) (LT:=fun _=>[]) ftOk nofOk 1000 (fun _ _=>LTok.nil) (by kernel_rfl) (by kernel_rfl) ?_
 exact fun a _=>Ho.of (rmR0 T a.1 a.2) (by kernel_rfl) (rm_r0 T a.1 a.2)
theorem fsTabs1_ok (T:TD):TabOk Tryz.prog (fsTabs1 T):=by
 refine⟨fun f s h=>?_,fun f s h=>(by cases h)⟩
 unfold fsTabs1 at h
 simp only at h
 split at h
 ·cases h;exact genS_ok fs_fok (fs_td T).1
 ·cases h
theorem fs_trD (T:TD) (i:Nat):(fsTrD T i).Body Tryz.prog (sub (bodyOf Tryz.f251) [0,0,1,1]):=
 LoopD.bodyH (root:=bodyOf Tryz.f251) [0,0,1,1] ftOk (fsTabs1_ok T) LTok.nil 1000 (fun k hk=>Ho.of (fsR1 T i k) (by kernel_rfl) (fs_r1 T i k hk))
theorem fs_tr (T:TD):(fsTr T).Body Tryz.prog 251/\(fsTr T).BodyD Tryz.prog 251:=by
 refine genS_body (fn:=Tryz.f251) (b:=bodyOf Tryz.f251) (LT:=fun i=>[([0,1,1],(fsTrD T i).at (0:Nat))]) ftOk (fsTabs1_ok T) 1000 (fun i _=>LTok.cons (fun fr H K hk=>LoopD.ok (fs_trD T i) hk) LTok.nil) (by kernel_rfl) (by kernel_rfl) ?_
 exact fun i hi=>Ho.of (mtR2 T i) (by kernel_rfl) (mt_r2 T i hi)
theorem fsTabs2_ok (T:TD):TabOk Tryz.prog (fsTabs2 T):=by
 refine⟨fun f s h=>?_,fun f s h=>(by cases h)⟩
 unfold fsTabs2 at h
 simp only at h
 split at h
 ·cases h;exact genS_ok fs_fok (fs_tr T).1
 ·cases h
theorem fs_tbD (T:TD) (hT:T.Ok):(fsTbD T).Body Tryz.prog (sub (bodyOf Tryz.f251) [0,0,1,1]):=
 LoopD.bodyH (root:=bodyOf Tryz.f251) [0,0,1,1] ftOk (fsTabs2_ok T) LTok.nil 1000 (fun k hk=>Ho.of (fsR3 T k) (by kernel_rfl) (fs_r3 T hT k hk))
theorem fs_tb (T:TD):(fsTb T).Body Tryz.prog 251/\(fsTb T).BodyD Tryz.prog 251:=by
 refine genS_body (fn:=Tryz.f251) (b:=bodyOf Tryz.f251) (LT:=fun _=>[([0,1,1],(fsTbD T).at (0:Nat))]) ftOk (fsTabs2_ok T) 1000 (fun _ hT=>LTok.cons (fun fr H K hk=>LoopD.ok (fs_tbD T hT) hk) LTok.nil) (by kernel_rfl) (by kernel_rfl) ?_
 exact fun _ hT=>Ho.of (mtR4 T) (by kernel_rfl) (mt_r4 T hT)
theorem fsTabs3_ok (T:TD):TabOk Tryz.prog (fsTabs3 T):=by
 refine⟨fun f s h=>?_,fun f s h=>(by cases h)⟩
 unfold fsTabs3 at h
 simp only at h
 split at h
 ·cases h;exact genS_ok fs_fok (fs_tb T).1
 ·cases h
theorem fs_tl (T:TD):(fsTl T).Body Tryz.prog 251/\(fsTl T).BodyD Tryz.prog 251:=by
 refine genS_body (fn:=Tryz.f251) (b:=bodyOf Tryz.f251) (LT:=fun _=>[]) ftOk (fsTabs3_ok T) 1000 (fun _ _=>LTok.nil) (by kernel_rfl) (by kernel_rfl) ?_
 exact fun _ hT=>Ho.of (rmR5 T) (by kernel_rfl) (rm_r5 T hT)
theorem fsTabs4_ok (T:TD):TabOk Tryz.prog (fsTabs4 T):=by
 refine⟨fun f s h=>?_,fun f s h=>(by cases h)⟩
 unfold fsTabs4 at h
 simp only at h
 split at h
 ·cases h;exact genS_ok fs_fok (fs_tl T).1
 ·cases h
theorem fs_to (T:TD):(fsTo T).Body Tryz.prog 251/\(fsTo T).BodyD Tryz.prog 251:=by
 refine genS_body (fn:=Tryz.f251) (b:=bodyOf Tryz.f251) (LT:=fun _=>[]) ftOk (fsTabs4_ok T) 1000 (fun _ _=>LTok.nil) (by kernel_rfl) (by kernel_rfl) ?_
 exact fun _ hT=>Ho.of (rmR5 T) (by kernel_rfl) (rm_r5 T hT)
theorem fsTabs5_ok (T:TD):TabOk Tryz.prog (fsTabs5 T):=by
 refine⟨fun f s h=>?_,fun f s h=>(by cases h)⟩
 unfold fsTabs5 at h
 simp only at h
 split at h
 ·cases h;exact genS_ok fs_fok (fs_to T).1
 ·cases h
end Tk
