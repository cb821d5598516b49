/- Lemmas of this claim; the last text says what is proved. -/
import Derived.Test.YtjkgmpkgfhhaiaaGreatK20
import Derived.Test.YtjkgmpkgfhhaiaaGreatK25
import Derived.Test.YtjkgmpkgfhhaiaaGreatK24
set_option linter.all false
set_option maxRecDepth 1000000
namespace Tk
open Go Go.Sx Go.Proofs
variable [Syms]
def reRDoc (T:TD):Prop:=
 ∃(j':SId×Bool),TD.Sd T j'/\TD.mu T j'<TD.mu T (SId.mk 1 0 0,false)/\domB T=domB T/\br j'.snd False (gd (Nat.beq 2 j'.fst.1&&(Nat.beq 0 j'.fst.2&&Nat.beq 0 j'.fst.3)&&true) True)
def reRTbl (T:TD):Prop:=
 ∃(j':SId×Bool),TD.Sd T j'/\TD.mu T j'<TD.mu T (SId.mk 2 0 0,false)/\domB T=domB T/\br j'.snd False (gd (Nat.beq 3 j'.fst.1&&(Nat.beq 0 j'.fst.2&&Nat.beq 0 j'.fst.3)&&true) True)
def reRTbd (T:TD):Prop:=
 ∃(j':SId×Bool),TD.Sd T j'/\TD.mu T j'<TD.mu T (SId.mk 3 0 0,false)/\domB T=domB T/\br j'.snd False (gd (Nat.beq 4 j'.fst.1&&(Nat.beq 0 j'.fst.2&&Nat.beq 0 j'.fst.3)&&true) True)
def reRTr (T:TD) (i:Nat):Prop:=
 ∃(j':SId×Bool),TD.Sd T j'/\TD.mu T j'<TD.mu T (SId.mk 4 i 0,false)/\domB T=domB T/\br j'.snd False (gd (Nat.beq 5 j'.fst.1&&(Nat.beq i j'.fst.2&&Nat.beq 0 j'.fst.3)&&true) True)
def reRTd (T:TD) (i:Nat) (j:Nat):Prop:=
 letI d:=SId×Bool;letI c:=domB T=domB T;letI b:=TD.mu T (SId.mk 5 i j,false);letI a:=br (TD.hasT T i j) (∃(j':d),TD.Sd T j'/\TD.mu T j'<b/\c/\br j'.snd False (gd (Nat.beq 6 j'.fst.1&&(Nat.beq i j'.fst.2&&Nat.beq j j'.fst.3)&&true) True)) (br (Nat.blt (j+1) (T.C i)) (∃(j':d),TD.Sd T j'/\TD.mu T j'<b/\c/\br j'.snd False (gd (Nat.beq 5 j'.fst.1&&(Nat.beq i j'.fst.2&&Nat.beq (j+1) j'.fst.3)&&true) True)) (br (Nat.blt (i+1) T.R) (∃(j':d),TD.Sd T j'/\TD.mu T j'<b/\c/\br j'.snd False (gd (Nat.beq 4 j'.fst.1&&(Nat.beq (i+1) j'.fst.2&&Nat.beq 0 j'.fst.3)&&true) True)) (∃(j':d),TD.Sd T j'/\TD.mu T j'<b/\c/\br j'.snd True False)));br (Nat.beq i 0&&T.hd) a a
def reRTx (T:TD) (i:Nat) (j:Nat):Prop:=
 letI c:=SId×Bool;letI b:=domB T=domB T;letI a:=TD.mu T (SId.mk 6 i j,false);br (Nat.blt (j+1) (T.C i)) (∃(j':c),TD.Sd T j'/\TD.mu T j'<a/\b/\br j'.snd False (gd (Nat.beq 5 j'.fst.1&&(Nat.beq i j'.fst.2&&Nat.beq (j+1) j'.fst.3)&&true) True)) (br (Nat.blt (i+1) T.R) (∃(j':c),TD.Sd T j'/\TD.mu T j'<a/\b/\br j'.snd False (gd (Nat.beq 4 j'.fst.1&&(Nat.beq (i+1) j'.fst.2&&Nat.beq 0 j'.fst.3)&&true) True)) (∃(j':c),TD.Sd T j'/\TD.mu T j'<a/\b/\br j'.snd True False))
def reRTop (T:TD):Prop:=
 letI a:=domB T=domB T;TD.Sd T (SId.mk 1 0 0,false)/\(a/\True)/\∀(x:Unit),True->∃(x:Unit),True/\a/\True/\True/\True
theorem re_rDoc (T:TD):reRDoc T:=by
 unfold reRDoc
 try simp only[br_iff,Bool.and_eq_true,sj5,sj8]
 repeat' (first|done|(refine nx_goN (nx_doc) ?_;(simp[br_iff,gd_iff,doc,tbl,tbd,Tk.tr,Tk.td,Tk.tx];done))|exact rfl|exact trivial|omega|intro _|refine⟨?_,?_⟩)
theorem re_rTbl (T:TD):reRTbl T:=by
 unfold reRTbl
 try simp only[br_iff,Bool.and_eq_true,sj5,sj8]
 repeat' (first|done|(refine nx_goN (nx_tbl) ?_;(simp[br_iff,gd_iff,doc,tbl,tbd,Tk.tr,Tk.td,Tk.tx];done))|exact rfl|exact trivial|omega|intro _|refine⟨?_,?_⟩)
theorem re_rTbd (T:TD) (h:0<T.R):reRTbd T:=by
 unfold reRTbd
 try simp only[br_iff,Bool.and_eq_true,sj5,sj8]
 repeat' (first|done|(refine nx_goN (nx_tbd h) ?_;(simp[br_iff,gd_iff,doc,tbl,tbd,Tk.tr,Tk.td,Tk.tx];done))|exact rfl|exact trivial|omega|intro _|refine⟨?_,?_⟩)
theorem re_rTr (T:TD) (i:Nat) (h:i<T.R) (hc:0<T.C i):reRTr T i:=by
 unfold reRTr
 try simp only[br_iff,Bool.and_eq_true,sj5,sj8]
 repeat' (first|done|(refine nx_goN (nx_tr h hc) ?_;(simp[br_iff,gd_iff,doc,tbl,tbd,Tk.tr,Tk.td,Tk.tx];done))|exact rfl|exact trivial|omega|intro _|refine⟨?_,?_⟩)
theorem re_rTd (T:TD) (i j:Nat) (h:i<T.R) (hc:j<T.C i):reRTd T i j:=by
 unfold reRTd
 try simp only[br_iff,Bool.and_eq_true,sj5,sj8]
 repeat' (first|done|(refine nx_goN (nx_td h hc) ?_;(simp[br_iff,gd_iff,doc,tbl,tbd,Tk.tr,Tk.td,Tk.tx];done))|(refine nx_goN (nx_tdn h (by omega)) ?_;(simp[br_iff,gd_iff,doc,tbl,tbd,Tk.tr,Tk.td,Tk.tx];done))|(refine nx_goN (nx_tdr (by omega) hc) ?_;(simp[br_iff,gd_iff,doc,tbl,tbd,Tk.tr,Tk.td,Tk.tx];done))|(refine nx_goN (nx_tde h hc) ?_;(simp[br_iff,gd_iff,doc,tbl,tbd,Tk.tr,Tk.td,Tk.tx];done))|exact rfl|exact trivial|omega|intro _|refine⟨?_,?_⟩)
theorem re_rTx (T:TD) (i j:Nat) (h:i<T.R) (hc:j<T.C i):reRTx T i j:=by
 unfold reRTx
 try simp only[br_iff,Bool.and_eq_true,sj5,sj8]
 repeat' (first|done|(refine nx_goN (nx_txn h (by omega)) ?_;(simp[br_iff,gd_iff,doc,tbl,tbd,Tk.tr,Tk.td,Tk.tx];done))|(refine nx_goN (nx_txr (by omega) hc) ?_;(simp[br_iff,gd_iff,doc,tbl,tbd,Tk.tr,Tk.td,Tk.tx];done))|(refine nx_goN (nx_txe h hc) ?_;(simp[br_iff,gd_iff,doc,tbl,tbd,Tk.tr,Tk.td,Tk.tx];done))|exact rfl|exact trivial|omega|intro _|refine⟨?_,?_⟩)
theorem re_rTop (T:TD):reRTop T:=by
 unfold reRTop
 try simp only[br_iff,Bool.and_eq_true,beqN_iff,and_true,true_and]
 repeat' (first|done|exact rfl|exact trivial|exact()|exact T.sd0|exact T.sdE0|intro _|(apply Exists.intro (doc,false))|refine⟨?_,?_⟩)
theorem re_D (T:TD) (hT:T.Ok):(reD T).Body Tryz.prog (sub (bodyOf Tryz.f214) [0,0,1]):=by
 refine LoopD.bodyH (root:=bodyOf Tryz.f214) [0,0,1] ftOk (nofOk) LTok.nil 1000 ?_
 rintro⟨x,e⟩ hj
 cases e with
 |true=>exact Ho.of (maREnd T x) (by kernel_rfl) (ma_rEnd T x)
 |false=>
  have hv:T.Val x:=hj rfl
  rcases hv with h|h|h|⟨i,hi,h⟩|⟨i,k,hi,hk,h⟩|⟨i,k,hi,hk,h⟩<;>subst h
  ·exact Ho.of (reRDoc T) (by kernel_rfl) (re_rDoc T)
  ·exact Ho.of (reRTbl T) (by kernel_rfl) (re_rTbl T)
  ·exact Ho.of (reRTbd T) (by kernel_rfl) (re_rTbd T hT.1)
  ·exact Ho.of (reRTr T i) (by kernel_rfl) (re_rTr T i hi (hT.2 i hi))
  ·exact Ho.of (reRTd T i k) (by kernel_rfl) (re_rTd T i k hi hk)
  ·exact Ho.of (reRTx T i k) (by kernel_rfl) (re_rTx T i k hi hk)
theorem re_fok:FunOk Tryz.prog 214:=⟨Tryz.f214,by kernel_rfl,rfl,by kernel_rfl⟩
theorem re_ok (T:TD) (hT:T.Ok):(reS T).Body Tryz.prog 214/\(reS T).BodyD Tryz.prog 214:=by
 refine genS_body (fn:=Tryz.f214) (b:=bodyOf Tryz.f214) (LT:=fun _=>[([0,1],(reD T).at (doc,false))]) ftOk (nofOk) 1000 (fun _ _=>LTok.cons (fun fr H K hk=>LoopD.ok (re_D T hT) hk) LTok.nil) (by kernel_rfl) (by kernel_rfl) ?_
 exact fun _ _=>Ho.of (reRTop T) (by kernel_rfl) (re_rTop T)
theorem sc_fok:FunOk Tryz.prog 263:=⟨Tryz.f263,by kernel_rfl,rfl,by kernel_rfl⟩
theorem sc_td (T:TD):(scTd T).Body Tryz.prog 263/\(scTd T).BodyD Tryz.prog 263:=by
 refine genS_body (fn:=Tryz.f263) (b:=bodyOf Tryz.f263) (LT:=fun _=>[]) ftOk nofOk 1000 (fun _ _=>LTok.nil) (by kernel_rfl) (by kernel_rfl) ?_
 exact fun a _=>Ho.of (rmR0 T a.1 a.2) (by kernel_rfl) (rm_r0 T a.1 a.2)
theorem scTabs1_ok (T:TD):TabOk Tryz.prog (scTabs1 T):=by
 refine⟨fun f s h=>?_,fun f s h=>(by cases h)⟩
 unfold scTabs1 at h
 simp only at h
 split at h
 ·cases h;exact genS_ok sc_fok (sc_td T).1
 ·cases h
theorem sc_trD (T:TD) (i:Nat):(scTrD T i).Body Tryz.prog (sub (bodyOf Tryz.f263) [0,0,1,1]):=
 LoopD.bodyH (root:=bodyOf Tryz.f263) [0,0,1,1] ftOk (scTabs1_ok T) LTok.nil 1000 (fun k hk=>Ho.of (fsR1 T i k) (by kernel_rfl) (fs_r1 T i k hk))
theorem sc_tr (T:TD):(scTr T).Body Tryz.prog 263/\(scTr T).BodyD Tryz.prog 263:=by
 refine genS_body (fn:=Tryz.f263) (b:=bodyOf Tryz.f263) (LT:=fun i=>[([0,1,1],(scTrD T i).at (0:Nat))]) ftOk (scTabs1_ok T) 1000 (fun i _=>LTok.cons (fun fr H K hk=>LoopD.ok (sc_trD T i) hk) LTok.nil) (by kernel_rfl) (by kernel_rfl) ?_
 exact fun i hi=>Ho.of (mtR2 T i) (by kernel_rfl) (mt_r2 T i hi)
theorem scTabs2_ok (T:TD):TabOk Tryz.prog (scTabs2 T):=by
 refine⟨fun f s h=>?_,fun f s h=>(by cases h)⟩
 unfold scTabs2 at h
 simp only at h
 split at h
 ·cases h;exact genS_ok sc_fok (sc_tr T).1
 ·cases h
theorem sc_tbD (T:TD) (hT:T.Ok):(scTbD T).Body Tryz.prog (sub (bodyOf Tryz.f263) [0,0,1,1]):=
 LoopD.bodyH (root:=bodyOf Tryz.f263) [0,0,1,1] ftOk (scTabs2_ok T) LTok.nil 1000 (fun k hk=>Ho.of (fsR3 T k) (by kernel_rfl) (fs_r3 T hT k hk))
theorem sc_tb (T:TD):(scTb T).Body Tryz.prog 263/\(scTb T).BodyD Tryz.prog 263:=by
 refine genS_body (fn:=Tryz.f263) (b:=bodyOf Tryz.f263) (LT:=fun _=>[([0,1,1],(scTbD T).at (0:Nat))]) ftOk (scTabs2_ok T) 1000 (fun _ hT=>LTok.cons (fun fr H K hk=>LoopD.ok (sc_tbD T hT) hk) LTok.nil) (by kernel_rfl) (by kernel_rfl) ?_
 exact fun _ hT=>Ho.of (mtR4 T) (by kernel_rfl) (mt_r4 T hT)
theorem scTabs3_ok (T:TD):TabOk Tryz.prog (scTabs3 T):=by
 refine⟨fun f s h=>?_,fun f s h=>(by cases h)⟩
 unfold scTabs3 at h
 simp only at h
 split at h
 ·cases h;exact genS_ok sc_fok (sc_tb T).1
 ·cases h
theorem sc_tl (T:TD):(scTl T).Body Tryz.prog 263/\(scTl T).BodyD Tryz.prog 263:=by
 refine genS_body (fn:=Tryz.f263) (b:=bodyOf Tryz.f263) (LT:=fun _=>[]) ftOk (scTabs3_ok T) 1000 (fun _ _=>LTok.nil) (by kernel_rfl) (by kernel_rfl) ?_
 exact fun _ hT=>Ho.of (rmR5 T) (by kernel_rfl) (rm_r5 T hT)
theorem scTabs4_ok (T:TD):TabOk Tryz.prog (scTabs4 T):=by
 refine⟨fun f s h=>?_,fun f s h=>(by cases h)⟩
 unfold scTabs4 at h
 simp only at h
 split at h
 ·cases h;exact genS_ok sc_fok (sc_tl T).1
 ·cases h
theorem sc_to (T:TD):(scTo T).Body Tryz.prog 263/\(scTo T).BodyD Tryz.prog 263:=by
 refine genS_body (fn:=Tryz.f263) (b:=bodyOf Tryz.f263) (LT:=fun _=>[]) ftOk (scTabs4_ok T) 1000 (fun _ _=>LTok.nil) (by kernel_rfl) (by kernel_rfl) ?_
 exact fun _ hT=>Ho.of (rmR5 T) (by kernel_rfl) (rm_r5 T hT)
theorem scTabs5_ok (T:TD):TabOk Tryz.prog (scTabs5 T):=by
 refine⟨fun f s h=>?_,fun f s h=>(by cases h)⟩
 unfold scTabs5 at h
 simp only at h
 split at h
 ·cases h;exact genS_ok sc_fok (sc_to T).1
 ·cases h
theorem wcU_ok (T:TD) (hT:T.Ok):TabOk Tryz.prog (wcU T):=by
 refine⟨fun f s h=>?_,fun f s h=>(by cases h)⟩
 unfold wcU at h
 simp only at h
 split at h
 ·cases h;exact genS_ok sc_fok (sc_to T).1
 ·cases h
theorem wc_r (T:TD) (hT:T.Ok):rmR5 T:=by
 unfold rmR5
 try simp only[br_iff,gd_iff,Bool.and_eq_true,sj5,leB_iff,sj3,sj7]
 repeat' (first|done|omega|exact rfl|exact trivial|assumption|exact()|intro _|refine⟨?_,?_⟩)
theorem wc_fok:FunOk Tryz.prog 215:=⟨Tryz.f215,by kernel_rfl,rfl,by kernel_rfl⟩
theorem wc_ok (T:TD) (hT:T.Ok):(wcS T).Body Tryz.prog 215/\(wcS T).BodyD Tryz.prog 215:=by
 refine genS_body (fn:=Tryz.f215) (b:=(bodyOf Tryz.f215)) (LT:=fun _=>[]) ftOk (wcU_ok T hT) 1000 (fun a ha=>LTok.nil) (by kernel_rfl) (by kernel_rfl) ?_
 exact fun a ha=>Ho.of (rmR5 T) (by kernel_rfl) (wc_r T ha)
theorem wcTabs_ok (T:TD) (hT:T.Ok):TabOk Tryz.prog (wcTabs T):=by
 refine⟨fun f s h=>?_,fun f s h=>(by cases h)⟩
 unfold wcTabs at h
 simp only at h
 split at h
 ·cases h;exact genS_ok wc_fok (wc_ok T hT).1
 ·cases h
def sbR0 (T:TD) (i:Nat) (j:Nat):Prop:=
 letI d:=Nat.beq i 0&&T.hd;letI c:=∃(x:Unit),True/\domB T=domB T/\True/\True/\True;letI b:=br (TD.hasT T i j) c c;letI a:=br d b b;br d a a
theorem sb_r0 (T:TD) (i j:Nat):sbR0 T i j:=by
 unfold sbR0
 simp only[sj6,sj3,imp_self]
theorem sb_td (T:TD):(sbTd T).Body Tryz.prog 263/\(sbTd T).BodyD Tryz.prog 263:=by
 refine genS_body (fn:=Tryz.f263) (b:=bodyOf Tryz.f263) (LT:=fun _=>[]) ftOk nofOk 1000 (fun _ _=>LTok.nil) (by kernel_rfl) (by kernel_rfl) ?_
 exact fun a _=>Ho.of (sbR0 T a.1 a.2) (by kernel_rfl) (sb_r0 T a.1 a.2)
theorem sbTabs1_ok (T:TD):TabOk Tryz.prog (sbTabs1 T):=by
 refine⟨fun f s h=>?_,fun f s h=>(by cases h)⟩
 unfold sbTabs1 at h
 simp only at h
 split at h
 ·cases h;exact genS_ok sc_fok (sb_td T).1
 ·cases h
theorem sb_trD (T:TD) (i:Nat):(sbTrD T i).Body Tryz.prog (sub (bodyOf Tryz.f263) [0,0,1,1]):=
 LoopD.bodyH (root:=bodyOf Tryz.f263) [0,0,1,1] ftOk (sbTabs1_ok T) LTok.nil 1000 (fun k hk=>Ho.of (fsR1 T i k) (by kernel_rfl) (fs_r1 T i k hk))
theorem sb_tr (T:TD):(sbTr T).Body Tryz.prog 263/\(sbTr T).BodyD Tryz.prog 263:=by
 refine genS_body (fn:=Tryz.f263) (b:=bodyOf Tryz.f263) (LT:=fun i=>[([0,1,1],(sbTrD T i).at (0:Nat))]) ftOk (sbTabs1_ok T) 1000 (fun i _=>LTok.cons (fun fr H K hk=>LoopD.ok (sb_trD T i) hk) LTok.nil) (by kernel_rfl) (by kernel_rfl) ?_
 exact fun i hi=>Ho.of (mtR2 T i) (by kernel_rfl) (mt_r2 T i hi)
theorem sbTabs2_ok (T:TD):TabOk Tryz.prog (sbTabs2 T):=by
 refine⟨fun f s h=>?_,fun f s h=>(by cases h)⟩
 unfold sbTabs2 at h
 simp only at h
 split at h
 ·cases h;exact genS_ok sc_fok (sb_tr T).1
 ·cases h
theorem sb_tbD (T:TD) (hT:T.Ok):(sbTbD T).Body Tryz.prog (sub (bodyOf Tryz.f263) [0,0,1,1]):=
 LoopD.bodyH (root:=bodyOf Tryz.f263) [0,0,1,1] ftOk (sbTabs2_ok T) LTok.nil 1000 (fun k hk=>Ho.of (fsR3 T k) (by kernel_rfl) (fs_r3 T hT k hk))
theorem sb_tb (T:TD):(sbTb T).Body Tryz.prog 263/\(sbTb T).BodyD Tryz.prog 263:=by
 refine genS_body (fn:=Tryz.f263) (b:=bodyOf Tryz.f263) (LT:=fun _=>[([0,1,1],(sbTbD T).at (0:Nat))]) ftOk (sbTabs2_ok T) 1000 (fun _ hT=>LTok.cons (fun fr H K hk=>LoopD.ok (sb_tbD T hT) hk) LTok.nil) (by kernel_rfl) (by kernel_rfl) ?_
 exact fun _ hT=>Ho.of (mtR4 T) (by kernel_rfl) (mt_r4 T hT)
theorem sbTabs3_ok (T:TD):TabOk Tryz.prog (sbTabs3 T):=by
 refine⟨fun f s h=>?_,fun f s h=>(by cases h)⟩
 unfold sbTabs3 at h
 simp only at h
 split at h
 ·cases h;exact genS_ok sc_fok (sb_tb T).1
 ·cases h
theorem sb_tl (T:TD):(sbTl T).Body Tryz.prog 263/\(sbTl T).BodyD Tryz.prog 263:=by
 refine genS_body (fn:=Tryz.f263) (b:=bodyOf Tryz.f263) (LT:=fun _=>[]) ftOk (sbTabs3_ok T) 1000 (fun _ _=>LTok.nil) (by kernel_rfl) (by kernel_rfl) ?_
 exact fun _ hT=>Ho.of (rmR5 T) (by kernel_rfl) (rm_r5 T hT)
theorem sbTabs4_ok (T:TD):TabOk Tryz.prog (sbTabs4 T):=by
 refine⟨fun f s h=>?_,fun f s h=>(by cases h)⟩
 unfold sbTabs4 at h
 simp only at h
 split at h
 ·cases h;exact genS_ok sc_fok (sb_tl T).1
 ·cases h
theorem sb_to (T:TD):(sbTo T).Body Tryz.prog 263/\(sbTo T).BodyD Tryz.prog 263:=by
 refine genS_body (fn:=Tryz.f263) (b:=bodyOf Tryz.f263) (LT:=fun _=>[]) ftOk (sbTabs4_ok T) 1000 (fun _ _=>LTok.nil) (by kernel_rfl) (by kernel_rfl) ?_
 exact fun _ hT=>Ho.of (rmR5 T) (by kernel_rfl) (rm_r5 T hT)
theorem sbTabs5_ok (T:TD):TabOk Tryz.prog (sbTabs5 T):=by
 refine⟨fun f s h=>?_,fun f s h=>(by cases h)⟩
 unfold sbTabs5 at h
 simp only at h
 split at h
 ·cases h;exact genS_ok sc_fok (sb_to T).1
 ·cases h
theorem wbU_ok (T:TD) (hT:T.Ok):TabOk Tryz.prog (wbU T):=by
 refine⟨fun f s h=>?_,fun f s h=>(by cases h)⟩
 unfold wbU at h
 simp only at h
 split at h
 ·cases h;exact genS_ok sc_fok (sb_to T).1
 ·cases h
theorem wb_ok (T:TD) (hT:T.Ok):(wbS T).Body Tryz.prog 215/\(wbS T).BodyD Tryz.prog 215:=by
 refine genS_body (fn:=Tryz.f215) (b:=(bodyOf Tryz.f215)) (LT:=fun _=>[]) ftOk (wbU_ok T hT) 1000 (fun a ha=>LTok.nil) (by kernel_rfl) (by kernel_rfl) ?_
 exact fun a ha=>Ho.of (rmR5 T) (by kernel_rfl) (wc_r T ha)
theorem wbTabs_ok (T:TD) (hT:T.Ok):TabOk Tryz.prog (wbTabs T):=by
 refine⟨fun f s h=>?_,fun f s h=>(by cases h)⟩
 unfold wbTabs at h
 simp only at h
 split at h
 ·cases h;exact genS_ok wc_fok (wb_ok T hT).1
 ·cases h
theorem sl_td (T:TD):(slTd T).Body Tryz.prog 263/\(slTd T).BodyD Tryz.prog 263:=by
 refine genS_body (fn:=Tryz.f263) (b:=bodyOf Tryz.f263) (LT:=fun _=>[]) ftOk nofOk 1000 (fun _ _=>LTok.nil) (by kernel_rfl) (by kernel_rfl) ?_
 exact fun a _=>Ho.of (rmR0 T a.1 a.2) (by kernel_rfl) (rm_r0 T a.1 a.2)
theorem slTabs1_ok (T:TD):TabOk Tryz.prog (slTabs1 T):=by
 refine⟨fun f s h=>?_,fun f s h=>(by cases h)⟩
 unfold slTabs1 at h
 simp only at h
 split at h
 ·cases h;exact genS_ok sc_fok (sl_td T).1
 ·cases h
theorem sl_trD (T:TD) (i:Nat):(slTrD T i).Body Tryz.prog (sub (bodyOf Tryz.f263) [0,0,1,1]):=
 LoopD.bodyH (root:=bodyOf Tryz.f263) [0,0,1,1] ftOk (slTabs1_ok T) LTok.nil 1000 (fun k hk=>Ho.of (fsR1 T i k) (by kernel_rfl) (fs_r1 T i k hk))
theorem sl_tr (T:TD):(slTr T).Body Tryz.prog 263/\(slTr T).BodyD Tryz.prog 263:=by
 refine genS_body (fn:=Tryz.f263) (b:=bodyOf Tryz.f263) (LT:=fun i=>[([0,1,1],(slTrD T i).at (0:Nat))]) ftOk (slTabs1_ok T) 1000 (fun i _=>LTok.cons (fun fr H K hk=>LoopD.ok (sl_trD T i) hk) LTok.nil) (by kernel_rfl) (by kernel_rfl) ?_
 exact fun i hi=>Ho.of (mtR2 T i) (by kernel_rfl) (mt_r2 T i hi)
theorem slTabs2_ok (T:TD):TabOk Tryz.prog (slTabs2 T):=by
 refine⟨fun f s h=>?_,fun f s h=>(by cases h)⟩
 unfold slTabs2 at h
 simp only at h
 split at h
 ·cases h;exact genS_ok sc_fok (sl_tr T).1
 ·cases h
theorem sl_tbD (T:TD) (hT:T.Ok):(slTbD T).Body Tryz.prog (sub (bodyOf Tryz.f263) [0,0,1,1]):=
 LoopD.bodyH (root:=bodyOf Tryz.f263) [0,0,1,1] ftOk (slTabs2_ok T) LTok.nil 1000 (fun k hk=>Ho.of (fsR3 T k) (by kernel_rfl) (fs_r3 T hT k hk))
theorem sl_tb (T:TD):(slTb T).Body Tryz.prog 263/\(slTb T).BodyD Tryz.prog 263:=by
 refine genS_body (fn:=Tryz.f263) (b:=bodyOf Tryz.f263) (LT:=fun _=>[([0,1,1],(slTbD T).at (0:Nat))]) ftOk (slTabs2_ok T) 1000 (fun _ hT=>LTok.cons (fun fr H K hk=>LoopD.ok (sl_tbD T hT) hk) LTok.nil) (by kernel_rfl) (by kernel_rfl) ?_
 exact fun _ hT=>Ho.of (mtR4 T) (by kernel_rfl) (mt_r4 T hT)
theorem slTabs3_ok (T:TD):TabOk Tryz.prog (slTabs3 T):=by
 refine⟨fun f s h=>?_,fun f s h=>(by cases h)⟩
 unfold slTabs3 at h
 simp only at h
 split at h
 ·cases h;exact genS_ok sc_fok (sl_tb T).1
 ·cases h
theorem sl_tl (T:TD):(slTl T).Body Tryz.prog 263/\(slTl T).BodyD Tryz.prog 263:=by
 refine genS_body (fn:=Tryz.f263) (b:=bodyOf Tryz.f263) (LT:=fun _=>[]) ftOk (slTabs3_ok T) 1000 (fun _ _=>LTok.nil) (by kernel_rfl) (by kernel_rfl) ?_
 exact fun _ hT=>Ho.of (rmR5 T) (by kernel_rfl) (rm_r5 T hT)
theorem slTabs4_ok (T:TD):TabOk Tryz.prog (slTabs4 T):=by
 refine⟨fun f s h=>?_,fun f s h=>(by cases h)⟩
 unfold slTabs4 at h
 simp only at h
 split at h
 ·cases h;exact genS_ok sc_fok (sl_tl T).1
 ·cases h
theorem sl_to (T:TD):(slTo T).Body Tryz.prog 263/\(slTo T).BodyD Tryz.prog 263:=by
 refine genS_body (fn:=Tryz.f263) (b:=bodyOf Tryz.f263) (LT:=fun _=>[]) ftOk (slTabs4_ok T) 1000 (fun _ _=>LTok.nil) (by kernel_rfl) (by kernel_rfl) ?_
 exact fun _ hT=>Ho.of (rmR5 T) (by kernel_rfl) (rm_r5 T hT)
theorem slTabs5_ok (T:TD):TabOk Tryz.prog (slTabs5 T):=by
 refine⟨fun f s h=>?_,fun f s h=>(by cases h)⟩
 unfold slTabs5 at h
 simp only at h
 split at h
 ·cases h;exact genS_ok sc_fok (sl_to T).1
 ·cases h
theorem wlU_ok (T:TD) (hT:T.Ok):TabOk Tryz.prog (wlU T):=by
 refine⟨fun f s h=>?_,fun f s h=>(by cases h)⟩
 unfold wlU at h
 simp only at h
 split at h
 ·cases h;exact genS_ok sc_fok (sl_to T).1
 ·cases h
theorem wl_ok (T:TD) (hT:T.Ok):(wlS T).Body Tryz.prog 215/\(wlS T).BodyD Tryz.prog 215:=by
 refine genS_body (fn:=Tryz.f215) (b:=(bodyOf Tryz.f215)) (LT:=fun _=>[]) ftOk (wlU_ok T hT) 1000 (fun a ha=>LTok.nil) (by kernel_rfl) (by kernel_rfl) ?_
 exact fun a ha=>Ho.of (rmR5 T) (by kernel_rfl) (wc_r T ha)
theorem wlTabs_ok (T:TD) (hT:T.Ok):TabOk Tryz.prog (wlTabs T):=by
 refine⟨fun f s h=>?_,fun f s h=>(by cases h)⟩
 unfold wlTabs at h
 simp only at h
 split at h
 ·cases h;exact genS_ok wc_fok (wl_ok T hT).1
 ·cases h
theorem as_D (T:TD) (hT:T.Ok):(asD T).Body Tryz.prog (sub (bodyOf Tryz.f218) [0,0,1]):=by
 refine LoopD.bodyH (root:=bodyOf Tryz.f218) [0,0,1] ftOk (nofOk) LTok.nil 1000 ?_
 rintro⟨x,e⟩ hj
 cases e with
 |true=>exact Ho.of (maREnd T x) (by kernel_rfl) (ma_rEnd T x)
 |false=>
  have hv:T.Val x:=(hj rfl).1
  rcases hv with h|h|h|⟨i,hi,h⟩|⟨i,k,hi,hk,h⟩|⟨i,k,hi,hk,h⟩<;>subst h
  ·exact Ho.of (maRDoc T) (by kernel_rfl) (ma_rDoc T)
  ·exact Ho.of (maRTbl T) (by kernel_rfl) (ma_rTbl T)
  ·exact Ho.of (maRTbd T) (by kernel_rfl) (ma_rTbd T hT.1)
  ·exact Ho.of (maRTr T i) (by kernel_rfl) (ma_rTr T i hi (hT.2 i hi))
  ·exact Ho.of (maRTd T i k) (by kernel_rfl) (ma_rTd T i k hi hk)
  ·exact absurd rfl (hj rfl).2
theorem as_fok:FunOk Tryz.prog 218:=⟨Tryz.f218,by kernel_rfl,rfl,by kernel_rfl⟩
theorem as_ok (T:TD) (hT:T.Ok):(asS T).Body Tryz.prog 218/\(asS T).BodyD Tryz.prog 218:=by
 refine genS_body (fn:=Tryz.f218) (b:=bodyOf Tryz.f218) (LT:=fun _=>[([0,1],(asD T).at (doc,false))]) ftOk (nofOk) 1000 (fun _ _=>LTok.cons (fun fr H K hk=>LoopD.ok (as_D T hT) hk) LTok.nil) (by kernel_rfl) (by kernel_rfl) ?_
 exact fun _ _=>Ho.of (maRTop T) (by kernel_rfl) (ma_rTop T)
end Tk
