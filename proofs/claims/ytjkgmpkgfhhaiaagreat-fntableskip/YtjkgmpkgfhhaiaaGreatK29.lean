/- Lemmas of this claim; the last text says what is proved. -/
import Derived.Test.YtjkgmpkgfhhaiaaGreatK21
import Derived.Test.YtjkgmpkgfhhaiaaGreatK28
import Derived.Test.YtjkgmpkgfhhaiaaGreatK20
import Derived.Test.YtjkgmpkgfhhaiaaGreatK25
import Derived.Test.YtjkgmpkgfhhaiaaGreatK24
set_option linter.all false
set_option maxRecDepth 1000000
namespace Tk
open Go Go.Sx Go.Proofs
variable [Syms]
def hcR (T:TD):Prop:=
 letI b:=domB T=domB T;letI a:=Value.nilFunc=Value.nilFunc;b/\TD.Ok T/\a/\a/\∀(x:Unit),True->∃(x:Unit),True/\b/\True/\True/\True
theorem hcU_ok (T:TD) (hT:T.Ok):TabOk Tryz.prog (hcU T):=by
 refine⟨fun f s h=>?_,fun f s h=>(by cases h)⟩
 unfold hcU at h
 simp only at h
 split at h
 ·cases h;exact genS_ok co_fok (co_ok T hT).1
 ·cases h
theorem hc_r (T:TD) (hT:T.Ok):hcR T:=by
 unfold hcR
 try simp only[br_iff,gd_iff,Bool.and_eq_true,sj5,leB_iff,sj3,sj7]
 repeat' (first|done|omega|exact rfl|exact trivial|assumption|exact()|intro _|refine⟨?_,?_⟩)
theorem hc_fok:FunOk Tryz.prog 134:=⟨Tryz.f134,by kernel_rfl,rfl,by kernel_rfl⟩
theorem hc_ok (T:TD) (hT:T.Ok):(hrS T).Body Tryz.prog 134/\(hrS T).BodyD Tryz.prog 134:=by
 refine genS_body (fn:=Tryz.f134) (b:=(bodyOf Tryz.f134)) (LT:=fun _=>[]) ftOk (hcU_ok T hT) 1000 (fun a ha=>LTok.nil) (by kernel_rfl) (by kernel_rfl) ?_
 exact fun a ha=>Ho.of (hcR T) (by kernel_rfl) (hc_r T ha)
theorem hcTabs_ok (T:TD) (hT:T.Ok):TabOk Tryz.prog (hcTabs T):=by
 refine⟨fun f s h=>?_,fun f s h=>(by cases h)⟩
 unfold hcTabs at h
 simp only at h
 split at h
 ·cases h;exact genS_ok hc_fok (hc_ok T hT).1
 ·cases h
theorem le_D (T:TD) (hT:T.Ok):(leD T).Body Tryz.prog (sub (bodyOf Tryz.f189) [0,0,1]):=by
 refine LoopD.bodyH (root:=bodyOf Tryz.f189) [0,0,1] ftOk (nofOk) LTok.nil 1000 ?_
 rintro⟨x,e⟩ hj
 cases e with
 |true=>exact Ho.of (maREnd T x) (by kernel_rfl) (ma_rEnd T x)
 |false=>
  have hv:T.Val x:=(hj rfl).1
  rcases hv with h|h|h|⟨i,hi,h⟩|⟨i,k,hi,hk,h⟩|⟨i,k,hi,hk,h⟩<;>subst h
  ·exact Ho.of (maRDoc T) (by kernel_rfl) (ma_rDoc T)
  ·exact Ho.of (maRTbl T) (by kernel_rfl) (ma_rTbl T)
  ·exact Ho.of (maRTbd T) (by kernel_rfl) (ma_rTbd T hT.1)
  ·exact Ho.of (maRTr T i) (by kernel_rfl) (ma_rTr T i hi (hT.2 i hi))
  ·exact Ho.of (mbRTd T i k) (by kernel_rfl) (mb_rTd T i k hi hk)
  ·exact absurd rfl (hj rfl).2
theorem le_fok:FunOk Tryz.prog 189:=⟨Tryz.f189,by kernel_rfl,rfl,by kernel_rfl⟩
theorem le_ok (T:TD) (hT:T.Ok):(reS T).Body Tryz.prog 189/\(reS T).BodyD Tryz.prog 189:=by
 refine genS_body (fn:=Tryz.f189) (b:=bodyOf Tryz.f189) (LT:=fun _=>[([0,1],(leD T).at (doc,false))]) ftOk (nofOk) 1000 (fun _ _=>LTok.cons (fun fr H K hk=>LoopD.ok (le_D T hT) hk) LTok.nil) (by kernel_rfl) (by kernel_rfl) ?_
 exact fun _ _=>Ho.of (maRTop T) (by kernel_rfl) (ma_rTop T)
end Tk
namespace Tk
open Go Go.Sx Go.Proofs
open Q
variable [Syms]
def f3DRTbd (T:TD):Prop:=
 ∃(j':SId×Bool),(j'.snd=false->j'.1=SId.mk 3 0 0\/(∃(i:Nat),i<T.R/\j'.1=SId.mk 4 i 0)\/(∃(i:Nat),∃(k:Nat),i<T.R/\k<T.C i/\j'.1=SId.mk 5 i k)\/∃(i:Nat),∃(k:Nat),i<T.R/\k<T.C i/\j'.1=SId.mk 6 i k)/\TD.mu T j'<TD.mu T (SId.mk 3 0 0,false)/\domB T=domB T/\br j'.snd False (gd (Nat.beq 4 j'.fst.1&&(Nat.beq 0 j'.fst.2&&Nat.beq 0 j'.fst.3)&&true) True)
def f3DRTr (T:TD) (i:Nat):Prop:=
 ∃(j':SId×Bool),(j'.snd=false->j'.1=SId.mk 3 0 0\/(∃(i:Nat),i<T.R/\j'.1=SId.mk 4 i 0)\/(∃(i:Nat),∃(k:Nat),i<T.R/\k<T.C i/\j'.1=SId.mk 5 i k)\/∃(i:Nat),∃(k:Nat),i<T.R/\k<T.C i/\j'.1=SId.mk 6 i k)/\TD.mu T j'<TD.mu T (SId.mk 4 i 0,false)/\domB T=domB T/\br j'.snd False (gd (Nat.beq 5 j'.fst.1&&(Nat.beq i j'.fst.2&&Nat.beq 0 j'.fst.3)&&true) True)
def f3DRTd (T:TD) (i:Nat) (j:Nat):Prop:=
 letI e:=SId×Bool;letI d:=SId.mk 3 0 0;letI c:=domB T=domB T;letI b:=TD.mu T (SId.mk 5 i j,false);letI a:=br (TD.hasT T i j) (∃(j':e),(j'.snd=false->j'.1=d\/(∃(i:Nat),i<T.R/\j'.1=SId.mk 4 i 0)\/(∃(i:Nat),∃(k:Nat),i<T.R/\k<T.C i/\j'.1=SId.mk 5 i k)\/∃(i:Nat),∃(k:Nat),i<T.R/\k<T.C i/\j'.1=SId.mk 6 i k)/\TD.mu T j'<b/\c/\br j'.snd False (gd (Nat.beq 6 j'.fst.1&&(Nat.beq i j'.fst.2&&Nat.beq j j'.fst.3)&&true) True)) (br (Nat.blt (j+1) (T.C i)) (∃(j':e),(j'.snd=false->j'.1=d\/(∃(i:Nat),i<T.R/\j'.1=SId.mk 4 i 0)\/(∃(i:Nat),∃(k:Nat),i<T.R/\k<T.C i/\j'.1=SId.mk 5 i k)\/∃(i:Nat),∃(k:Nat),i<T.R/\k<T.C i/\j'.1=SId.mk 6 i k)/\TD.mu T j'<b/\c/\br j'.snd False (gd (Nat.beq 5 j'.fst.1&&(Nat.beq i j'.fst.2&&Nat.beq (j+1) j'.fst.3)&&true) True)) (br (Nat.blt (i+1) T.R) (∃(j':e),(j'.snd=false->j'.1=d\/(∃(i:Nat),i<T.R/\j'.1=SId.mk 4 i 0)\/(∃(i:Nat),∃(k:Nat),i<T.R/\k<T.C i/\j'.1=SId.mk 5 i k)\/∃(i:Nat),∃(k:Nat),i<T.R/\k<T.C i/\j'.1=SId.mk 6 i k)/\TD.mu T j'<b/\c/\br j'.snd False (gd (Nat.beq 4 j'.fst.1&&(Nat.beq (i+1) j'.fst.2&&Nat.beq 0 j'.fst.3)&&true) True)) (∃(j':e),(j'.snd=false->j'.1=d\/(∃(i:Nat),i<T.R/\j'.1=SId.mk 4 i 0)\/(∃(i:Nat),∃(k:Nat),i<T.R/\k<T.C i/\j'.1=SId.mk 5 i k)\/∃(i:Nat),∃(k:Nat),i<T.R/\k<T.C i/\j'.1=SId.mk 6 i k)/\TD.mu T j'<b/\c/\br j'.snd True False)));br (Nat.beq i 0&&T.hd) a a
def f3DRTx (T:TD) (i:Nat) (j:Nat):Prop:=
 letI d:=SId×Bool;letI c:=SId.mk 3 0 0;letI b:=domB T=domB T;letI a:=TD.mu T (SId.mk 6 i j,false);br (Nat.blt (j+1) (T.C i)) (∃(j':d),(j'.snd=false->j'.1=c\/(∃(i:Nat),i<T.R/\j'.1=SId.mk 4 i 0)\/(∃(i:Nat),∃(k:Nat),i<T.R/\k<T.C i/\j'.1=SId.mk 5 i k)\/∃(i:Nat),∃(k:Nat),i<T.R/\k<T.C i/\j'.1=SId.mk 6 i k)/\TD.mu T j'<a/\b/\br j'.snd False (gd (Nat.beq 5 j'.fst.1&&(Nat.beq i j'.fst.2&&Nat.beq (j+1) j'.fst.3)&&true) True)) (br (Nat.blt (i+1) T.R) (∃(j':d),(j'.snd=false->j'.1=c\/(∃(i:Nat),i<T.R/\j'.1=SId.mk 4 i 0)\/(∃(i:Nat),∃(k:Nat),i<T.R/\k<T.C i/\j'.1=SId.mk 5 i k)\/∃(i:Nat),∃(k:Nat),i<T.R/\k<T.C i/\j'.1=SId.mk 6 i k)/\TD.mu T j'<a/\b/\br j'.snd False (gd (Nat.beq 4 j'.fst.1&&(Nat.beq (i+1) j'.fst.2&&Nat.beq 0 j'.fst.3)&&true) True)) (∃(j':d),(j'.snd=false->j'.1=c\/(∃(i:Nat),i<T.R/\j'.1=SId.mk 4 i 0)\/(∃(i:Nat),∃(k:Nat),i<T.R/\k<T.C i/\j'.1=SId.mk 5 i k)\/∃(i:Nat),∃(k:Nat),i<T.R/\k<T.C i/\j'.1=SId.mk 6 i k)/\TD.mu T j'<a/\b/\br j'.snd True False))
def f3R (T:TD):Prop:=
 letI b:=SId.mk 3 0 0;letI a:=domB T=domB T;(false=false->b=b\/(∃(i:Nat),i<T.R/\b=SId.mk 4 i 0)\/(∃(i:Nat),∃(k:Nat),i<T.R/\k<T.C i/\b=SId.mk 5 i k)\/∃(i:Nat),∃(k:Nat),i<T.R/\k<T.C i/\b=SId.mk 6 i k)/\(a/\True)/\∀(x:Unit),True->∃(x:Unit),True/\a/\True/\True/\True
theorem f3D_rTbd (T:TD) (h:0<T.R):f3DRTbd T:=by
 unfold f3DRTbd
 try simp only[sj11,sj5,sj8,false_implies,true_implies]
 repeat' (first|done|(refine nx_goT (nx_tbd h) (TD.sdTr h) ?_;simp[br_iff,gd_iff,nodeV,doc,tbl,tbd,Tk.tr,Tk.td,Tk.tx];done)|exact rfl|exact trivial|omega|exact TD.sdT0|exact Or.inl trivial|exact Or.inl rfl|exact()|intro _|refine⟨?_,?_⟩)
theorem f3D_rTr (T:TD) (i:Nat) (h:i<T.R) (hc:0<T.C i):f3DRTr T i:=by
 unfold f3DRTr
 try simp only[sj11,sj5,sj8,false_implies,true_implies]
 repeat' (first|done|(refine nx_goT (nx_tr h hc) (TD.sdTd h hc) ?_;simp[br_iff,gd_iff,nodeV,doc,tbl,tbd,Tk.tr,Tk.td,Tk.tx];done)|exact rfl|exact trivial|omega|exact TD.sdT0|exact Or.inl trivial|exact Or.inl rfl|exact()|intro _|refine⟨?_,?_⟩)
theorem f3D_rTd (T:TD) (i j:Nat) (h:i<T.R) (hc:j<T.C i):f3DRTd T i j:=by
 unfold f3DRTd
 try simp only[sj11,sj5,sj8,false_implies,true_implies]
 repeat' (first|done|(refine nx_goT (nx_td h hc) (TD.sdTx h hc) ?_;simp[br_iff,gd_iff,nodeV,doc,tbl,tbd,Tk.tr,Tk.td,Tk.tx];done)|(refine nx_goT (nx_tdn h (by omega)) (TD.sdTd h (by omega)) ?_;simp[br_iff,gd_iff,nodeV,doc,tbl,tbd,Tk.tr,Tk.td,Tk.tx];done)|(refine nx_goT (nx_tdr (by omega) hc) (TD.sdTr (by omega)) ?_;simp[br_iff,gd_iff,nodeV,doc,tbl,tbd,Tk.tr,Tk.td,Tk.tx];done)|(refine nx_goT (nx_tde h hc) (TD.sdTe) ?_;simp[br_iff,gd_iff,nodeV,doc,tbl,tbd,Tk.tr,Tk.td,Tk.tx];done)|exact rfl|exact trivial|omega|exact TD.sdT0|exact Or.inl trivial|exact Or.inl rfl|exact()|intro _|refine⟨?_,?_⟩)
theorem f3D_rTx (T:TD) (i j:Nat) (h:i<T.R) (hc:j<T.C i):f3DRTx T i j:=by
 unfold f3DRTx
 try simp only[sj11,sj5,sj8,false_implies,true_implies]
 repeat' (first|done|(refine nx_goT (nx_txn h (by omega)) (TD.sdTd h (by omega)) ?_;simp[br_iff,gd_iff,nodeV,doc,tbl,tbd,Tk.tr,Tk.td,Tk.tx];done)|(refine nx_goT (nx_txr (by omega) hc) (TD.sdTr (by omega)) ?_;simp[br_iff,gd_iff,nodeV,doc,tbl,tbd,Tk.tr,Tk.td,Tk.tx];done)|(refine nx_goT (nx_txe h hc) (TD.sdTe) ?_;simp[br_iff,gd_iff,nodeV,doc,tbl,tbd,Tk.tr,Tk.td,Tk.tx];done)|exact rfl|exact trivial|omega|exact TD.sdT0|exact Or.inl trivial|exact Or.inl rfl|exact()|intro _|refine⟨?_,?_⟩)
theorem f3D_rEnd (T:TD) (x:SId):maREnd T x:=by
 unfold maREnd
 try simp only[sj11,sj5,sj8,false_implies,true_implies]
 repeat' (first|done|done|exact rfl|exact trivial|omega|exact TD.sdT0|exact Or.inl trivial|exact Or.inl rfl|exact()|intro _|refine⟨?_,?_⟩)
theorem f3D_b (T:TD) (hT:T.Ok):(f3D T).Body Tryz.prog (sub (bodyOf Tryz.f422) [0,0,0,1,1,1]):=by
 refine LoopD.bodyH (root:=(bodyOf Tryz.f422)) [0,0,0,1,1,1] ftOk (nofOk) (LTok.nil) 1000 ?_
 rintro⟨x,e⟩ hj
 cases e with
 |true=>exact Ho.of (maREnd T x) (by kernel_rfl) (f3D_rEnd T x)
 |false=>
  have hv:=hj rfl
  rcases hv with h|⟨i,hi,h⟩|⟨i,k,hi,hk,h⟩|⟨i,k,hi,hk,h⟩<;>simp only at h<;>subst h
  ·exact Ho.of (f3DRTbd T) (by kernel_rfl) (f3D_rTbd T hT.1)
  ·exact Ho.of (f3DRTr T i) (by kernel_rfl) (f3D_rTr T i hi (hT.2 i hi))
  ·exact Ho.of (f3DRTd T i k) (by kernel_rfl) (f3D_rTd T i k hi hk)
  ·exact Ho.of (f3DRTx T i k) (by kernel_rfl) (f3D_rTx T i k hi hk)
theorem f3_r (T:TD):f3R T:=by
 unfold f3R
 try simp only[sj11,sj5,sj8,false_implies,true_implies]
 repeat' (first|done|done|exact rfl|exact trivial|omega|exact TD.sdT0|exact Or.inl trivial|exact Or.inl rfl|exact()|intro _|refine⟨?_,?_⟩)
theorem f3_fok:FunOk Tryz.prog 422:=⟨Tryz.f422,by kernel_rfl,rfl,by kernel_rfl⟩
theorem f3_ok (T:TD):(f3S T).Body Tryz.prog 422/\(f3S T).BodyD Tryz.prog 422:=by
 refine genS_body (fn:=Tryz.f422) (b:=(bodyOf Tryz.f422)) (LT:=fun _=>[([0,0,1,1,1],(f3D T).at (tbd,false))]) ftOk (nofOk) 1000 (fun _ ha=>LTok.cons (fun fr H K hk=>LoopD.ok (f3D_b T ha) hk) (LTok.nil)) (by kernel_rfl) (by kernel_rfl) ?_
 exact fun a ha=>Ho.of (f3R T) (by kernel_rfl) (f3_r T)
theorem f5D_b (T:TD) (hT:T.Ok):(f5D T).Body Tryz.prog (sub (bodyOf Tryz.f422) [0,0,0,1,1,1]):=by
 refine LoopD.bodyH (root:=(bodyOf Tryz.f422)) [0,0,0,1,1,1] ftOk (nofOk) (LTok.nil) 1000 ?_
 rintro⟨x,e⟩ hj
 cases e with
 |true=>exact Ho.of (maREnd T x) (by kernel_rfl) (f3D_rEnd T x)
 |false=>
  have hv:=hj rfl
  rcases hv with h|⟨i,hi,h⟩|⟨i,k,hi,hk,h⟩|⟨i,k,hi,hk,h⟩<;>simp only at h<;>subst h
  ·exact Ho.of (f3DRTbd T) (by kernel_rfl) (f3D_rTbd T hT.1)
  ·exact Ho.of (f3DRTr T i) (by kernel_rfl) (f3D_rTr T i hi (hT.2 i hi))
  ·exact Ho.of (f3DRTd T i k) (by kernel_rfl) (f3D_rTd T i k hi hk)
  ·exact Ho.of (f3DRTx T i k) (by kernel_rfl) (f3D_rTx T i k hi hk)
theorem f5_ok (T:TD):(f5S T).Body Tryz.prog 422/\(f5S T).BodyD Tryz.prog 422:=by
 refine genS_body (fn:=Tryz.f422) (b:=(bodyOf Tryz.f422)) (LT:=fun _=>[([0,0,1,1,1],(f5D T).at (tbd,false))]) ftOk (nofOk) 1000 (fun _ ha=>LTok.cons (fun fr H K hk=>LoopD.ok (f5D_b T ha) hk) (LTok.nil)) (by kernel_rfl) (by kernel_rfl) ?_
 exact fun a ha=>Ho.of (f3R T) (by kernel_rfl) (f3_r T)
def f7DRTd (T:TD) (i:Nat) (j:Nat):Prop:=
 letI d:=SId×Bool;letI c:=SId.mk 3 0 0;letI b:=domB T=domB T;letI a:=TD.mu T (SId.mk 5 i j,false);br (Nat.beq i 0&&T.hd) False (br (TD.hasT T i j) (∃(j':d),(j'.snd=false->j'.1=c\/(∃(i:Nat),i<T.R/\j'.1=SId.mk 4 i 0)\/(∃(i:Nat),∃(k:Nat),i<T.R/\k<T.C i/\j'.1=SId.mk 5 i k)\/∃(i:Nat),∃(k:Nat),i<T.R/\k<T.C i/\j'.1=SId.mk 6 i k)/\TD.mu T j'<a/\b/\br j'.snd False (gd (Nat.beq 6 j'.fst.1&&(Nat.beq i j'.fst.2&&Nat.beq j j'.fst.3)&&true) True)) (br (Nat.blt (j+1) (T.C i)) (∃(j':d),(j'.snd=false->j'.1=c\/(∃(i:Nat),i<T.R/\j'.1=SId.mk 4 i 0)\/(∃(i:Nat),∃(k:Nat),i<T.R/\k<T.C i/\j'.1=SId.mk 5 i k)\/∃(i:Nat),∃(k:Nat),i<T.R/\k<T.C i/\j'.1=SId.mk 6 i k)/\TD.mu T j'<a/\b/\br j'.snd False (gd (Nat.beq 5 j'.fst.1&&(Nat.beq i j'.fst.2&&Nat.beq (j+1) j'.fst.3)&&true) True)) (br (Nat.blt (i+1) T.R) (∃(j':d),(j'.snd=false->j'.1=c\/(∃(i:Nat),i<T.R/\j'.1=SId.mk 4 i 0)\/(∃(i:Nat),∃(k:Nat),i<T.R/\k<T.C i/\j'.1=SId.mk 5 i k)\/∃(i:Nat),∃(k:Nat),i<T.R/\k<T.C i/\j'.1=SId.mk 6 i k)/\TD.mu T j'<a/\b/\br j'.snd False (gd (Nat.beq 4 j'.fst.1&&(Nat.beq (i+1) j'.fst.2&&Nat.beq 0 j'.fst.3)&&true) True)) (∃(j':d),(j'.snd=false->j'.1=c\/(∃(i:Nat),i<T.R/\j'.1=SId.mk 4 i 0)\/(∃(i:Nat),∃(k:Nat),i<T.R/\k<T.C i/\j'.1=SId.mk 5 i k)\/∃(i:Nat),∃(k:Nat),i<T.R/\k<T.C i/\j'.1=SId.mk 6 i k)/\TD.mu T j'<a/\b/\br j'.snd True False))))
theorem f7D_rTd (T:TD) (i j:Nat) (h:i<T.R) (hc:j<T.C i) (hh:T.hd=false):f7DRTd T i j:=by
 unfold f7DRTd
 simp only[hh,Bool.and_false,Bool.false_eq_true]
 try simp only[sj11,sj5,sj8,false_implies,true_implies]
 repeat' (first|done|(refine nx_goT (nx_td h hc) (TD.sdTx h hc) ?_;simp[br_iff,gd_iff,nodeV,doc,tbl,tbd,Tk.tr,Tk.td,Tk.tx];done)|(refine nx_goT (nx_tdn h (by omega)) (TD.sdTd h (by omega)) ?_;simp[br_iff,gd_iff,nodeV,doc,tbl,tbd,Tk.tr,Tk.td,Tk.tx];done)|(refine nx_goT (nx_tdr (by omega) hc) (TD.sdTr (by omega)) ?_;simp[br_iff,gd_iff,nodeV,doc,tbl,tbd,Tk.tr,Tk.td,Tk.tx];done)|(refine nx_goT (nx_tde h hc) (TD.sdTe) ?_;simp[br_iff,gd_iff,nodeV,doc,tbl,tbd,Tk.tr,Tk.td,Tk.tx];done)|exact rfl|exact trivial|omega|exact TD.sdT0|exact Or.inl trivial|exact Or.inl rfl|exact()|intro _|refine⟨?_,?_⟩)
theorem f7D_b (T:TD) (hT:T.Ok/\T.hd=false):(f7D T).Body Tryz.prog (sub (bodyOf Tryz.f422) [0,0,0,1,1,1]):=by
 refine LoopD.bodyH (root:=(bodyOf Tryz.f422)) [0,0,0,1,1,1] ftOk (nofOk) (LTok.nil) 1000 ?_
 obtain⟨hT,hh⟩:=hT
 rintro⟨x,e⟩ hj
 cases e with
 |true=>exact Ho.of (maREnd T x) (by kernel_rfl) (f3D_rEnd T x)
 |false=>
  have hv:=hj rfl
  rcases hv with h|⟨i,hi,h⟩|⟨i,k,hi,hk,h⟩|⟨i,k,hi,hk,h⟩<;>simp only at h<;>subst h
  ·exact Ho.of (f3DRTbd T) (by kernel_rfl) (f3D_rTbd T hT.1)
  ·exact Ho.of (f3DRTr T i) (by kernel_rfl) (f3D_rTr T i hi (hT.2 i hi))
  ·exact Ho.of (f7DRTd T i k) (by kernel_rfl) (f7D_rTd T i k hi hk hh)
  ·exact Ho.of (f3DRTx T i k) (by kernel_rfl) (f3D_rTx T i k hi hk)
theorem f7_ok (T:TD):(f7S T).Body Tryz.prog 422/\(f7S T).BodyD Tryz.prog 422:=by
 refine genS_body (fn:=Tryz.f422) (b:=(bodyOf Tryz.f422)) (LT:=fun _=>[([0,0,1,1,1],(f7D T).at (tbd,false))]) ftOk (nofOk) 1000 (fun _ ha=>LTok.cons (fun fr H K hk=>LoopD.ok (f7D_b T ha) hk) (LTok.nil)) (by kernel_rfl) (by kernel_rfl) ?_
 exact fun a ha=>Ho.of (f3R T) (by kernel_rfl) (f3_r T)
def f8R (T:TD):Prop:=
 ∃(x:Unit),True/\domB (TD.wh T true)=domB (TD.wh T true)/\True/\True/\True
theorem f8_r (T:TD):f8R T:=by
 unfold f8R
 try simp only[br_iff,gd_iff,Bool.and_eq_true,sj5,leB_iff,leB_iff',sj3,sj7]
 repeat' (first|done|omega|exact rfl|exact trivial|assumption|exact()|intro _|refine⟨?_,?_⟩)
theorem f8_ok (T:TD):(f8S T).Body Tryz.prog 422/\(f8S T).BodyD Tryz.prog 422:=by
 refine genS_body (fn:=Tryz.f422) (b:=(bodyOf Tryz.f422)) (LT:=fun _=>[]) ftOk (nofOk) 1000 (fun a ha=>LTok.nil) (by kernel_rfl) (by kernel_rfl) ?_
 intro a ha
 obtain⟨T',rfl⟩:∃T':TD,T=T'.wh true:=⟨T,by cases T;simp only[TD.wh] at ha⊢;have ha:_=true:=ha;rw[←ha]⟩
 exact Ho.of (f8R T') (by kernel_rfl) (f8_r T')
def shR (T:TD):Prop:=
 letI b:=True/\True;letI a:=domB T=domB T;a/\TD.Ok T/\∀(x:Unit),True->br T.hd (a/\T.hd=true/\∀(x:Unit),True->∃(x:Unit),True/\a/\b/\True/\br T.hd True False) (a/\(TD.Ok T/\T.hd=false)/\∀(x:Unit),True->∃(x:Unit),True/\a/\b/\True/\br T.hd False True)
theorem shU_ok (T:TD):TabOk Tryz.prog (shU T):=by
 refine⟨fun f s h=>?_,fun f s h=>?_⟩
 ·unfold shU at h
  simp only at h
  split at h
  ·cases h;exact orS_ok (genS_ok f3_fok (f3_ok T).1) (orS_ok (genS_ok f3_fok (f5_ok T).1) (iteS_ok (genS_ok f3_fok (f8_ok T).1) (genS_ok f3_fok (f7_ok T).1)))
  ·cases h
 ·cases h
theorem sh_r (T:TD) (ok:T.Ok):shR T:=by
 unfold shR
 try simp only[br_iff,gd_iff,Bool.and_eq_true,sj5,leB_iff,leB_iff',sj3,sj7]
 exact⟨ok,fun h=>⟨h,fun h2=>by rw[h] at h2;cases h2⟩,fun h=>⟨⟨ok,h⟩,fun h2=>by rw[h] at h2;cases h2⟩⟩
theorem sh_fok:FunOk Tryz.prog 413:=⟨Tryz.f413,by kernel_rfl,rfl,by kernel_rfl⟩
theorem sh_ok (T:TD):(shS T).Body Tryz.prog 413/\(shS T).BodyD Tryz.prog 413:=by
 refine genS_body (fn:=Tryz.f413) (b:=(bodyOf Tryz.f413)) (LT:=fun _=>[]) ftOk (shU_ok T) 1000 (fun a ha=>LTok.nil) (by kernel_rfl) (by kernel_rfl) ?_
 exact fun a ha=>Ho.of (shR T) (by kernel_rfl) (sh_r T ha)
theorem nt_r (T:TD) (i j:Nat):rmR0 T i j:=by
 unfold rmR0
 try simp only[br_iff,gd_iff,Bool.and_eq_true,sj5,leB_iff,leB_iff',sj3,sj7]
 repeat' (first|done|omega|exact rfl|exact trivial|assumption|exact()|intro _|refine⟨?_,?_⟩)
theorem nt_fok:FunOk Tryz.prog 428:=⟨Tryz.f428,by kernel_rfl,rfl,by kernel_rfl⟩
theorem nt_ok (T:TD):(ntS T).Body Tryz.prog 428/\(ntS T).BodyD Tryz.prog 428:=by
 refine genS_body (fn:=Tryz.f428) (b:=(bodyOf Tryz.f428)) (LT:=fun _=>[]) ftOk (nofOk) 1000 (fun a ha=>LTok.nil) (by kernel_rfl) (by kernel_rfl) ?_
 exact fun a ha=>Ho.of (rmR0 T a.1 a.2) (by kernel_rfl) (nt_r T a.1 a.2)
def nuDR (T:TD) (i:Nat) (k:Nat):Prop:=
 letI c:=T.C i;letI b:=domB T=domB T;letI a:=br T.hd (br T.hd True False) (br T.hd False True);br (Nat.blt k c) (b/\True/\gd (Nat.beq i i&&Nat.beq k k&&true) (∀(x:Unit),True->br (Nat.blt (k+1) c) (∃(j':Nat),Nat.le j' c/\c-j'<c-k/\b/\br (Nat.blt j' c) (gd (Nat.beq i i&&Nat.beq (k+1) j'&&true) a) False) (∃(j':Nat),Nat.le j' c/\c-j'<c-k/\b/\br (Nat.blt j' c) False a))) (∃(x:Unit),True/\b/\a)
def nuR (T:TD):Prop:=
 letI c:=domB (TD.wh T true);letI b:=c=c;letI a:=(TD.mk T.R T.2 true T.4 T.pad T.keep T.span T.promote T.pres T.10 T.11 T.12 T.13 T.oP T.oK T.oM).C 0;Nat.le 0 a/\(b/\br (Nat.blt 0 a) True False)/\∀(x:Unit),True->∃(x:Unit),True/\b/\True/\True/\True
theorem nuU_ok (T:TD):TabOk Tryz.prog (nuU T):=by
 refine⟨fun f s h=>?_,fun f s h=>?_⟩
 ·unfold nuU at h
  simp only at h
  split at h
  ·cases h;exact genS_ok nt_fok (nt_ok T).1
  ·cases h
 ·cases h
theorem nuD_r (T:TD) (i:Nat) (k:Nat) (h:k<=T.C i):nuDR T i k:=by
 unfold nuDR
 try simp only[br_iff,gd_iff,Bool.and_eq_true,sj5,leB_iff,leB_iff',sj3,sj7]
 repeat' (first|done|omega|exact rfl|exact trivial|assumption|exact()|(exfalso;omega)|(exfalso;simp_all;done)|exact fun _ _ _=>pinA|refine⟨k+1,by omega,by omega,?_⟩|exact⟨(),trivial,rfl,trivial⟩|intro _|refine⟨?_,?_⟩)
theorem nuD_b (T:TD) (i:Nat):(nuD T i).Body Tryz.prog (sub (bodyOf Tryz.f428) [0,0,1,1,1]):=by
 refine LoopD.bodyH (root:=(bodyOf Tryz.f428)) [0,0,1,1,1] ftOk (nuU_ok T) (LTok.nil) 1000 ?_
 exact fun k hk=>Ho.of (nuDR T i k) (by kernel_rfl) (nuD_r T i k hk)
theorem nu_r (T:TD) (ha:0<T.C 0):nuR T:=by
 unfold nuR
 try simp only[br_iff,gd_iff,Bool.and_eq_true,sj5,leB_iff,leB_iff',sj3,sj7]
 repeat' (first|done|omega|exact rfl|exact trivial|assumption|exact()|intro _|refine⟨?_,?_⟩)
theorem nu_ok (T:TD):(nuS T).Body Tryz.prog 428/\(nuS T).BodyD Tryz.prog 428:=by
 refine genS_body (fn:=Tryz.f428) (b:=(bodyOf Tryz.f428)) (LT:=fun _=>[([0,1,1,1],(nuD T 0).at (0:Nat))]) ftOk (nuU_ok T) 1000 (fun _ ha=>LTok.cons (fun fr H K hk=>LoopD.ok (nuD_b T 0) hk) (LTok.nil)) (by kernel_rfl) (by kernel_rfl) ?_
 rintro a ⟨ha,hc⟩
 obtain⟨T',rfl⟩:∃T':TD,T=T'.wh true:=⟨T,by cases T;simp only[TD.wh] at ha⊢;rw[ha]⟩
 exact Ho.of (nuR T') (by kernel_rfl) (nu_r T' hc)
def nvDR (T:TD) (i:Nat) (k:Nat):Prop:=
 letI e:=T.C i;letI d:=domB T=domB T;letI c:=fun(q:Nat)=>AVal.sp (SId.mk 4 (q+hN T) 0) 0;letI b:=1<=1/\SubF c c 1 []/\True;letI a:=br T.hd (br T.hd b False) (br T.hd False b);br (Nat.blt k e) (d/\True/\gd (Nat.beq i i&&Nat.beq k k&&true) (∀(x:Unit),True->br (Nat.blt (k+1) e) (∃(j':Nat),Nat.le j' e/\e-j'<e-k/\d/\br (Nat.blt j' e) (gd (Nat.beq i i&&Nat.beq (k+1) j'&&true) a) False) (∃(j':Nat),Nat.le j' e/\e-j'<e-k/\d/\br (Nat.blt j' e) False a))) (∃(x:Unit),True/\d/\a)
def nvRh (T:TD):Prop:=
 letI f:=List (Nat×AVal);letI e:=domB (TD.wh T true);letI c:=e=e;letI b:=fun(q:Nat)=>AVal.sp (SId.mk 4 (q+1) 0) 0;letI a:=(TD.mk T.R T.2 true T.4 T.pad T.keep T.span T.promote T.pres T.10 T.11 T.12 T.13 T.oP T.oK T.oM).C 1;Nat.le 0 a/\(c/\br (Nat.blt 0 a) (1=1/\True) False)/\∀(x:Unit),True->∃(x:Unit),True/\c/\True/\(True/\([]:f)=([]:f)/\([]:List AVal)=([]:List AVal)/\∀(i:Nat),letI d:=AVal.sp (SId.mk 4 (i+1) 0) 0;i<1->SubA 0 d d)/\1<=1/\SubF b b 1 []/\True
def nvRf (T:TD):Prop:=
 letI f:=List (Nat×AVal);letI e:=domB (TD.wh T false);letI c:=fun(q:Nat)=>AVal.sp (SId.mk 4 q 0) 0;letI b:=e=e;letI a:=(TD.mk T.R T.2 false T.4 T.pad T.keep T.span T.promote T.pres T.10 T.11 T.12 T.13 T.oP T.oK T.oM).C 0;Nat.le 0 a/\(b/\br (Nat.blt 0 a) (1=1/\True) False)/\∀(x:Unit),True->∃(x:Unit),True/\b/\True/\(True/\([]:f)=([]:f)/\([]:List AVal)=([]:List AVal)/\∀(i:Nat),letI d:=AVal.sp (SId.mk 4 i 0) 0;i<1->SubA 0 d d)/\1<=1/\SubF c c 1 []/\True
theorem nvD_r (T:TD) (i:Nat) (k:Nat) (h:k<=T.C i):nvDR T i k:=by
 unfold nvDR
 try simp only[br_iff,gd_iff,Bool.and_eq_true,sj5,leB_iff,leB_iff',sj3,sj7]
 repeat' (first|done|omega|exact rfl|exact trivial|assumption|exact()|(exfalso;omega)|(exfalso;simp_all;done)|exact fun _ _ _=>pinA|refine⟨k+1,by omega,by omega,?_⟩|exact⟨(),trivial,rfl,trivial⟩|intro _|refine⟨?_,?_⟩)
theorem nvD_b (T:TD) (i:Nat):(nvD T i).Body Tryz.prog (sub (bodyOf Tryz.f428) [0,0,1,1,1]):=by
 refine LoopD.bodyH (root:=(bodyOf Tryz.f428)) [0,0,1,1,1] ftOk (nuU_ok T) (LTok.nil) 1000 ?_
 exact fun k hk=>Ho.of (nvDR T i k) (by kernel_rfl) (nvD_r T i k hk)
theorem nv_rh (T:TD) (ha:0<T.C 1):nvRh T:=by
 unfold nvRh
 obtain ha:=ha
 simp only[TD.wh,br_iff,gd_iff,Bool.and_eq_true,sj5,leB_iff,leB_iff',sj3,sj7]
 repeat' (first|done|omega|exact rfl|exact trivial|assumption|exact()|(exfalso;omega)|exact pinA|exact fun _ _ _=>pinA|intro _|refine⟨?_,?_⟩)
theorem nv_rf (T:TD) (ha:0<T.C 0):nvRf T:=by
 unfold nvRf
 obtain ha:=ha
 simp only[TD.wh,br_iff,gd_iff,Bool.and_eq_true,sj5,leB_iff,leB_iff',sj3,sj7]
 repeat' (first|done|omega|exact rfl|exact trivial|assumption|exact()|(exfalso;omega)|exact pinA|exact fun _ _ _=>pinA|intro _|refine⟨?_,?_⟩)
theorem nv_ok (T:TD):(nvS T).Body Tryz.prog 428/\(nvS T).BodyD Tryz.prog 428:=by
 refine genS_body (fn:=Tryz.f428) (b:=(bodyOf Tryz.f428)) (LT:=fun _=>[([0,1,1,1],(nvD T (hN T)).at (0:Nat))]) ftOk (nuU_ok T) 1000 (fun _ ha=>LTok.cons (fun fr H K hk=>LoopD.ok (nvD_b T (hN T)) hk) (LTok.nil)) (by kernel_rfl) (by kernel_rfl) ?_
 intro a ha
 cases hh:T.hd with
 |true=>
  obtain⟨T',rfl⟩:∃T':TD,T=T'.wh true:=⟨T,by cases T;simp only[TD.wh] at hh⊢;rw[hh]⟩
  exact Ho.of (nvRh T') (by kernel_rfl) (nv_rh T' ha)
 |false=>
  obtain⟨T',rfl⟩:∃T':TD,T=T'.wh false:=⟨T,by cases T;simp only[TD.wh] at hh⊢;rw[hh]⟩
  exact Ho.of (nvRf T') (by kernel_rfl) (nv_rf T' ha)
def nwDR (T:TD) (i:Nat) (n:Nat) (k:Nat):Prop:=
 letI e:=T.C i;letI d:=domB T=domB T;letI c:=fun(q:Nat)=>AVal.sp (SId.mk 4 (q+hN T) 0) 0;letI b:=gd (Nat.beq n n) (n<=n/\SubF c c n []/\True);letI a:=br T.hd (br T.hd b False) (br T.hd False b);br (Nat.blt k e) (d/\True/\gd (Nat.beq i i&&Nat.beq k k&&true) (∀(x:Unit),True->br (Nat.blt (k+1) e) (∃(j':Nat),Nat.le j' e/\e-j'<e-k/\d/\br (Nat.blt j' e) (gd (Nat.beq i i&&Nat.beq (k+1) j'&&true) a) False) (∃(j':Nat),Nat.le j' e/\e-j'<e-k/\d/\br (Nat.blt j' e) False a))) (∃(x:Unit),True/\d/\a)
def nwRh (T:TD) (c:Nat):Prop:=
 letI m:=c+1;letI k:=List (Nat×AVal);letI h:=domB (TD.wh T true);letI g:=Nat.beq m m;letI e:=g&&true&&true;letI d:=h=h;letI b:=fun(q:Nat)=>AVal.sp (SId.mk 4 (q+1) 0) 0;letI a:=(TD.mk T.R T.2 true T.4 T.pad T.keep T.span T.promote T.pres T.10 T.11 T.12 T.13 T.oP T.oK T.oM).C m;gd (Nat.beq c c&&(Nat.ble (0+c+1+c+1+c+1+c+1+c+1+c+1+c+1+c+1) 140737488355328&&(Nat.ble m 140737488355328&&true))) (Nat.le 0 a/\(d/\br (Nat.blt 0 a) (gd e (gd g (m=m/\SubF b b c []/\gd e True))) False)/\∀(x:Unit),True->∃(x:Nat),x=m/\d/\True/\(True/\([]:k)=([]:k)/\([]:List AVal)=([]:List AVal)/\∀(i:Nat),letI f:=AVal.sp (SId.mk 4 (i+1) 0) 0;i<x->SubA 0 f f)/\gd (Nat.beq m x) (x<=m/\SubF b b x []/\True))
def nwRf (T:TD) (c:Nat):Prop:=
 letI k:=c+1;letI h:=List (Nat×AVal);letI g:=domB (TD.wh T false);letI e:=Nat.beq c c&&true&&true;letI d:=fun(q:Nat)=>AVal.sp (SId.mk 4 q 0) 0;letI b:=g=g;letI a:=(TD.mk T.R T.2 false T.4 T.pad T.keep T.span T.promote T.pres T.10 T.11 T.12 T.13 T.oP T.oK T.oM).C c;gd (Nat.beq c c&&(Nat.ble (0+c+1+c+1+c+1+c+1+c+1+c+1+c+1+c+1) 140737488355328&&(Nat.ble k 140737488355328&&true))) (Nat.le 0 a/\(b/\br (Nat.blt 0 a) (gd e (gd (Nat.beq k k) (k=k/\SubF d d c []/\gd e True))) False)/\∀(x:Unit),True->∃(x:Nat),x=k/\b/\True/\(True/\([]:h)=([]:h)/\([]:List AVal)=([]:List AVal)/\∀(i:Nat),letI f:=AVal.sp (SId.mk 4 i 0) 0;i<x->SubA 0 f f)/\gd (Nat.beq k x) (x<=k/\SubF d d x []/\True))
theorem nwD_r (T:TD) (i n:Nat) (k:Nat) (h:k<=T.C i):nwDR T i n k:=by
 unfold nwDR
 try simp only[br_iff,gd_iff,Bool.and_eq_true,sj5,leB_iff,leB_iff',sj3,sj7]
 repeat' (first|done|omega|exact rfl|exact trivial|assumption|exact()|(exfalso;omega)|(exfalso;simp_all;done)|exact fun _ _ _=>pinA|refine⟨k+1,by omega,by omega,?_⟩|exact⟨(),trivial,rfl,trivial⟩|intro _|refine⟨?_,?_⟩)
theorem nwD_b (T:TD) (i n:Nat):(nwD T i n).Body Tryz.prog (sub (bodyOf Tryz.f428) [0,0,1,1,1]):=by
 refine LoopD.bodyH (root:=(bodyOf Tryz.f428)) [0,0,1,1,1] ftOk (nuU_ok T) (LTok.nil) 1000 ?_
 exact fun k hk=>Ho.of (nwDR T i n k) (by kernel_rfl) (nwD_r T i n k hk)
theorem nw_rh (T:TD) (c:Nat) (ha:0<c/\c<=13/\0<T.C (c+1)):nwRh T c:=by
 unfold nwRh
 obtain ha:=ha
 simp only[TD.wh,br_iff,gd_iff,Bool.and_eq_true,sj5,leB_iff,leB_iff',sj3,sj7]
 repeat' (first|done|omega|exact rfl|exact trivial|assumption|exact()|(exfalso;omega)|exact pinA|exact fun _ _ _=>pinA|intro _|refine⟨?_,?_⟩)
theorem nw_rf (T:TD) (c:Nat) (ha:0<c/\c<=13/\0<T.C c):nwRf T c:=by
 unfold nwRf
 obtain ha:=ha
 simp only[TD.wh,br_iff,gd_iff,Bool.and_eq_true,sj5,leB_iff,leB_iff',sj3,sj7]
 repeat' (first|done|omega|exact rfl|exact trivial|assumption|exact()|(exfalso;omega)|exact pinA|exact fun _ _ _=>pinA|intro _|refine⟨?_,?_⟩)
theorem nw_ok (T:TD):(nwS T).Body Tryz.prog 428/\(nwS T).BodyD Tryz.prog 428:=by
 refine genS_body (fn:=Tryz.f428) (b:=(bodyOf Tryz.f428)) (LT:=fun c=>[([0,1,1,1],(nwD T (Nat.add c (hN T)) (Nat.add c 1)).at (0:Nat))]) ftOk (nuU_ok T) 1000 (fun c ha=>LTok.cons (fun fr H K hk=>LoopD.ok (nwD_b T (Nat.add c (hN T)) (Nat.add c 1)) hk) (LTok.nil)) (by kernel_rfl) (by kernel_rfl) ?_
 intro a ha
 cases hh:T.hd with
 |true=>
  obtain⟨T',rfl⟩:∃T':TD,T=T'.wh true:=⟨T,by cases T;simp only[TD.wh] at hh⊢;rw[hh]⟩
  exact Ho.of (nwRh T' a) (by kernel_rfl) (nw_rh T' a ha)
 |false=>
  obtain⟨T',rfl⟩:∃T':TD,T=T'.wh false:=⟨T,by cases T;simp only[TD.wh] at hh⊢;rw[hh]⟩
  exact Ho.of (nwRf T' a) (by kernel_rfl) (nw_rf T' a ha)
end Tk
