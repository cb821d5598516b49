/- Lemmas of this claim; the last text says what is proved. -/
import Derived.Test.YtjkgmpkgfhhaiaaGreatK17
import Derived.Test.YtjkgmpkgfhhaiaaGreatK50
import Derived.Test.YtjkgmpkgfhhaiaaGreatK47
import Derived.Test.YtjkgmpkgfhhaiaaGreatK46
import Derived.Test.YtjkgmpkgfhhaiaaGreatK48
import Derived.Test.YtjkgmpkgfhhaiaaGreatK49
set_option linter.all false
set_option maxRecDepth 1000000
namespace Tk
open Go Go.Sx Go.Proofs
open Q
variable [Syms]
def taR (T:TD):Prop:=
 letI a1:=AVal.str [];letI z:=([]:List UInt8)=[];letI w:=Value.int .i64 (Int.ofNat 0);letI y:=Value.int .i64 (Int.ofNat 3);letI v:=AVal.str [(116:UInt8),114];letI u:=AVal.lit (Value.slice none 0 0);letI s:=[(116:UInt8),97,98,108,101];letI p:=[(116:UInt8),98,111,100,121];letI m:=AVal.lit w;letI n:=AVal.lit (Value.int .i64 (Int.ofNat 1));letI g:=w=w;letI d:=fun(i:Nat)=>letI f:=RowX.mk (T.4 i) (T.10 i) (T.11 i) (T.12 i) (T.13 i) (T.C i);AVal.fmw (fun(j:Nat)=>[AVal.str (f.t j),AVal.lit (Value.bool (f.h j)),AVal.str (f.a j),AVal.lit (Value.int .i64 (f.c j)),AVal.lit (Value.int .i64 (f.r j))]) 5 (T.C i);letI b:=[m,AVal.str s,a1,u,AVal.fmw (fun(x:Nat)=>[m,AVal.str p,a1,u,AVal.fmw (fun(q:Nat)=>[m,v,a1,u,AVal.fmw (fun(j:Nat)=>[m,AVal.str (hT T q j),a1,u,AVal.fmw (fun(x:Nat)=>[n,a1,AVal.str (T.tx q j),u,u]) 5 (kidN (T.tx q j))]) 5 (T.C q)]) 5 T.R]) 5 1];noSt=noSt/\ntT T/\T.R=T.R/\SubF d d T.R []/\∀(x:Unit),True->∃(x:Unit),True/\noSt=noSt/\(True/\True/\True/\True/\∀(i:Nat),i<1->SubL 0 b b)/\True/\y=y/\z/\z/\1=1/\1=0+1/\g/\s=s/\z/\1=1/\1=0+1/\g/\p=p/\z/\T.R=T.R/\(∀(k:Nat),letI e:=[m,v,a1,u,AVal.fmw (fun(j:Nat)=>[m,AVal.str (hT T k j),a1,u,AVal.fmw (fun(x:Nat)=>[n,a1,AVal.str (T.tx k j),u,u]) 5 (kidN (T.tx k j))]) 5 (T.C k)];k<T.R->SubL 0 e e)/\True
theorem taU_ok (T:TD):TabOk Tryz.prog (taU T):=by
 refine⟨fun f s h=>?_,fun f s h=>?_⟩
 ·unfold taU at h
  simp only at h
  split at h
  ·cases h;exact genS_ok ro_fok (ro_ok T).1
  ·cases h
 ·cases h
theorem ta_r (T:TD) (hd:ntT T):taR T:=by
 unfold taR
 simp only[decS,sj4,exists_eq_left',sj10,gt_iff_lt,ge_iff_le,exists_const,Int.ofNat_le,implies_true,Bool.true_eq,Value.bool.injEq]
 repeat' (first|done|exact hd|exact trivial|exact rfl|exact fun i hi _=>SubA.fmw fun _ _=>nlL_sub rfl|exact fun _ _=>tablA_sub|exact fun _ _=>bodyA_sub|exact fun _ _=>rowA_sub|intro _|refine And.intro ?_ ?_)
theorem ta_fok:FunOk Tryz.prog 7:=⟨Tryz.f7,by kernel_rfl,rfl,by kernel_rfl⟩
theorem ta_ok (T:TD):(taS T).Body Tryz.prog 7/\(taS T).BodyD Tryz.prog 7:=by
 refine genS_body (fn:=Tryz.f7) (b:=(bodyOf Tryz.f7)) (LT:=fun _=>[]) ftOk (taU_ok T) 1000 (fun a ha=>LTok.nil) (by kernel_rfl) (by kernel_rfl) ?_
 exact fun a ha=>Ho.of (taR T) (by kernel_rfl) (ta_r T ha)
def kvR (T:TD):Prop:=
 letI m1:=noSt=noSt;letI n1:=AVal.str [];letI h1:=[(42:UInt8),42];letI k1:=Nat->Nat->By;letI e1:=Value.bool T.promote;letI f1:=[(116:UInt8),104];letI g1:=[(116:UInt8),100];letI d1:=[(96:UInt8),96,96];letI c1:=[(97:UInt8),116,120];letI b1:=AVal.str [(116:UInt8),114];letI a1:=[(42:UInt8),32,42,32,42];letI z:=AVal.lit (Value.slice none 0 0);letI y:=Value.bool true=Value.bool true;letI u:=AVal.lit (Value.int .i64 (Int.ofNat 1));letI v:=AVal.lit (Value.int .i64 (Int.ofNat 3));letI w:=AVal.lit (Value.int .i64 (Int.ofNat 0));letI t:=[(114:UInt8),101,110,100,101,114];letI s:=AVal.str [(116:UInt8),97,98,108,101];letI r:=AVal.str [(116:UInt8),98,111,100,121];letI q:=[(105:UInt8),110,108,105,110,101,100];letI p:=t=t;letI m:=fun(i j:Nat)=>(hT T i j,decS [u,n1,AVal.str (T.tx i j),z,z]).snd;letI k:=fun(i:Nat)=>(fun(j:Nat)=>(hT T i j,decS [u,n1,AVal.str (T.tx i j),z,z]).snd,T.C i).snd;letI h:=(k,T.R);letI f:=h.snd;letI g:=h.fst;letI c:=(fun(i j:Nat)=>(hT T i j,decS [u,n1,AVal.str (T.tx i j),z,z]).fst,m,k,T.R);letI b:=c.fst;m1/\True/\1=1/\3=3/\[(42:UInt8)]=[(42:UInt8)]/\h1=h1/\a1=a1/\[(45:UInt8)]=[(45:UInt8)]/\Value.bool false=Value.bool false/\d1=d1/\c1=c1/\q=q/\p/\p/\T.span=T.span/\T.keep=T.keep/\y/\e1=e1/\Value.bool T.pres=Value.bool T.pres/\T.pad=T.pad/\∀(x:Unit),True->m1/\((0<f/\f<=1000)/\∀(i:Nat),letI e:=g i;i<f->(0<e/\e<=1000)/\∀(j:Nat),letI a:=b i j;j<e->a=f1\/a=g1)/\SubL 0 [AVal.agg [v,n1,n1,z,AVal.fmw (fun(x:Nat)=>[w,s,n1,z,AVal.fmw (fun(x:Nat)=>[w,r,n1,z,AVal.fmw (fun(i:Nat)=>[w,b1,n1,z,AVal.fmw (fun(j:Nat)=>[w,AVal.str (hT T i j),n1,z,AVal.fmw (fun(x:Nat)=>[u,n1,AVal.str (T.tx i j),z,z]) 5 (kidN (T.tx i j))]) 5 (T.C i)]) 5 T.R]) 5 1]) 5 1]] [AVal.agg [v,n1,n1,z,AVal.fmw (fun(x:Nat)=>[w,s,n1,z,AVal.fmw (fun(x:Nat)=>[w,r,n1,z,AVal.fmw (fun(i:Nat)=>[w,b1,n1,z,AVal.fmw (fun(j:Nat)=>letI d:=(m,k,T.R).fst i j;[w,AVal.str (b i j),n1,z,AVal.fmw (fun(x:Nat)=>[u,n1,AVal.str d,z,z]) 5 (kidN d)]) 5 (g i)]) 5 f]) 5 1]) 5 1]]/\∀(x:k1×k1×(Nat->Nat)×Nat),x=c->m1/\TD.Ok T/\SubL 0 [AVal.mp (MP.ren (fun(i:Nat)=>7+i) (qC T)),AVal.mp (MP.ren (fun(i:Nat)=>bif false then 0 else 7+i) (qD x.1 x.snd.1 x.snd.snd.1 x.snd.2.snd)),z] [AVal.mp (qC T),AVal.mp (qD (fun(i _j:Nat)=>bif Nat.beq i 0&&T.hd then f1 else g1) T.4 T.2 T.R),z]/\∀(x:List UInt8),letI n:=∃(x_1:By),x_1=post (docF T)/\m1/\(True/\True)/\True/\x=x_1/\y/\True;x=post (docF T)->n/\n
theorem kvU_ok (T:TD):TabOk Tryz.prog (kvU T):=by
 refine⟨fun f s h=>?_,fun f s h=>?_⟩
 ·unfold kvU at h
  simp only at h
  split at h
  ·cases h;exact genS_ok nc_fok (nc2_body T)
  ·cases h;exact genS_okV mc_fok (mi2_body T)
  ·cases h;exact genS_okV b24_fok (bS_body T)
  ·cases h
 ·cases h
theorem kv_r (T:TD) (hd:T.Ok/\ntT T/\T.hd=T.hh 0 0):kvR T:=by
 unfold kvR
 simp only[decS,sj4,exists_eq_left',sj10,gt_iff_lt,ge_iff_le,exists_const,Int.ofNat_le,implies_true,Bool.true_eq,Value.bool.injEq]
 exact fun _ _=>⟨ntT_dom hd.2.1,docA_subA,hd.1,.cons qC_sub (.cons (qD_sub (ntT_hd hd.2.1 hd.2.2)) (.cons (nlS_sub rfl) .nil))⟩
theorem kv_fok:FunOk Tryz.prog 12:=⟨Tryz.f12,by kernel_rfl,rfl,by kernel_rfl⟩
theorem kv_ok (T:TD):(kvS T).Body Tryz.prog 12/\(kvS T).BodyD Tryz.prog 12:=by
 refine genS_body (fn:=Tryz.f12) (b:=(bodyOf Tryz.f12)) (LT:=fun _=>[]) ftOk (kvU_ok T) 1000 (fun a ha=>LTok.nil) (by kernel_rfl) (by kernel_rfl) ?_
 exact fun a ha=>Ho.of (kvR T) (by kernel_rfl) (kv_r T ha)
def ttR (T:TD):Prop:=
 letI y:=noSt=noSt;letI z:=[]=T.span;letI a1:=[]=T.keep;letI w:=Value.bool true;letI v:=Value.bool T.pres;letI u:=Value.bool T.promote;letI t:=w=w;letI s:=v=v;letI r:=u=u;letI q:=[(109:UInt8),105,114,114,111,114]=T.span;letI p:=True/\True/\True/\True/\True/\True/\True;letI n:=[(112:UInt8),114,101,115,101,114,118,101]=T.keep;letI m:=t/\r/\s/\[(110:UInt8),111,110,101]=T.pad/\True;letI h:=t/\r/\s/\[(109:UInt8),105,110,105,109,97,108]=T.pad/\True;letI k:=t/\r/\s/\[(97:UInt8),108,105,103,110,101,100]=T.pad/\True;letI g:=a1/\m;letI e:=a1/\h;letI f:=a1/\k;letI d:=n/\m;letI b:=n/\h;letI c:=n/\k;letI a:=br T.oK (br T.oM (∃(x:Unit),True/\y/\True/\p/\q/\c) (∃(x:Unit),True/\y/\True/\p/\z/\c)) (br T.oM (∃(x:Unit),True/\y/\True/\p/\q/\f) (∃(x:Unit),True/\y/\True/\p/\z/\f));br (decide (T.oP>Int.ofNat 0)) (br (T.oP==Int.ofNat 2) (br T.oK (br T.oM (∃(x:Unit),True/\y/\True/\p/\q/\b) (∃(x:Unit),True/\y/\True/\p/\z/\b)) (br T.oM (∃(x:Unit),True/\y/\True/\p/\q/\e) (∃(x:Unit),True/\y/\True/\p/\z/\e))) (br (T.oP==Int.ofNat 3) (br T.oK (br T.oM (∃(x:Unit),True/\y/\True/\p/\q/\d) (∃(x:Unit),True/\y/\True/\p/\z/\d)) (br T.oM (∃(x:Unit),True/\y/\True/\p/\q/\g) (∃(x:Unit),True/\y/\True/\p/\z/\g))) a)) a
theorem tt_r (T:TD) (hd:T.pad=padF T.oP/\T.keep=keepF T.oK/\T.span=spanF T.oM):ttR T:=by
 unfold ttR
 obtain⟨h1,h2,h3⟩:=hd
 simp only[decS,sj4,exists_eq_left',sj10,gt_iff_lt,ge_iff_le,exists_const,Int.ofNat_le,implies_true,Bool.true_eq,Value.bool.injEq]
 rw[h1,h2,h3]
 unfold padF keepF spanF
 by_cases g1:T.oP>0<;>by_cases g2:T.oP=2<;>by_cases g3:T.oP=3<;>cases T.oK<;>cases T.oM<;>simp[g1,g2,g3,padA,padM,padN,show(T.oP==(2:Int))=decide (T.oP=2) from rfl,show(T.oP==(3:Int))=decide (T.oP=3) from rfl]
theorem tt_fok:FunOk Tryz.prog 15:=⟨Tryz.f15,by kernel_rfl,rfl,by kernel_rfl⟩
theorem tt_ok (T:TD):(ttS T).Body Tryz.prog 15/\(ttS T).BodyD Tryz.prog 15:=by
 refine genS_body (fn:=Tryz.f15) (b:=(bodyOf Tryz.f15)) (LT:=fun _=>[]) ftOk (nofOk) 1000 (fun a ha=>LTok.nil) (by kernel_rfl) (by kernel_rfl) ?_
 exact fun a ha=>Ho.of (ttR T) (by kernel_rfl) (tt_r T ha)
def kxR (T:TD):Prop:=
 letI f1:=noSt=noSt;letI g1:=AVal.str [];letI e1:=[(42:UInt8),42];letI d1:=Value.int .i64 T.oP;letI c1:=Value.bool T.promote;letI a1:=([]:List UInt8)=[];letI b1:=[(96:UInt8),96,96];letI z:=[(97:UInt8),116,120];letI y:=Value.int .i64 (Int.ofNat 3);letI w:=[(42:UInt8),32,42,32,42];letI v:=AVal.lit (Value.slice none 0 0);letI s:=Value.bool T.oK=Value.bool T.oK;letI t:=Value.bool T.oM=Value.bool T.oM;letI u:=Value.bool true=Value.bool true;letI r:=Value.bool false=Value.bool false;letI q:=Value.bool T.pres=Value.bool T.pres;letI p:=AVal.lit (Value.int .i64 (Int.ofNat 0));letI n:=[(114:UInt8),101,110,100,101,114];letI m:=d1=d1;letI h:=c1=c1;letI g:=[(105:UInt8),110,108,105,110,101,100];letI f:=y=y;letI e:=n=n;letI d:=[p,AVal.str [(116:UInt8),97,98,108,101],g1,v,AVal.fmw (fun(x:Nat)=>[p,AVal.str [(116:UInt8),98,111,100,121],g1,v,AVal.fmw (fun(i:Nat)=>[p,AVal.str [(116:UInt8),114],g1,v,AVal.fmw (fun(j:Nat)=>[p,AVal.str (hT T i j),g1,v,AVal.fmw (fun(x:Nat)=>[AVal.lit (Value.int .i64 (Int.ofNat 1)),g1,AVal.str (T.tx i j),v,v]) 5 (kidN (T.tx i j))]) 5 (T.C i)]) 5 T.R]) 5 1];letI c:=SubL 0 d d;letI b:=∀(k:Nat),k<1->c;f1/\(T.pad=padF T.oP/\T.keep=keepF T.oK/\T.span=spanF T.oM)/\m/\s/\t/\h/\u/\q/\∀(x:Unit),True->f1/\(TD.Ok T/\ntT T/\T.hd=T.hh 0 0)/\f/\a1/\a1/\1=1/\b/\r/\3=3/\[(42:UInt8)]=[(42:UInt8)]/\e1=e1/\w=w/\[(45:UInt8)]=[(45:UInt8)]/\r/\b1=b1/\z=z/\g=g/\e/\e/\T.span=T.span/\T.keep=T.keep/\u/\h/\q/\T.pad=T.pad/\∀(x:List UInt8),letI a:=∃(x_1:By),x_1=post (docF T)/\f1/\True/\((True/\True/\True/\True/\∀(i:Nat),i<1->c)/\(True/\True/\True/\True/\True/\True)/\True/\True)/\f/\a1/\a1/\1=1/\b/\m/\s/\t/\h/\u/\q/\x=x_1/\u/\True;x=post (docF T)->(a/\a)/\a
theorem kxU_ok (T:TD):TabOk Tryz.prog (kxU T):=by
 refine⟨fun f s h=>?_,fun f s h=>?_⟩
 ·unfold kxU at h
  simp only at h
  split at h
  ·cases h;exact genS_ok tt_fok (tt_ok T).1
  ·cases h;exact genS_ok kv_fok (kv_ok T).1
  ·cases h
 ·cases h
theorem kx_r (T:TD) (hd:(T.Ok/\ntT T/\T.hd=T.hh 0 0)/\T.pad=padF T.oP/\T.keep=keepF T.oK/\T.span=spanF T.oM):kxR T:=by
 unfold kxR
 simp only[decS,sj4,exists_eq_left',sj10,gt_iff_lt,ge_iff_le,exists_const,Int.ofNat_le,implies_true,Bool.true_eq,Value.bool.injEq]
 repeat' (first|done|exact hd.2|exact hd.1|exact hd|exact trivial|exact rfl|exact fun _ _=>tablA_sub|exact docA_sub|exact docA_subA|exact .cons (SubA.agg docA_sub) (.cons (SubA.agg (nlL_sub rfl)) .nil)|intro _|refine And.intro ?_ ?_)
theorem kx_fok:FunOk Tryz.prog 11:=⟨Tryz.f11,by kernel_rfl,rfl,by kernel_rfl⟩
theorem kx_ok (T:TD):(kxS T).Body Tryz.prog 11/\(kxS T).BodyD Tryz.prog 11:=by
 refine genS_body (fn:=Tryz.f11) (b:=(bodyOf Tryz.f11)) (LT:=fun _=>[]) ftOk (kxU_ok T) 1000 (fun a ha=>LTok.nil) (by kernel_rfl) (by kernel_rfl) ?_
 exact fun a ha=>Ho.of (kxR T) (by kernel_rfl) (kx_r T ha)
def kyR (T:TD):Prop:=
 letI s:=AVal.str [];letI p:=Value.bool T.oK;letI q:=Value.bool T.oM;letI r:=Value.bool true;letI n:=Value.bool false;letI m:=Value.bool T.pres;letI h:=Value.int .i64 T.oP;letI g:=Value.bool T.promote;letI f:=([]:List UInt8)=[];letI e:=Value.int .i64 (Int.ofNat 3);letI d:=AVal.lit (Value.slice none 0 0);letI c:=r=r;letI b:=AVal.lit (Value.int .i64 (Int.ofNat 0));letI a:=[b,AVal.str [(116:UInt8),97,98,108,101],s,d,AVal.fmw (fun(x:Nat)=>[b,AVal.str [(116:UInt8),98,111,100,121],s,d,AVal.fmw (fun(i:Nat)=>[b,AVal.str [(116:UInt8),114],s,d,AVal.fmw (fun(j:Nat)=>[b,AVal.str (hT T i j),s,d,AVal.fmw (fun(x:Nat)=>[AVal.lit (Value.int .i64 (Int.ofNat 1)),s,AVal.str (T.tx i j),d,d]) 5 (kidN (T.tx i j))]) 5 (T.C i)]) 5 T.R]) 5 1];noSt=noSt/\((TD.Ok T/\ntT T/\T.hd=T.hh 0 0)/\T.pad=padF T.oP/\T.keep=keepF T.oK/\T.span=spanF T.oM)/\e=e/\f/\f/\1=1/\(∀(k:Nat),k<1->SubL 0 a a)/\h=h/\p=p/\q=q/\g=g/\c/\m=m/\f/\n=n/\∀(x:List UInt8),x=post (docF T)->∃(x_1:By),x_1=post (docF T)/\noSt=noSt/\(True/\True)/\True/\x=x_1/\c/\True
theorem kyU_ok (T:TD):TabOk Tryz.prog (kyU T):=by
 refine⟨fun f s h=>?_,fun f s h=>?_⟩
 ·unfold kyU at h
  simp only at h
  split at h
  ·cases h;exact genS_ok kx_fok (kx_ok T).1
  ·cases h
 ·unfold kyU at h
  simp only at h
  split at h
  ·cases h;exact rec20
  ·cases h
theorem ky_r (T:TD) (hd:(T.Ok/\ntT T/\T.hd=T.hh 0 0)/\T.pad=padF T.oP/\T.keep=keepF T.oK/\T.span=spanF T.oM):kyR T:=by
 unfold kyR
 simp only[decS,sj4,exists_eq_left',sj10,gt_iff_lt,ge_iff_le,exists_const,Int.ofNat_le,implies_true,Bool.true_eq,Value.bool.injEq]
 repeat' (first|done|exact hd.2|exact hd.1|exact hd|exact trivial|exact rfl|exact fun _ _=>tablA_sub|exact docA_sub|exact docA_subA|exact .cons (SubA.agg docA_sub) (.cons (SubA.agg (nlL_sub rfl)) .nil)|intro _|refine And.intro ?_ ?_)
theorem ky_fok:FunOk Tryz.prog 6:=⟨Tryz.f6,by kernel_rfl,rfl,by kernel_rfl⟩
theorem ky_ok (T:TD):(kyS T).Body Tryz.prog 6/\(kyS T).BodyD Tryz.prog 6:=by
 refine genS_body (fn:=Tryz.f6) (b:=(bodyOf Tryz.f6)) (LT:=fun _=>[]) ftOk (kyU_ok T) 1000 (fun a ha=>LTok.nil) (by kernel_rfl) (by kernel_rfl) ?_
 exact fun a ha=>Ho.of (kyR T) (by kernel_rfl) (ky_r T ha)
def skR (T:TD) (a:Int) (n:Int) (s:Bool):Prop:=
 letI k3:=T.R=T.R;letI g3:=insN T a n;letI h3:=List UInt8;letI b3:=noSt=noSt;letI c3:=Int.ofNat 1;letI d3:=Int.ofNat 0;letI e3:=Int.toNat a;letI f3:=AVal.str [];letI a3:=Int.ofNat T.R;letI z2:=g3.C;letI u2:=Value.bool true;letI v2:=0+e3;letI w2:=e3+1;letI y2:=vT g3;letI s2:=T.R-e3;letI r2:=post (docF (vT T));letI p2:=v2+1;letI k2:=y2.oP;letI m2:=y2.oK;letI n2:=y2.oM;letI g2:=Int.ofNat 281474976710656;letI e2:=decide (d3<=a);letI f2:=AVal.lit u2;letI c2:=decide (a<=a3);letI d2:=z2 e3;letI a2:=AVal.str [(116:UInt8),114];letI b2:=post (docF y2);letI z1:=AVal.lit (Value.slice none 0 0);letI u1:=AVal.lit (Value.int .i64 d3);letI v1:=AVal.lit (Value.int .i64 (Int.ofNat 3));letI w1:=AVal.lit (Value.int .i64 c3);letI t1:=p2+s2;letI s1:=AVal.str [(116:UInt8),97,98,108,101];letI r1:=AVal.str [(116:UInt8),98,111,100,121];letI n1:=bif decide (Int.ofNat (T.C 0)<n) then Int.ofNat (T.C 0) else n;letI m1:=Int.toNat n1;letI h1:=∃(x:Unit),True/\b3/\True/\True/\u2=u2/\True;letI b1:=(TD.Ok (vT T)/\ntT (vT T)/\(vT T).hd=(vT T).hh 0 0)/\(vT T).pad=padF (vT T).oP/\(vT T).keep=keepF (vT T).oK/\(vT T).span=spanF (vT T).oM;letI a1:=AVal.agg [AVal.lit (Value.int .i64 T.oP),AVal.lit (Value.bool T.oK),AVal.lit (Value.bool T.oM),AVal.lit (Value.bool T.promote),f2,AVal.lit (Value.bool T.pres)];letI z:=RowX.mk (g3.4 e3) (g3.10 e3) (g3.11 e3) (g3.12 e3) (g3.13 e3) d2;letI y:=(TD.Ok y2/\ntT y2/\y2.hd=y2.hh 0 0)/\y2.pad=padF k2/\y2.keep=keepF m2/\y2.span=spanF n2;letI v:=fun(i:Nat)=>letI p1:=RowX.mk (T.4 i) (T.10 i) (T.11 i) (T.12 i) (T.13 i) (T.C i);AVal.fmw (fun(j:Nat)=>[AVal.str (p1.t j),AVal.lit (Value.bool (p1.h j)),AVal.str (p1.a j),AVal.lit (Value.int .i64 (p1.c j)),AVal.lit (Value.int .i64 (p1.r j))]) 5 (T.C i);letI u:=SubF v v T.R [];letI q:=[AVal.agg [v1,f3,f3,z1,AVal.fmw (fun(x:Nat)=>[u1,s1,f3,z1,AVal.fmw (fun(x:Nat)=>[u1,r1,f3,z1,AVal.fmw (fun(i:Nat)=>[u1,a2,f3,z1,AVal.fmw (fun(j:Nat)=>[u1,AVal.str (hT T i j),f3,z1,AVal.fmw (fun(x:Nat)=>[w1,f3,AVal.str (T.tx i j),z1,z1]) 5 (kidN (T.tx i j))]) 5 (T.C i)]) 5 T.R]) 5 1]) 5 1],a1];letI p:=[AVal.agg [v1,f3,f3,z1,AVal.fmw (fun(x:Nat)=>[u1,s1,f3,z1,AVal.fmw (fun(x:Nat)=>[u1,r1,f3,z1,AVal.fmw (fun(i:Nat)=>[u1,a2,f3,z1,AVal.fmw (fun(j:Nat)=>[u1,AVal.str (hT (vT T) i j),f3,z1,AVal.fmw (fun(x:Nat)=>[w1,f3,AVal.str ((vT T).tx i j),z1,z1]) 5 (kidN ((vT T).tx i j))]) 5 ((vT T).C i)]) 5 (vT T).R]) 5 1]) 5 1],AVal.agg [AVal.lit (Value.int .i64 (vT T).oP),AVal.lit (Value.bool (vT T).oK),AVal.lit (Value.bool (vT T).oM),AVal.lit (Value.bool (vT T).promote),f2,AVal.lit (Value.bool (vT T).pres)]];letI m:=[AVal.agg [v1,f3,f3,z1,AVal.fmw (fun(x:Nat)=>[u1,s1,f3,z1,AVal.fmw (fun(x:Nat)=>[u1,r1,f3,z1,AVal.fmw (fun(i:Nat)=>[u1,a2,f3,z1,AVal.fmw (fun(j:Nat)=>letI q2:=g3.tx i j;[u1,AVal.str (hT g3 i j),f3,z1,AVal.fmw (fun(x:Nat)=>[w1,f3,AVal.str q2,z1,z1]) 5 (kidN q2)]) 5 (z2 i)]) 5 g3.R]) 5 1]) 5 1],a1];letI g:=[AVal.agg [v1,f3,f3,z1,AVal.fmw (fun(x:Nat)=>[u1,s1,f3,z1,AVal.fmw (fun(x:Nat)=>[u1,r1,f3,z1,AVal.fmw (fun(i:Nat)=>[u1,a2,f3,z1,AVal.fmw (fun(j:Nat)=>letI h2:=y2.tx i j;[u1,AVal.str (hT y2 i j),f3,z1,AVal.fmw (fun(x:Nat)=>[w1,f3,AVal.str h2,z1,z1]) 5 (kidN h2)]) 5 (y2.C i)]) 5 y2.R]) 5 1]) 5 1],AVal.agg [AVal.lit (Value.int .i64 k2),AVal.lit (Value.bool m2),AVal.lit (Value.bool n2),AVal.lit (Value.bool y2.promote),f2,AVal.lit (Value.bool y2.pres)]];letI f:=SubL 0 q p;letI e:=SubL 0 q g;b3/\True/\k3/\u/\∀(x:Bool),(x=true->fitT T)->br (!x) h1 (b3/\fitT T/\k3/\u/\∀(x:Bool),(x=true->T.R<=12/\ntT T)->br (!x) h1 (br (decide (a<c3)) h1 (br (decide (a>a3)) h1 (br (decide (n<c3)) h1 (br (decide (n>Int.ofNat 12)) h1 (gd (e2&&c2) (gd (Nat.ble (v2*24) 140737488355328&&(Nat.ble v2 140737488355328&&true)) ((∀(k:Nat),k<e3->true=true)/\gd (decide (d3<a3)) (gd (Nat.blt 0 T.R) (gd (decide (d3<=n1)&&(decide (n1<=n1)&&(decide (n1<=g2)&&(decide ((Int.ofNat 56*n1)<=g2)&&true)))) (gd (Nat.beq v2 (e3+0)&&(Nat.ble (0+v2+1+v2+1+v2+1+v2+1+v2+1+v2+1+v2+1+v2+1+v2+1+v2+1+v2+1+v2+1+v2+1+v2+1+v2+1+v2+1+v2+1+v2+1+v2+1+v2+1+v2+1+v2+1+v2+1+v2+1) 140737488355328&&(Nat.ble p2 140737488355328&&true))) (gd (e2&&(c2&&decide (a3<=a3))) (gd (Nat.ble (t1*24) 140737488355328&&(Nat.ble t1 140737488355328&&true)) ((∀(k:Nat),k<s2->true=true)/\gd (Nat.beq p2 w2&&true) (b3/\ntT g3/\t1=g3.R/\t1=t1+0/\SubF (fun(i:Nat)=>letI m3:=0+i;letI y1:=e3+(i-w2);letI q1:=T.C y1;letI k1:=RowX.mk (T.4 m3) (T.10 m3) (T.11 m3) (T.12 m3) (T.13 m3) (T.C m3);letI w:=RowX.mk (T.4 y1) (T.10 y1) (T.11 y1) (T.12 y1) (T.13 y1) q1;AVal.ite (Nat.blt i e3) (AVal.fmw (fun(j:Nat)=>[AVal.str (k1.t j),AVal.lit (Value.bool (k1.h j)),AVal.str (k1.a j),AVal.lit (Value.int .i64 (k1.c j)),AVal.lit (Value.int .i64 (k1.r j))]) 5 (T.C m3)) (AVal.fmw (fun(j:Nat)=>[AVal.str (w.t j),AVal.lit (Value.bool (w.h j)),AVal.str (w.a j),AVal.lit (Value.int .i64 (w.c j)),AVal.lit (Value.int .i64 (w.r j))]) 5 q1)) (fun(i:Nat)=>letI t2:=z2 i;letI c1:=RowX.mk (g3.4 i) (g3.10 i) (g3.11 i) (g3.12 i) (g3.13 i) t2;AVal.fmw (fun(j:Nat)=>[AVal.str (c1.t j),AVal.lit (Value.bool (c1.h j)),AVal.str (c1.a j),AVal.lit (Value.int .i64 (c1.c j)),AVal.lit (Value.int .i64 (c1.r j))]) 5 t2) t1 [(e3,AVal.slc 4 0 m1 (ACap.n m1))]/\gd (Nat.blt e3 t1&&true) (m1=d2/\(∀(k:Nat),k<m1->SubL 0 [f3,AVal.lit (Value.bool false),f3,u1,u1] [AVal.str (z.t k),AVal.lit (Value.bool (z.h k)),AVal.str (z.a k),AVal.lit (Value.int .i64 (z.c k)),AVal.lit (Value.int .i64 (z.r k))])/\d2=m1/\∀(x:Unit),True->(b3/\y/\SubL 0 m g/\∀(x:h3),letI b:=b3/\ntT T/\k3/\u/\∀(x_1:Unit),True->(b3/\y/\e/\∀(x_2:h3),letI d1:=∃(x_3:Unit),True/\b3/\True/\True/\Value.bool (eqL x x_2)=u2/\True;x_2=b2->d1/\d1)\/b3/\b1/\f/\∀(x_2:h3),letI e1:=∃(x_3:Unit),True/\b3/\True/\True/\Value.bool (eqL x x_2)=u2/\True;x_2=r2->e1/\e1;x=b2->b/\b)\/b3/\b1/\SubL 0 m p/\∀(x:h3),letI d:=b3/\ntT T/\k3/\u/\∀(x_1:Unit),True->(b3/\y/\e/\∀(x_2:h3),letI f1:=∃(x_3:Unit),True/\b3/\True/\True/\Value.bool (eqL x x_2)=u2/\True;x_2=b2->f1/\f1)\/b3/\b1/\f/\∀(x_2:h3),letI g1:=∃(x_3:Unit),True/\b3/\True/\True/\Value.bool (eqL x x_2)=u2/\True;x_2=r2->g1/\g1;x=r2->d/\d))))))))))))))))
theorem skU_ok (T:TD) (a n:Int) (s:Bool):TabOk Tryz.prog (skU T a n s):=by
 refine⟨fun f s h=>?_,fun f s h=>?_⟩
 ·unfold skU at h
  simp only at h
  split at h
  ·cases h;exact genS_ok zg_fok (zg_ok T).1
  ·cases h;exact genS_ok ne_fok (ne_ok T).1
  ·cases h;exact sp7_ok (fun U=>genS_ok ta_fok (ta_ok U).1) (genS_ok ta_fok (ta_ok T).1)
  ·cases h;exact sp6_ok (fun U=>genS_okV ky_fok (ky_ok U).1)
  ·cases h
 ·cases h
theorem sk_r (T:TD) (a n:Int) (s:Bool) (hd:srcT T):skR T a n s:=by
 unfold skR
 have rF:∀us,SubF (fun i=>AVal.fmw (cellX (rowX T i)) 5 (T.C i)) (fun i=>AVal.fmw (cellX (rowX T i)) 5 (T.C i)) T.R us:=fun us i hi _=>SubA.fmw fun _ _=>nlL_sub rfl
 have xt:∀x:Bool,(!x)=false->x=true:=fun x h=>by cases x<;>first|rfl|cases h
 simp only[decS,sj4,exists_eq_left',sj10,gt_iff_lt,ge_iff_le,exists_const,Int.ofNat_le,implies_true,Bool.true_eq,Value.bool.injEq,Nat.zero_add,Nat.add_zero]
 refine⟨rF _,fun x hx hx2=>⟨hx (xt _ hx2),rF _,fun y hy hy2 a1 a2 n1 n2=>?_⟩⟩
 have hf:=hx (xt _ hx2)
 obtain⟨hr,hn⟩:=hy (xt _ hy2)
 obtain⟨A,rfl⟩:∃A:Nat,a=(A:Int):=Int.eq_ofNat_of_zero_le (by omega)
 have A0:0<A:=by omega
 have A1:A<=T.R:=by omega
 have B:=base_of hd hf hn
 have R0:=B.r
 obtain⟨m0,m1,me⟩:=nnF_of (T:=T) (n:=n) (by omega) (by omega) (B.c 0 B.r) (B.c2 0)
 have eI:insN T (A:Int) n=insT T A (nnF T n):=rfl
 have BI:=ins_base B hr A0 A1 m0 m1
 have nI:=ins_nt hn hr A0 A1 m0 m1
 have D1:((vT (insT T A (nnF T n))).Ok/\ntT (vT (insT T A (nnF T n)))/\(vT (insT T A (nnF T n))).hd=(vT (insT T A (nnF T n))).hh 0 0)/\(vT (insT T A (nnF T n))).pad=padF (vT (insT T A (nnF T n))).oP/\(vT (insT T A (nnF T n))).keep=keepF (vT (insT T A (nnF T n))).oK/\(vT (insT T A (nnF T n))).span=spanF (vT (insT T A (nnF T n))).oM:=⟨⟨vT_ok BI,nI,rfl⟩,rfl,rfl,rfl⟩
 have D2:((vT T).Ok/\ntT (vT T)/\(vT T).hd=(vT T).hh 0 0)/\(vT T).pad=padF (vT T).oP/\(vT T).keep=keepF (vT T).oK/\(vT T).span=spanF (vT T).oM:=⟨⟨vT_ok B,hn,rfl⟩,rfl,rfl,rfl⟩
 have eq:=same_eq (T:=T) (m:=nnF T n) A0 A1 R0
 have eC:(insT T A (nnF T n)).C A=nnF T n:=ins_eq.1
 have eR:(insT T A (nnF T n)).R=T.R+1:=rfl
 have sub2:∀U:TD,SubL 0 [.agg (docA (hT U) U.tx U.C U.R),.agg (optA U true)] [.agg (docA (hT (vT U)) (vT U).tx (vT U).C (vT U).R),.agg (optA (vT U) true)]:=fun U=>.cons (SubA.agg docA_sub) (.cons (SubA.agg (nlL_sub rfl)) .nil)
 simp only[me,Int.toNat_natCast,eI,Bool.and_eq_true,decide_eq_true_eq,leB_iff,beqN_iff,blt_iff,and_true,true_and,eC,eR]
 refine⟨⟨by omega,by omega⟩,⟨by omega,by omega⟩,R0,R0,⟨by omega,by omega,by omega,by omega⟩,⟨by omega,by omega⟩,⟨by omega,by omega,by omega⟩,⟨by omega,by omega⟩,nI,by omega,fun k hk hne=>?_,by omega,fun k hk=>?_,fun _ _=>.inl ⟨D1,sub2 (insT T A (nnF T n)),⟨hn,rF _,fun _ _=>.inr ⟨D2,sub2 T,eq,eq⟩⟩,hn,rF _,fun _ _=>.inr ⟨D2,sub2 T,eq,eq⟩⟩⟩
 ·rcases Nat.lt_trichotomy k A with g|g|g
  ·exact iteT (blt_iff.2 g) (fmw_row (x:=rowX T k) (y:=rowX (insT T A (nnF T n)) k) (ins_lt g).2.2.symm (ins_lt g).1.symm)
  ·subst g;simp[notIn] at hne
  ·have e:A+(k-(A+1))=k-1:=by omega
   refine iteB (blt_iff'.2 (by omega)) ?_
   simp only[e]
   exact fmw_row (x:=rowX T (k-1)) (y:=rowX (insT T A (nnF T n)) k) (ins_gt g).2.2.symm (ins_gt g).1.symm
 ·obtain⟨k1,k2,k3,k4,k5⟩:=hh_of (j:=k) (ins_eq (T:=T) (A:=A) (m:=nnF T n)).2.2
  rw[k5,k1,k2,k3,k4]
  exact nlL_sub rfl
theorem sk_fok:FunOk Tryz.prog 3:=⟨Tryz.f3,by kernel_rfl,rfl,by kernel_rfl⟩
theorem sk_ok (T:TD) (a n:Int) (s:Bool):(skS T a n s).Body Tryz.prog 3/\(skS T a n s).BodyD Tryz.prog 3:=by
 refine genS_body (fn:=Tryz.f3) (b:=(bodyOf Tryz.f3)) (LT:=fun _=>[]) ftOk (skU_ok T a n s) 1000 (fun a ha=>LTok.nil) (by kernel_rfl) (by kernel_rfl) ?_
 exact fun x hd=>Ho.of (skR T a n s) (by kernel_rfl) (sk_r T a n s hd)
end Tk
