/- Lemmas of this claim; the last text says what is proved. -/
import Derived.Test.YtblencgndjjleaaGreatDoorK43
set_option linter.all false
set_option maxRecDepth 1000000
namespace Tk
open Go Go.Sx Go.Proofs
open Q
variable [Syms]
def taR(T:TD):Prop:=
 letI a1:=AVal.str [];letI z:=([]:List UInt8)=[];letI w:=Value.int .i64 (Int.ofNat 0);letI y:=Value.int .i64 (Int.ofNat 3);letI v:=AVal.str [(116:UInt8),114];letI u:=AVal.lit (Value.slice none 0 0);letI s:=[(116:UInt8),97,98,108,101];letI p:=[(116:UInt8),98,111,100,121];letI m:=AVal.lit w;letI n:=AVal.lit (Value.int .i64 (Int.ofNat 1));letI g:=w=w;letI d:=fun(i:Nat)=>letI f:=RowX.mk (T.4 i) (T.12 i) (T.13 i) (T.14 i) (T.15 i) (T.C i);AVal.fmw (fun(j:Nat)=>[AVal.str (f.t j),AVal.lit (Value.bool (f.h j)),AVal.str (f.a j),AVal.lit (Value.int .i64 (f.c j)),AVal.lit (Value.int .i64 (f.r j))]) 5 (T.C i);letI b:=[m,AVal.str p,a1,u,AVal.fmw (fun(q:Nat)=>[m,v,a1,u,AVal.fmw (fun(j:Nat)=>[m,AVal.str (hT T q j),a1,u,AVal.fmw (fun(x:Nat)=>[n,a1,AVal.str (T.tx q j),u,u]) 5 (kidN (T.tx q j))]) 5 (T.C q)]) 5 T.R];noSt=noSt/\ntT T/\T.R=T.R/\SubF d d T.R []/\∀(x:Unit),True->∃(x:Unit),True/\noSt=noSt/\(True/\True/\True/\True/\True)/\(True/\True/\True/\True/\∀(i:Nat),i<1->SubL 0 b b)/\y=y/\z/\z/\1=1/\g/\s=s/\z/\1=1/\1=0+1/\g/\p=p/\z/\T.R=T.R/\(∀(k:Nat),letI e:=[m,v,a1,u,AVal.fmw (fun(j:Nat)=>[m,AVal.str (hT T k j),a1,u,AVal.fmw (fun(x:Nat)=>[n,a1,AVal.str (T.tx k j),u,u]) 5 (kidN (T.tx k j))]) 5 (T.C k)];k<T.R->SubL 0 e e)/\True
theorem w_V(T:TD):TabOk Tryz.prog (taU T):=by
 refine⟨fun f s h=>?_,fun f s h=>?_⟩
 ·unfold taU at h
  simp only at h
  split at h
  ·cases h;exact a_d w_U (F_Q T).1
  ·cases h
 ·cases h
theorem I_T(T:TD)(hd:ntT T):taR T:=by
 unfold taR
 simp only[a_V,sj1,exists_eq_left',sj6,gt_iff_lt,ge_iff_le,exists_const,Int.ofNat_le,implies_true,Bool.true_eq,Value.bool.injEq]
 repeat' (first|done|exact hd|exact trivial|exact rfl|exact fun i hi _=>SubA.fmw fun _ _=>a_r rfl|exact fun _ _=>b_W|exact fun _ _=>d_b|exact fun _ _=>b_k|intro _|refine And.intro ?_ ?_)
theorem w_W:a_t Tryz.prog 6:=⟨Tryz.f6,aa,rfl,aa⟩
theorem F_R(T:TD):(taS T).Body Tryz.prog 6/\(taS T).BodyD Tryz.prog 6:=by
 refine a_c (fn:=Tryz.f6) (b:=a_b Tryz.f6) (LT:=fun _=>[]) a_l (w_V T) 1000 (fun a ha=>LTok.nil) aa aa ?_
 exact fun a ha=>Ho.of (taR T) aa (I_T T ha)
def kvR(T:TD):Prop:=
 letI k1:=noSt=noSt;letI m1:=AVal.str [];letI g1:=[(42:UInt8),42];letI h1:=Nat->Nat->By;letI d1:=Value.bool T.promote;letI e1:=[(116:UInt8),104];letI f1:=[(116:UInt8),100];letI c1:=[(96:UInt8),96,96];letI b1:=[(97:UInt8),116,120];letI a1:=AVal.str [(116:UInt8),114];letI z:=[(42:UInt8),32,42,32,42];letI y:=AVal.lit (Value.slice none 0 0);letI u:=AVal.lit (Value.int .i64 (Int.ofNat 1));letI v:=AVal.lit (Value.int .i64 (Int.ofNat 3));letI w:=AVal.lit (Value.int .i64 (Int.ofNat 0));letI t:=[(114:UInt8),101,110,100,101,114];letI s:=AVal.str [(116:UInt8),97,98,108,101];letI r:=AVal.str [(116:UInt8),98,111,100,121];letI q:=[(105:UInt8),110,108,105,110,101,100];letI p:=t=t;letI m:=fun(i j:Nat)=>(hT T i j,a_V [u,m1,AVal.str (T.tx i j),y,y]).snd;letI k:=fun(i:Nat)=>(fun(j:Nat)=>(hT T i j,a_V [u,m1,AVal.str (T.tx i j),y,y]).snd,T.C i).snd;letI h:=(k,T.R);letI f:=h.snd;letI g:=h.fst;letI c:=(fun(i j:Nat)=>(hT T i j,a_V [u,m1,AVal.str (T.tx i j),y,y]).fst,m,k,T.R);letI b:=c.fst;k1/\True/\1=1/\3=3/\[(42:UInt8)]=[(42:UInt8)]/\g1=g1/\z=z/\[(45:UInt8)]=[(45:UInt8)]/\Value.bool false=Value.bool false/\c1=c1/\b1=b1/\q=q/\p/\p/\T.span=T.span/\T.keep=T.keep/\Value.bool T.skip=Value.bool T.skip/\d1=d1/\Value.bool T.pres=Value.bool T.pres/\T.pad=T.pad/\∀(x:Unit),True->k1/\((0<f/\f<=1000)/\∀(i:Nat),letI e:=g i;i<f->(0<e/\e<=1000)/\∀(j:Nat),letI a:=b i j;j<e->a=e1\/a=f1)/\SubL 0 [AVal.agg [v,m1,m1,y,AVal.fmw (fun(x:Nat)=>[w,s,m1,y,AVal.fmw (fun(x:Nat)=>[w,r,m1,y,AVal.fmw (fun(i:Nat)=>[w,a1,m1,y,AVal.fmw (fun(j:Nat)=>[w,AVal.str (hT T i j),m1,y,AVal.fmw (fun(x:Nat)=>[u,m1,AVal.str (T.tx i j),y,y]) 5 (kidN (T.tx i j))]) 5 (T.C i)]) 5 T.R]) 5 1]) 5 1]] [AVal.agg [v,m1,m1,y,AVal.fmw (fun(x:Nat)=>[w,s,m1,y,AVal.fmw (fun(x:Nat)=>[w,r,m1,y,AVal.fmw (fun(i:Nat)=>[w,a1,m1,y,AVal.fmw (fun(j:Nat)=>letI d:=(m,k,T.R).fst i j;[w,AVal.str (b i j),m1,y,AVal.fmw (fun(x:Nat)=>[u,m1,AVal.str d,y,y]) 5 (kidN d)]) 5 (g i)]) 5 f]) 5 1]) 5 1]]/\∀(x:h1×h1×(Nat->Nat)×Nat),x=c->k1/\TD.Ok T/\SubL 0 [AVal.mp (MP.ren (fun(i:Nat)=>7+i) (qC T)),AVal.mp (MP.ren (fun(i:Nat)=>bif false then 0 else 7+i) (qD false x.1 x.snd.1 x.snd.snd.1 x.snd.2.snd)),y] [AVal.mp (qC T),AVal.mp (qD T.role (fun(i _j:Nat)=>bif Nat.beq i 0&&T.hd then e1 else f1) T.4 T.2 T.R),y]/\∀(x:List UInt8),letI n:=∃(x_1:By),x_1=post (docF T)/\k1/\(True/\True)/\True/\x=x_1/\Value.bool true=Value.bool true/\True;x=post (docF T)->n/\n
theorem w_X(T:TD):TabOk Tryz.prog (kvU T):=by
 refine⟨fun f s h=>?_,fun f s h=>?_⟩
 ·unfold kvU at h
  simp only at h
  split at h
  ·cases h;exact a_d r_a (k_e T)
  ·cases h;exact b_z e_D (p_H T)
  ·cases h;exact b_z o_m (o_l T)
  ·cases h
 ·cases h
theorem I_U(T:TD)(hd:T.Ok/\ntT T/\T.hd=T.hh 0 0/\T.role=false):kvR T:=by
 unfold kvR
 simp only[a_V,sj1,exists_eq_left',sj6,gt_iff_lt,ge_iff_le,exists_const,Int.ofNat_le,implies_true,Bool.true_eq,Value.bool.injEq]
 exact fun _ _=>⟨o_n hd.2.1,f_O,hd.1,.cons q_8 (.cons (q_7 hd.2.2.2.symm (r_d hd.2.1 hd.2.2.1)) (.cons (a_g rfl) .nil))⟩
theorem r_j:a_t Tryz.prog 16:=⟨Tryz.f16,aa,rfl,aa⟩
theorem F_S(T:TD):(kvS T).Body Tryz.prog 16/\(kvS T).BodyD Tryz.prog 16:=by
 refine a_c (fn:=Tryz.f16) (b:=a_b Tryz.f16) (LT:=fun _=>[]) a_l (w_X T) 1000 (fun a ha=>LTok.nil) aa aa ?_
 exact fun a ha=>Ho.of (kvR T) aa (I_U T ha)
def ttR(T:TD):Prop:=
 letI y:=noSt=noSt;letI z:=[]=T.span;letI a1:=[]=T.keep;letI v:=Value.bool T.skip;letI w:=Value.bool T.pres;letI u:=Value.bool T.promote;letI s:=v=v;letI t:=w=w;letI r:=u=u;letI q:=[(109:UInt8),105,114,114,111,114]=T.span;letI p:=True/\True/\True/\True/\True/\True/\True;letI n:=[(112:UInt8),114,101,115,101,114,118,101]=T.keep;letI m:=s/\r/\t/\[(110:UInt8),111,110,101]=T.pad/\True;letI h:=s/\r/\t/\[(109:UInt8),105,110,105,109,97,108]=T.pad/\True;letI k:=s/\r/\t/\[(97:UInt8),108,105,103,110,101,100]=T.pad/\True;letI g:=a1/\m;letI e:=a1/\h;letI f:=a1/\k;letI d:=n/\m;letI b:=n/\h;letI c:=n/\k;letI a:=br T.oK (br T.oM (∃(x:Unit),True/\y/\True/\p/\q/\c) (∃(x:Unit),True/\y/\True/\p/\z/\c)) (br T.oM (∃(x:Unit),True/\y/\True/\p/\q/\f) (∃(x:Unit),True/\y/\True/\p/\z/\f));br (decide (T.oP>Int.ofNat 0)) (br (T.oP==Int.ofNat 2) (br T.oK (br T.oM (∃(x:Unit),True/\y/\True/\p/\q/\b) (∃(x:Unit),True/\y/\True/\p/\z/\b)) (br T.oM (∃(x:Unit),True/\y/\True/\p/\q/\e) (∃(x:Unit),True/\y/\True/\p/\z/\e))) (br (T.oP==Int.ofNat 3) (br T.oK (br T.oM (∃(x:Unit),True/\y/\True/\p/\q/\d) (∃(x:Unit),True/\y/\True/\p/\z/\d)) (br T.oM (∃(x:Unit),True/\y/\True/\p/\q/\g) (∃(x:Unit),True/\y/\True/\p/\z/\g))) a)) a
theorem I_V(T:TD)(hd:T.pad=padF T.oP/\T.keep=keepF T.oK/\T.span=spanF T.oM):ttR T:=by
 unfold ttR
 obtain⟨h1,h2,h3⟩:=hd
 simp only[a_V,sj1,exists_eq_left',sj6,gt_iff_lt,ge_iff_le,exists_const,Int.ofNat_le,implies_true,Bool.true_eq,Value.bool.injEq]
 rw[h1,h2,h3]
 unfold padF keepF spanF
 by_cases g1:T.oP>0<;>by_cases g2:T.oP=2<;>by_cases g3:T.oP=3<;>cases T.oK<;>cases T.oM<;>simp[g1,g2,g3,h_g,k_C,m_v,show(T.oP==(2:Int))=decide (T.oP=2) from rfl,show(T.oP==(3:Int))=decide (T.oP=3) from rfl]
theorem r_k:a_t Tryz.prog 19:=⟨Tryz.f19,aa,rfl,aa⟩
theorem w_Y(T:TD):(ttS T).Body Tryz.prog 19/\(ttS T).BodyD Tryz.prog 19:=by
 refine a_c (fn:=Tryz.f19) (b:=a_b Tryz.f19) (LT:=fun _=>[]) a_l (a_y) 1000 (fun a ha=>LTok.nil) aa aa ?_
 exact fun a ha=>Ho.of (ttR T) aa (I_V T ha)
def kxR(T:TD):Prop:=
 letI f1:=noSt=noSt;letI g1:=AVal.str [];letI e1:=[(42:UInt8),42];letI d1:=Value.int .i64 T.oP;letI c1:=Value.bool T.promote;letI a1:=([]:List UInt8)=[];letI b1:=[(96:UInt8),96,96];letI z:=[(97:UInt8),116,120];letI y:=Value.int .i64 (Int.ofNat 3);letI w:=[(42:UInt8),32,42,32,42];letI v:=AVal.lit (Value.slice none 0 0);letI t:=Value.bool T.oK=Value.bool T.oK;letI u:=Value.bool T.oM=Value.bool T.oM;letI s:=Value.bool false=Value.bool false;letI q:=Value.bool T.skip=Value.bool T.skip;letI r:=Value.bool T.pres=Value.bool T.pres;letI p:=AVal.lit (Value.int .i64 (Int.ofNat 0));letI n:=[(114:UInt8),101,110,100,101,114];letI m:=d1=d1;letI h:=c1=c1;letI g:=[(105:UInt8),110,108,105,110,101,100];letI f:=y=y;letI e:=n=n;letI d:=[p,AVal.str [(116:UInt8),97,98,108,101],g1,v,AVal.fmw (fun(x:Nat)=>[p,AVal.str [(116:UInt8),98,111,100,121],g1,v,AVal.fmw (fun(i:Nat)=>[p,AVal.str [(116:UInt8),114],g1,v,AVal.fmw (fun(j:Nat)=>[p,AVal.str (hT T i j),g1,v,AVal.fmw (fun(x:Nat)=>[AVal.lit (Value.int .i64 (Int.ofNat 1)),g1,AVal.str (T.tx i j),v,v]) 5 (kidN (T.tx i j))]) 5 (T.C i)]) 5 T.R]) 5 1];letI c:=SubL 0 d d;letI b:=∀(k:Nat),k<1->c;f1/\(T.pad=padF T.oP/\T.keep=keepF T.oK/\T.span=spanF T.oM)/\m/\t/\u/\h/\q/\r/\∀(x:Unit),True->f1/\(TD.Ok T/\ntT T/\T.hd=T.hh 0 0/\T.role=false)/\f/\a1/\a1/\1=1/\b/\s/\3=3/\[(42:UInt8)]=[(42:UInt8)]/\e1=e1/\w=w/\[(45:UInt8)]=[(45:UInt8)]/\s/\b1=b1/\z=z/\g=g/\e/\e/\T.span=T.span/\T.keep=T.keep/\q/\h/\r/\T.pad=T.pad/\∀(x:List UInt8),letI a:=∃(x_1:By),x_1=post (docF T)/\f1/\True/\((True/\True/\True/\True/\∀(i:Nat),i<1->c)/\(True/\True/\True/\True/\True/\True)/\True/\True)/\f/\a1/\a1/\1=1/\b/\m/\t/\u/\h/\q/\r/\x=x_1/\Value.bool true=Value.bool true/\True;x=post (docF T)->(a/\a)/\a
theorem w_Z(T:TD):TabOk Tryz.prog (kxU T):=by
 refine⟨fun f s h=>?_,fun f s h=>?_⟩
 ·unfold kxU at h
  simp only at h
  split at h
  ·cases h;exact a_d r_k (w_Y T).1
  ·cases h;exact a_d r_j (F_S T).1
  ·cases h
 ·cases h
theorem I_W(T:TD)(hd:(T.Ok/\ntT T/\T.hd=T.hh 0 0/\T.role=false)/\T.pad=padF T.oP/\T.keep=keepF T.oK/\T.span=spanF T.oM):kxR T:=by
 unfold kxR
 simp only[a_V,sj1,exists_eq_left',sj6,gt_iff_lt,ge_iff_le,exists_const,Int.ofNat_le,implies_true,Bool.true_eq,Value.bool.injEq]
 repeat' (first|done|exact hd.2|exact hd.1|exact hd|exact trivial|exact rfl|exact fun _ _=>b_W|exact fun _ _=>c_J|exact e_c|exact f_O|exact .cons (SubA.agg e_c) (.cons (SubA.agg (a_r rfl)) .nil)|intro _|refine And.intro ?_ ?_)
theorem r_l:a_t Tryz.prog 15:=⟨Tryz.f15,aa,rfl,aa⟩
theorem F_T(T:TD):(kxS T).Body Tryz.prog 15/\(kxS T).BodyD Tryz.prog 15:=by
 refine a_c (fn:=Tryz.f15) (b:=a_b Tryz.f15) (LT:=fun _=>[]) a_l (w_Z T) 1000 (fun a ha=>LTok.nil) aa aa ?_
 exact fun a ha=>Ho.of (kxR T) aa (I_W T ha)
def kyR(T:TD):Prop:=
 letI s:=AVal.str [];letI p:=Value.bool T.oK;letI q:=Value.bool T.oM;letI r:=Value.bool true;letI n:=Value.bool false;letI h:=Value.bool T.skip;letI m:=Value.bool T.pres;letI g:=Value.int .i64 T.oP;letI f:=Value.bool T.promote;letI e:=([]:List UInt8)=[];letI d:=Value.int .i64 (Int.ofNat 3);letI c:=AVal.lit (Value.slice none 0 0);letI b:=AVal.lit (Value.int .i64 (Int.ofNat 0));letI a:=[b,AVal.str [(116:UInt8),97,98,108,101],s,c,AVal.fmw (fun(x:Nat)=>[b,AVal.str [(116:UInt8),98,111,100,121],s,c,AVal.fmw (fun(i:Nat)=>[b,AVal.str [(116:UInt8),114],s,c,AVal.fmw (fun(j:Nat)=>[b,AVal.str (hT T i j),s,c,AVal.fmw (fun(x:Nat)=>[AVal.lit (Value.int .i64 (Int.ofNat 1)),s,AVal.str (T.tx i j),c,c]) 5 (kidN (T.tx i j))]) 5 (T.C i)]) 5 T.R]) 5 1];noSt=noSt/\((TD.Ok T/\ntT T/\T.hd=T.hh 0 0/\T.role=false)/\T.pad=padF T.oP/\T.keep=keepF T.oK/\T.span=spanF T.oM)/\d=d/\e/\e/\1=1/\(∀(k:Nat),k<1->SubL 0 a a)/\g=g/\p=p/\q=q/\f=f/\h=h/\m=m/\e/\n=n/\∀(x:List UInt8),x=post (docF T)->∃(x_1:By),x_1=post (docF T)/\noSt=noSt/\(True/\True)/\True/\x=x_1/\r=r/\True
theorem w_0(T:TD):TabOk Tryz.prog (kyU T):=by
 refine⟨fun f s h=>?_,fun f s h=>?_⟩
 ·unfold kyU at h
  simp only at h
  split at h
  ·cases h;exact a_d r_l (F_T T).1
  ·cases h
 ·unfold kyU at h
  simp only at h
  split at h
  ·cases h;exact t_1
  ·cases h
theorem I_X(T:TD)(hd:(T.Ok/\ntT T/\T.hd=T.hh 0 0/\T.role=false)/\T.pad=padF T.oP/\T.keep=keepF T.oK/\T.span=spanF T.oM):kyR T:=by
 unfold kyR
 simp only[a_V,sj1,exists_eq_left',sj6,gt_iff_lt,ge_iff_le,exists_const,Int.ofNat_le,implies_true,Bool.true_eq,Value.bool.injEq]
 repeat' (first|done|exact hd.2|exact hd.1|exact hd|exact trivial|exact rfl|exact fun _ _=>b_W|exact fun _ _=>c_J|exact e_c|exact f_O|exact .cons (SubA.agg e_c) (.cons (SubA.agg (a_r rfl)) .nil)|intro _|refine And.intro ?_ ?_)
theorem w_1:a_t Tryz.prog 7:=⟨Tryz.f7,aa,rfl,aa⟩
theorem F_U(T:TD):(kyS T).Body Tryz.prog 7/\(kyS T).BodyD Tryz.prog 7:=by
 refine a_c (fn:=Tryz.f7) (b:=a_b Tryz.f7) (LT:=fun _=>[]) a_l (w_0 T) 1000 (fun a ha=>LTok.nil) aa aa ?_
 exact fun a ha=>Ho.of (kyR T) aa (I_X T ha)
def lvR(T:TD):Prop:=
 letI m1:=noSt=noSt;letI n1:=AVal.str [];letI h1:=[(42:UInt8),42];letI k1:=Nat->Nat->By;letI e1:=Value.bool T.promote;letI f1:=[(116:UInt8),104];letI g1:=[(116:UInt8),100];letI d1:=[(96:UInt8),96,96];letI c1:=[(97:UInt8),116,120];letI b1:=AVal.str [(116:UInt8),114];letI a1:=[(42:UInt8),32,42,32,42];letI z:=AVal.lit (Value.slice none 0 0);letI v:=AVal.lit (Value.int .i64 (Int.ofNat 1));letI w:=AVal.lit (Value.int .i64 (Int.ofNat 3));letI y:=AVal.lit (Value.int .i64 (Int.ofNat 0));letI u:=[(114:UInt8),101,110,100,101,114];letI t:=AVal.str [(116:UInt8),97,98,108,101];letI s:=AVal.str [(116:UInt8),98,111,100,121];letI r:=[(105:UInt8),110,108,105,110,101,100];letI q:=u=u;letI n:=AVal.fmw (fun(x:Nat)=>[AVal.str [(114:UInt8),111,108,101],AVal.str [(112:UInt8),114,101,115,101,110,116,97,116,105,111,110]]) 2 1;letI m:=fun(i j:Nat)=>(hT T i j,a_V [v,n1,AVal.str (T.tx i j),z,z]).snd;letI k:=fun(i:Nat)=>(fun(j:Nat)=>(hT T i j,a_V [v,n1,AVal.str (T.tx i j),z,z]).snd,T.C i).snd;letI h:=(k,T.R);letI f:=h.snd;letI g:=h.fst;letI c:=(fun(i j:Nat)=>(hT T i j,a_V [v,n1,AVal.str (T.tx i j),z,z]).fst,m,k,T.R);letI b:=c.fst;m1/\True/\1=1/\3=3/\[(42:UInt8)]=[(42:UInt8)]/\h1=h1/\a1=a1/\[(45:UInt8)]=[(45:UInt8)]/\Value.bool false=Value.bool false/\d1=d1/\c1=c1/\r=r/\q/\q/\T.span=T.span/\T.keep=T.keep/\Value.bool T.skip=Value.bool T.skip/\e1=e1/\Value.bool T.pres=Value.bool T.pres/\T.pad=T.pad/\∀(x:Unit),True->m1/\((0<f/\f<=1000)/\∀(i:Nat),letI e:=g i;i<f->(0<e/\e<=1000)/\∀(j:Nat),letI a:=b i j;j<e->a=f1\/a=g1)/\SubL 0 [AVal.agg [w,n1,n1,z,AVal.fmw (fun(x:Nat)=>[y,t,n1,n,AVal.fmw (fun(x:Nat)=>[y,s,n1,z,AVal.fmw (fun(i:Nat)=>[y,b1,n1,z,AVal.fmw (fun(j:Nat)=>[y,AVal.str (hT T i j),n1,z,AVal.fmw (fun(x:Nat)=>[v,n1,AVal.str (T.tx i j),z,z]) 5 (kidN (T.tx i j))]) 5 (T.C i)]) 5 T.R]) 5 1]) 5 1]] [AVal.agg [w,n1,n1,z,AVal.fmw (fun(x:Nat)=>[y,t,n1,n,AVal.fmw (fun(x:Nat)=>[y,s,n1,z,AVal.fmw (fun(i:Nat)=>[y,b1,n1,z,AVal.fmw (fun(j:Nat)=>letI d:=(m,k,T.R).fst i j;[y,AVal.str (b i j),n1,z,AVal.fmw (fun(x:Nat)=>[v,n1,AVal.str d,z,z]) 5 (kidN d)]) 5 (g i)]) 5 f]) 5 1]) 5 1]]/\∀(x:k1×k1×(Nat->Nat)×Nat),x=c->m1/\TD.Ok T/\SubL 0 [AVal.mp (MP.ren (fun(i:Nat)=>7+i) (qC T)),AVal.mp (MP.ren (fun(i:Nat)=>bif false then 0 else 7+i) (qD true x.1 x.snd.1 x.snd.snd.1 x.snd.2.snd)),z] [AVal.mp (qC T),AVal.mp (qD T.role (fun(i _j:Nat)=>bif Nat.beq i 0&&T.hd then f1 else g1) T.4 T.2 T.R),z]/\∀(x:List UInt8),letI p:=∃(x_1:By),x_1=post (docF T)/\m1/\(True/\True)/\True/\x=x_1/\Value.bool true=Value.bool true/\True;x=post (docF T)->p/\p
theorem w_2(T:TD):TabOk Tryz.prog (lvU T):=by
 refine⟨fun f s h=>?_,fun f s h=>?_⟩
 ·unfold lvU at h
  simp only at h
  split at h
  ·cases h;exact a_d r_a (k_e T)
  ·cases h;exact b_z e_D (p_I T)
  ·cases h;exact b_z o_m (o_l T)
  ·cases h
 ·cases h
theorem I_Y(T:TD)(hd:T.Ok/\ntT T/\T.hd=T.hh 0 0/\T.role=true):lvR T:=by
 unfold lvR
 simp only[a_V,sj1,exists_eq_left',sj6,gt_iff_lt,ge_iff_le,exists_const,Int.ofNat_le,implies_true,Bool.true_eq,Value.bool.injEq]
 exact fun _ _=>⟨o_n hd.2.1,f_P,hd.1,.cons q_8 (.cons (q_7 hd.2.2.2.symm (r_d hd.2.1 hd.2.2.1)) (.cons (a_g rfl) .nil))⟩
theorem F_V(T:TD):(lvS T).Body Tryz.prog 16/\(lvS T).BodyD Tryz.prog 16:=by
 refine a_c (fn:=Tryz.f16) (b:=a_b Tryz.f16) (LT:=fun _=>[]) a_l (w_2 T) 1000 (fun a ha=>LTok.nil) aa aa ?_
 exact fun a ha=>Ho.of (lvR T) aa (I_Y T ha)
def lxR(T:TD):Prop:=
 letI f1:=noSt=noSt;letI g1:=AVal.str [];letI e1:=[(42:UInt8),42];letI d1:=Value.int .i64 T.oP;letI c1:=Value.bool T.promote;letI a1:=([]:List UInt8)=[];letI b1:=[(96:UInt8),96,96];letI z:=[(97:UInt8),116,120];letI y:=Value.int .i64 (Int.ofNat 3);letI w:=[(42:UInt8),32,42,32,42];letI v:=AVal.lit (Value.slice none 0 0);letI t:=Value.bool T.oK=Value.bool T.oK;letI u:=Value.bool T.oM=Value.bool T.oM;letI s:=Value.bool false=Value.bool false;letI q:=Value.bool T.skip=Value.bool T.skip;letI r:=Value.bool T.pres=Value.bool T.pres;letI p:=AVal.lit (Value.int .i64 (Int.ofNat 0));letI n:=[(114:UInt8),101,110,100,101,114];letI m:=d1=d1;letI h:=c1=c1;letI g:=[(105:UInt8),110,108,105,110,101,100];letI f:=y=y;letI e:=n=n;letI d:=[p,AVal.str [(116:UInt8),97,98,108,101],g1,AVal.fmw (fun(x:Nat)=>[AVal.str [(114:UInt8),111,108,101],AVal.str [(112:UInt8),114,101,115,101,110,116,97,116,105,111,110]]) 2 1,AVal.fmw (fun(x:Nat)=>[p,AVal.str [(116:UInt8),98,111,100,121],g1,v,AVal.fmw (fun(i:Nat)=>[p,AVal.str [(116:UInt8),114],g1,v,AVal.fmw (fun(j:Nat)=>[p,AVal.str (hT T i j),g1,v,AVal.fmw (fun(x:Nat)=>[AVal.lit (Value.int .i64 (Int.ofNat 1)),g1,AVal.str (T.tx i j),v,v]) 5 (kidN (T.tx i j))]) 5 (T.C i)]) 5 T.R]) 5 1];letI c:=SubL 0 d d;letI b:=∀(k:Nat),k<1->c;f1/\(T.pad=padF T.oP/\T.keep=keepF T.oK/\T.span=spanF T.oM)/\m/\t/\u/\h/\q/\r/\∀(x:Unit),True->f1/\(TD.Ok T/\ntT T/\T.hd=T.hh 0 0/\T.role=true)/\f/\a1/\a1/\1=1/\b/\s/\3=3/\[(42:UInt8)]=[(42:UInt8)]/\e1=e1/\w=w/\[(45:UInt8)]=[(45:UInt8)]/\s/\b1=b1/\z=z/\g=g/\e/\e/\T.span=T.span/\T.keep=T.keep/\q/\h/\r/\T.pad=T.pad/\∀(x:List UInt8),letI a:=∃(x_1:By),x_1=post (docF T)/\f1/\True/\((True/\True/\True/\True/\∀(i:Nat),i<1->c)/\(True/\True/\True/\True/\True/\True)/\True/\True)/\f/\a1/\a1/\1=1/\b/\m/\t/\u/\h/\q/\r/\x=x_1/\Value.bool true=Value.bool true/\True;x=post (docF T)->(a/\a)/\a
theorem w_3(T:TD):TabOk Tryz.prog (lxU T):=by
 refine⟨fun f s h=>?_,fun f s h=>?_⟩
 ·unfold lxU at h
  simp only at h
  split at h
  ·cases h;exact a_d r_k (w_Y T).1
  ·cases h;exact a_d r_j (F_V T).1
  ·cases h
 ·cases h
theorem I_Z(T:TD)(hd:(T.Ok/\ntT T/\T.hd=T.hh 0 0/\T.role=true)/\T.pad=padF T.oP/\T.keep=keepF T.oK/\T.span=spanF T.oM):lxR T:=by
 unfold lxR
 simp only[a_V,sj1,exists_eq_left',sj6,gt_iff_lt,ge_iff_le,exists_const,Int.ofNat_le,implies_true,Bool.true_eq,Value.bool.injEq]
 repeat' (first|done|exact hd.2|exact hd.1|exact hd|exact trivial|exact rfl|exact fun _ _=>b_W|exact fun _ _=>c_J|exact e_d|exact f_P|exact .cons (SubA.agg e_d) (.cons (SubA.agg (a_r rfl)) .nil)|intro _|refine And.intro ?_ ?_)
theorem F_W(T:TD):(lxS T).Body Tryz.prog 15/\(lxS T).BodyD Tryz.prog 15:=by
 refine a_c (fn:=Tryz.f15) (b:=a_b Tryz.f15) (LT:=fun _=>[]) a_l (w_3 T) 1000 (fun a ha=>LTok.nil) aa aa ?_
 exact fun a ha=>Ho.of (lxR T) aa (I_Z T ha)
def lyR(T:TD):Prop:=
 letI s:=AVal.str [];letI p:=Value.bool T.oK;letI q:=Value.bool T.oM;letI r:=Value.bool true;letI n:=Value.bool false;letI h:=Value.bool T.skip;letI m:=Value.bool T.pres;letI g:=Value.int .i64 T.oP;letI f:=Value.bool T.promote;letI e:=([]:List UInt8)=[];letI d:=Value.int .i64 (Int.ofNat 3);letI c:=AVal.lit (Value.slice none 0 0);letI b:=AVal.lit (Value.int .i64 (Int.ofNat 0));letI a:=[b,AVal.str [(116:UInt8),97,98,108,101],s,AVal.fmw (fun(x:Nat)=>[AVal.str [(114:UInt8),111,108,101],AVal.str [(112:UInt8),114,101,115,101,110,116,97,116,105,111,110]]) 2 1,AVal.fmw (fun(x:Nat)=>[b,AVal.str [(116:UInt8),98,111,100,121],s,c,AVal.fmw (fun(i:Nat)=>[b,AVal.str [(116:UInt8),114],s,c,AVal.fmw (fun(j:Nat)=>[b,AVal.str (hT T i j),s,c,AVal.fmw (fun(x:Nat)=>[AVal.lit (Value.int .i64 (Int.ofNat 1)),s,AVal.str (T.tx i j),c,c]) 5 (kidN (T.tx i j))]) 5 (T.C i)]) 5 T.R]) 5 1];noSt=noSt/\((TD.Ok T/\ntT T/\T.hd=T.hh 0 0/\T.role=true)/\T.pad=padF T.oP/\T.keep=keepF T.oK/\T.span=spanF T.oM)/\d=d/\e/\e/\1=1/\(∀(k:Nat),k<1->SubL 0 a a)/\g=g/\p=p/\q=q/\f=f/\h=h/\m=m/\e/\n=n/\∀(x:List UInt8),x=post (docF T)->∃(x_1:By),x_1=post (docF T)/\noSt=noSt/\(True/\True)/\True/\x=x_1/\r=r/\True
theorem w_4(T:TD):TabOk Tryz.prog (lyU T):=by
 refine⟨fun f s h=>?_,fun f s h=>?_⟩
 ·unfold lyU at h
  simp only at h
  split at h
  ·cases h;exact a_d r_l (F_W T).1
  ·cases h
 ·unfold lyU at h
  simp only at h
  split at h
  ·cases h;exact t_1
  ·cases h
theorem I_0(T:TD)(hd:(T.Ok/\ntT T/\T.hd=T.hh 0 0/\T.role=true)/\T.pad=padF T.oP/\T.keep=keepF T.oK/\T.span=spanF T.oM):lyR T:=by
 unfold lyR
 simp only[a_V,sj1,exists_eq_left',sj6,gt_iff_lt,ge_iff_le,exists_const,Int.ofNat_le,implies_true,Bool.true_eq,Value.bool.injEq]
 repeat' (first|done|exact hd.2|exact hd.1|exact hd|exact trivial|exact rfl|exact fun _ _=>b_W|exact fun _ _=>c_J|exact e_d|exact f_P|exact .cons (SubA.agg e_d) (.cons (SubA.agg (a_r rfl)) .nil)|intro _|refine And.intro ?_ ?_)
theorem F_X(T:TD):(lyS T).Body Tryz.prog 7/\(lyS T).BodyD Tryz.prog 7:=by
 refine a_c (fn:=Tryz.f7) (b:=a_b Tryz.f7) (LT:=fun _=>[]) a_l (w_4 T) 1000 (fun a ha=>LTok.nil) aa aa ?_
 exact fun a ha=>Ho.of (lyR T) aa (I_0 T ha)
def F_Y(T:TD)(l:By)(a:Int)(k:Nat):Prop:=
 letI m:=noSt=noSt;letI h:=List.length l;letI f:=Value.bool false;letI g:=Value.int .i64 a;letI d:=Int.ofNat h;letI c:=Value.int .i64 (Int.ofNat 0);letI b:=decide (Int.ofNat k<d);br b (gd b (br (Int.ofNat (UInt8.toNat (List.getD l k (0:UInt8)))!=Int.ofNat 45) (∃(x:Unit),True/\m/\c=c/\f=f/\True) (∃(j':By×Int×Nat),letI e:=List.length j'.fst;(j'.2.snd<=e/\e<=1099511627776)/\e-j'.2.snd<h-k/\m/\l=j'.fst/\g=Value.int .i64 j'.2.fst/\Value.int .i64 d=Value.int .i64 (Int.ofNat e)/\Value.int .i64 (IntKind.wrap .i64 (Int.ofNat (k+1)))=Value.int .i64 (Int.ofNat j'.2.snd)/\True))) (∃(x:By×Int),True/\m/\l=x.fst/\g=Value.int .i64 x.snd/\True)
def g5R(T:TD)(l:By):Prop:=
 letI f1:=Int.ofNat 0;letI g1:=Int.ofNat 1;letI h1:=noSt=noSt;letI e1:=Int.ofNat 58;letI d1:=List.drop 1 l;letI y:=Int.ofNat (List.length l);letI w:=Value.int .i64 f1;letI v:=Int.ofNat (List.length d1);letI u:=decide (y>f1);letI t:=IntKind.wrap .i64 (y-g1);letI s:=w=w/\True;letI r:=Int.toNat t;letI q:=IntKind.wrap .i64 (v-g1);letI p:=decide (f1<=t);letI m:=Int.toNat q;letI n:=List.take r l;letI k:=decide (f1<=q);letI h:=List.take m d1;letI g:=(∀(x:By×Int),True->∃(x_1:Int×Bool),True/\h1/\(True/\True)/\True/\Value.int .i64 x.snd=Value.int .i64 x_1.fst/\(Value.bool !eqL x.fst [])=Value.bool x_1.snd/\True)/\∀(x:Unit),True->∃(x:Int×Bool),True/\h1/\(True/\True)/\True/\w=Value.int .i64 x.fst/\Value.bool false=Value.bool x.snd/\True;letI f:=∃(l_1:By),letI c1:=List.length l_1;∃(a:Int),(0<=c1/\c1<=1099511627776)/\(h1/\l=l_1/\w=Value.int .i64 a/\Value.int .i64 y=Value.int .i64 (Int.ofNat c1)/\s)/\g;letI e:=∃(l_1:By),letI a1:=List.length l_1;∃(a:Int),(0<=a1/\a1<=1099511627776)/\(h1/\d1=l_1/\Value.int .i64 g1=Value.int .i64 a/\Value.int .i64 v=Value.int .i64 (Int.ofNat a1)/\s)/\g;letI d:=gd (p&&decide (t<=y)) (∃(l_1:By),letI b1:=List.length l_1;∃(a:Int),(0<=b1/\b1<=1099511627776)/\(h1/\n=l_1/\Value.int .i64 (Int.ofNat 2)=Value.int .i64 a/\Value.int .i64 (Int.ofNat (List.length n))=Value.int .i64 (Int.ofNat b1)/\s)/\g);letI c:=gd (k&&decide (q<=v)) (∃(l_1:By),letI z:=List.length l_1;∃(a:Int),(0<=z/\z<=1099511627776)/\(h1/\h=l_1/\Value.int .i64 (Int.ofNat 3)=Value.int .i64 a/\Value.int .i64 (Int.ofNat (List.length h))=Value.int .i64 (Int.ofNat z)/\s)/\g);letI b:=br u (gd (p&&decide (t<y)) (br (Int.ofNat (UInt8.toNat (List.getD l r (0:UInt8)))==e1) (d/\d/\d/\d) f)) f;br u (gd (decide (f1<y)) (br (Int.ofNat (UInt8.toNat (List.getD l 0 (0:UInt8)))==e1) (gd (decide (g1<=y)&&decide (y<=y)) (br (decide (v>f1)) (gd (k&&decide (q<v)) (br (Int.ofNat (UInt8.toNat (List.getD d1 m (0:UInt8)))==e1) (c/\c/\c/\c) e)) e)) b)) b
theorem F_Z(T:TD)(l:By)(a:Int)(k:Nat)(h:k<=l.length/\l.length<=1099511627776):F_Y T l a k:=by
 unfold F_Y
 obtain⟨h1,h2⟩:=h
 have e1:IntKind.wrap IntKind.i64 (Int.ofNat (k+1))=Int.ofNat (k+1):=a_o ab ab
 simp only[e1]
 simp only[a_V,sj1,exists_eq_left',sj6,gt_iff_lt,ge_iff_le,exists_const,Int.ofNat_le,implies_true,Bool.true_eq,Value.bool.injEq,d_p]
 repeat' (first|done|omega|exact trivial|exact rfl|(dsimp only;omega)|refine⟨(l,a,k+1),?_⟩|refine⟨(l,a),?_⟩|intro _|refine And.intro ?_ ?_)
theorem F_0(T:TD):(g5D T).Body Tryz.prog (sub (a_b Tryz.f22) [0,0,1,0,1,1,1,1]):=by
 refine LoopD.bodyH (root:=(a_b Tryz.f22)) [0,0,1,0,1,1,1,1] a_l (a_y) (LTok.nil) 1000 ?_
 exact fun j hj=>Ho.of (F_Y T j.1 j.2.1 j.2.2) aa (F_Z T j.1 j.2.1 j.2.2 hj)
theorem I_1(T:TD)(l:By)(hd:l.length<=1099511627776):g5R T l:=by
 unfold g5R
 have wp:∀n:Nat,n<=1099511627776->IntKind.wrap IntKind.i64 (Int.ofNat (n+1)-Int.ofNat 1)=Int.ofNat n:=fun n h=>h_h (a:=n+1) (b:=1) ac ac
 have tn:∀n:Nat,Int.toNat (Int.ofNat n)=n:=fun n=>rfl
 rcases l with _|⟨c,l⟩
 ·simp only[List.length_nil,List.drop_nil]
  simp only[a_V,sj1,exists_eq_left',sj6,gt_iff_lt,ge_iff_le,exists_const,Int.ofNat_le,implies_true,Bool.true_eq,Value.bool.injEq,d_p]
  repeat' (first|done|omega|exact trivial|exact rfl|exact⟨_,_,⟨Nat.zero_le _,ay⟩,⟨rfl,rfl,ay⟩,fun x _=>⟨(_,_),rfl,rfl⟩,fun x _=>⟨(_,_),rfl,rfl⟩⟩|intro _|refine And.intro ?_ ?_)
 ·have hd:l.length+1<=1099511627776:=hd
  have w1:=wp l.length ac
  simp only[List.length_cons,List.drop_succ_cons,List.drop_zero,w1,tn]
  rcases l with _|⟨d,l⟩
  ·simp only[List.length_nil]
   simp only[a_V,sj1,exists_eq_left',sj6,gt_iff_lt,ge_iff_le,exists_const,Int.ofNat_le,implies_true,Bool.true_eq,Value.bool.injEq,d_p]
   repeat' (first|done|omega|exact trivial|exact rfl|exact⟨_,_,⟨Nat.zero_le _,ay⟩,⟨rfl,rfl,ay⟩,fun x _=>⟨(_,_),rfl,rfl⟩,fun x _=>⟨(_,_),rfl,rfl⟩⟩|intro _|refine And.intro ?_ ?_)
  ·have hd:l.length+1+1<=1099511627776:=hd
   have w2:=wp l.length ac
   simp only[List.length_cons,w2,tn]
   simp only[a_V,sj1,exists_eq_left',sj6,gt_iff_lt,ge_iff_le,exists_const,Int.ofNat_le,implies_true,Bool.true_eq,Value.bool.injEq,d_p,List.length_take,List.length_cons]
   repeat' (first|done|omega|exact trivial|exact rfl|exact⟨_,_,⟨Nat.zero_le _,ay⟩,⟨rfl,rfl,ay⟩,fun x _=>⟨(_,_),rfl,rfl⟩,fun x _=>⟨(_,_),rfl,rfl⟩⟩|intro _|refine And.intro ?_ ?_)
theorem w_5:a_t Tryz.prog 22:=⟨Tryz.f22,aa,rfl,aa⟩
theorem F_1(T:TD):(g5S T).Body Tryz.prog 22/\(g5S T).BodyD Tryz.prog 22:=by
 refine a_c (fn:=Tryz.f22) (b:=a_b Tryz.f22) (LT:=fun a=>[([0,1,0,1,1,1,1],(fun fr H K=>∃l a,(g5D T).at (l,a,0) fr H K))]) a_l (a_y) 1000 (fun a ha=>LTok.cons (fun fr H K (hk:∃l a,(g5D T).at (l,a,0) fr H K)=>hk.elim fun l hk=>hk.elim fun a h=>LoopD.ok (F_0 T) h) (LTok.nil)) aa aa ?_
 exact fun a ha=>Ho.of (g5R T a) aa (I_1 T a ha)
end Tk

