/- Lemmas of this claim; the last text says what is proved. -/
import Derived.Test.YtblencgndjjleaaGreatDoorK37
set_option linter.all false
namespace Tk
open Go Go.Sx Go.Proofs
open Q
variable [Syms]
def ncS(T:TD):GenS where
 A:=Unit
 st:=noSt
 dec:=fun _ _=>some ()
 dom:=fun _=>True
 args1:=fun _=>[.slc 0 0 1 (.n 1)]
 blks1:=fun _=>[(0,.row [.fn (.func 45) [] [.ptr 1 0]] 66 (.n 1)),(1,.row [.slc 2 0 3 (.n 3)] 55 (.n 1)),(2,.row [.ifc 79 (.ptr 3 0),.ifc 91 (.ptr 4 0),.ifc 178 (.ptr 5 0)] 51 (.n 3)),(3,.row [] 78 (.n 0)),(4,.row cmR 90 (.n 10)),(5,.row [.lit .nilIface,.str T.span,.str T.keep,.lit (.bool T.skip),.lit (.bool T.promote),.lit (.bool T.pres),.str T.pad] 180 (.n 7))]
 next1:=6
 ros1:=[]
 p1:=0
 X:=Unit
 G:=fun _ _=>True
 val:=fun _=>.ptr 0 0
 out:=fun _=>cvL T
 n2:=13
def ncR(T:TD):Prop:=
 letI c3:=True/\True;letI b3:=[(42:UInt8),42];letI a3:=Value.bool T.promote;letI y2:=True/\c3;letI z2:=[(96:UInt8),96,96];letI w2:=[(97:UInt8),116,120];letI v2:=[(98:UInt8),97,115,101];letI t2:=[(104:UInt8),101,97,100];letI u2:=[(109:UInt8),101,116,97];letI n2:=Value.int .i64 (Int.ofNat 100);letI p2:=Value.int .i64 (Int.ofNat 500);letI q2:=Value.int .i64 (Int.ofNat 520);letI r2:=[(42:UInt8),32,42,32,42];letI s2:=[(108:UInt8),105,110,107];letI g2:=Value.int .i64 (Int.ofNat 1000);letI h2:=Value.int .i64 (Int.ofNat 1100);letI k2:=[(42:UInt8)]=[(42:UInt8)];letI m2:=[(45:UInt8)]=[(45:UInt8)];letI f2:=[(116:UInt8),97,98,108,101];letI c2:=Value.bool false=Value.bool false;letI d2:=[(115:UInt8),116,121,108,101];letI e2:=[(105:UInt8),110,112,117,116];letI f1:=Value.int IntKind.i32 (Int.ofNat 92);letI g1:=Value.int IntKind.i32 (Int.ofNat 42);letI h1:=Value.int IntKind.i32 (Int.ofNat 95);letI k1:=Value.int IntKind.i32 (Int.ofNat 45);letI m1:=Value.int IntKind.i32 (Int.ofNat 43);letI n1:=Value.int IntKind.i32 (Int.ofNat 46);letI p1:=Value.int IntKind.i32 (Int.ofNat 62);letI q1:=Value.int IntKind.i32 (Int.ofNat 36);letI r1:=Value.int IntKind.i32 (Int.ofNat 35);letI s1:=Value.int IntKind.i32 (Int.ofNat 61);letI t1:=Value.int IntKind.i32 (Int.ofNat 91);letI u1:=Value.int IntKind.i32 (Int.ofNat 93);letI v1:=Value.int IntKind.i32 (Int.ofNat 40);letI w1:=Value.int IntKind.i32 (Int.ofNat 41);letI y1:=Value.int IntKind.i32 (Int.ofNat 33);letI z1:=Value.int IntKind.i32 (Int.ofNat 96);letI a2:=Value.int IntKind.i32 (Int.ofNat 34);letI b2:=Value.int IntKind.i32 (Int.ofNat 39);letI d1:=Value.int IntKind.i32 (Int.ofNat 124);letI e1:=Value.int IntKind.i32 (Int.ofNat 126);letI a1:=b3=b3;letI b1:=[(115:UInt8),99,114,105,112,116];letI c1:=[(105:UInt8),102,114,97,109,101];letI z:=[(114:UInt8),101,110,100,101,114];letI y:=[(105:UInt8),110,108,105,110,101,100];letI w:=z2=z2;letI u:=[(35:UInt8),99,111,109,109,101,110,116];letI v:=[(116:UInt8),101,120,116,97,114,101,97];letI t:=[(110:UInt8),111,115,99,114,105,112,116];letI s:=w2=w2;letI r:=c3/\True/\c3/\True;letI p:=True/\True/\True/\True/\y2;letI q:=[(99:UInt8),111,109,109,111,110,109,97,114,107];letI m:=p2=p2;letI n:=r2=r2;letI k:=g2=g2;letI h:=z=z;letI g:=True/\True/\True/\p;letI f:=y=y;letI e:=True/\g;letI d:=g/\True;letI c:=c3/\True/\d/\True;letI b:=True/\True/\True/\True/\True/\True/\True/\True/\True/\True/\e;letI a:=True/\b;∃(x:Unit),True/\noSt=noSt/\True/\(e/\y2/\(c3/\True/\c3/\True/\r)/\r/\(c3/\True/\c)/\c/\(True/\True/\True/\True/\True/\True/\True/\True/\True/\True/\True/\True/\True/\True/\True/\True/\True/\True/\True/\a)/\a/\b/\p/\True/\d)/\([]:List UInt8)=[]/\v2=v2/\q=q/\f2=f2/\n2=n2/\k/\m/\h2=h2/\m/\m/\m/\q2=q2/\k2/\a1/\n/\m2/\c2/\w/\s/\f/\h/\h/\k/\m/\k2/\a1/\n/\m2/\c2/\w/\s/\f/\h/\h/\k/\f1=f1/\g1=g1/\h1=h1/\k1=k1/\m1=m1/\n1=n1/\p1=p1/\d1=d1/\q1=q1/\r1=r1/\s1=s1/\t1=t1/\u1=u1/\v1=v1/\w1=w1/\y1=y1/\e1=e1/\z1=z1/\a2=a2/\b2=b2/\u=u/\t2=t2/\b1=b1/\d2=d2/\s2=s2/\u2=u2/\c1=c1/\t=t/\e2=e2/\v=v/\T.span=T.span/\T.keep=T.keep/\Value.bool T.skip=Value.bool T.skip/\a3=a3/\Value.bool T.pres=Value.bool T.pres/\T.pad=T.pad/\k2/\a1/\n/\m2/\c2/\w/\s/\f/\h/\h/\True
theorem I_o(T:TD):ncR T:=by
 unfold ncR
 refine⟨(),?_⟩
 repeat' (first|exact trivial|exact rfl|exact Nat.le_refl _|refine And.intro ?_ ?_|omega)
theorem r_a:a_t Tryz.prog 26:=⟨Tryz.f26,aa,rfl,aa⟩
set_option maxRecDepth 1000000 in
theorem E_S(T:TD):(ncS T).Body Tryz.prog 26/\(ncS T).BodyD Tryz.prog 26:=by
 refine a_c (fn:=Tryz.f26) (b:=a_b Tryz.f26) (LT:=fun _=>[]) a_l (a_y) 1000 (fun a ha=>LTok.nil) aa aa ?_
 exact fun a ha=>Ho.of (ncR T) aa (I_o T)
structure RowX where
 t:Nat->By
 h:Nat->Bool
 a:Nat->By
 c:Nat->Int
 r:Nat->Int
 n:Nat
def a_Z(x:RowX)(j:Nat):List AVal:=[.str (x.t j),.lit (.bool (x.h j)),.str (x.a j),.lit (.int .i64 (x.c j)),.lit (.int .i64 (x.r j))]
def p_C:AVal->By
 | .str l=>l
 |_=>[]
def j_g:AVal->Bool
 | .lit (.bool b)=>b
 |_=>false
def k_d:AVal->Int
 | .lit (.int _ n)=>n
 |_=>0
def p_D(l:List AVal)(i:Nat):AVal:=l.getD i .top
def I_p(g:Nat->List AVal)(n:Nat):RowX:=⟨fun j=>p_C (p_D (g j) 0),fun j=>j_g (p_D (g j) 1),fun j=>p_C (p_D (g j) 2),fun j=>k_d (p_D (g j) 3),fun j=>k_d (p_D (g j) 4),n⟩
def d_q(T:TD)(i:Nat):RowX:=⟨T.tx i,T.hh i,T.al i,T.cc i,T.rr i,T.C i⟩
def c_w(T:TD):AVal:=.fam (fun i=>.fmw (a_Z (d_q T i)) 5 (T.C i)) T.R
theorem i_M{x:RowX}{j p:Nat}:SubL p (a_Z x j) (a_Z x j):=a_r rfl
def zzM:Nat:=2147483647
def Q.fitX(x:RowX)(k:Nat):Prop:=∀j,j<k->(x.t j).length<=zzM
def Q.fitK(T:TD)(k:Nat):Prop:=∀i,i<k->fitX (d_q T i) (T.C i)
def Q.fitT(T:TD):Prop:=T.R<=zzM/\fitK T T.R
def Q.wdsK(l:By)(k:Nat):Prop:=∀i,i<k->m_u (l.getD i 0)=true\/(l.getD i 0=32/\0<i/\i+1<l.length/\l.getD (i-1) 0≠32)
def Q.ntJ(T:TD)(i k:Nat):Prop:=∀j,j<k->Words (T.tx i j)/\T.cc i j<=1/\T.rr i j<=1/\T.hh i j=(Nat.beq i 0&&T.hh i 0)/\T.al i j=[]
def Q.ntI(T:TD)(k:Nat):Prop:=∀i,i<k->0<T.C i/\T.C i<=12/\ntJ T i (T.C i)
def Q.ntT(T:TD):Prop:=0<T.R/\T.R<=13/\ntI T T.R
theorem w_y{x:RowX}:fitX x 0:=fun j hj=>ac
theorem w_z{x:RowX}{k:Nat}(h:fitX x k)(hk:(x.t k).length<=zzM):fitX x (k+1):=fun j hj=>by
 by_cases e:j=k
 ·subst e;exact hk
 ·exact h j ac
theorem w_A{T:TD}:fitK T 0:=fun j hj=>ac
theorem w_B{T:TD}{k:Nat}(h:fitK T k)(hk:fitX (d_q T k) (T.C k)):fitK T (k+1):=fun j hj=>by
 by_cases e:j=k
 ·subst e;exact hk
 ·exact h j ac
theorem w_C{l:By}:wdsK l 0:=fun j hj=>ac
theorem r_b{l:By}{k:Nat}(h:wdsK l k)(hk:m_u (l.getD k 0)=true\/(l.getD k 0=32/\0<k/\k+1<l.length/\l.getD (k-1) 0≠32)):wdsK l (k+1):=fun j hj=>by
 by_cases e:j=k
 ·subst e;exact hk
 ·exact h j ac
theorem p_E{l:By}{k:Nat}(h:wdsK l k)(hk:l.length<=k):Words l:=fun i hi=>h i ac
theorem r_c{l:By}{k:Nat}(h:wdsK l k)(h1:(97<=(l.getD k 0).toNat/\(l.getD k 0).toNat<=122)\/(65<=(l.getD k 0).toNat/\(l.getD k 0).toNat<=90)\/(48<=(l.getD k 0).toNat/\(l.getD k 0).toNat<=57)):wdsK l (k+1):=by
 refine r_b h (.inl ?_)
 simp only[m_u,Bool.or_eq_true,Bool.and_eq_true]
 rcases h1 with h1|h1|h1
 ·exact .inl ⟨Nat.ble_eq_true_of_le h1.1,Nat.ble_eq_true_of_le h1.2⟩
 ·exact .inr (.inl ⟨Nat.ble_eq_true_of_le h1.1,Nat.ble_eq_true_of_le h1.2⟩)
 ·exact .inr (.inr ⟨Nat.ble_eq_true_of_le h1.1,Nat.ble_eq_true_of_le h1.2⟩)
theorem w_D{l:By}{k:Nat}(h:wdsK l k)(h1:(l.getD k 0).toNat=32)(h2:0<k)(h3:k+1<l.length)(h4:(l.getD (k-1) 0).toNat≠32):wdsK l (k+1):=
 r_b h (.inr ⟨UInt8.toNat_inj.1 h1,h2,h3,fun e=>h4 bu⟩)
theorem E_T{T:TD}{i:Nat}:ntJ T i 0:=fun j hj=>ac
theorem p_F{T:TD}{i k:Nat}(h:ntJ T i k)(hk:Words (T.tx i k)/\T.cc i k<=1/\T.rr i k<=1/\T.hh i k=(Nat.beq i 0&&T.hh i 0)/\T.al i k=[]):ntJ T i (k+1):=fun j hj=>by
 by_cases e:j=k
 ·subst e;exact hk
 ·exact h j ac
theorem E_U{T:TD}:ntI T 0:=fun j hj=>ac
theorem E_V{T:TD}{k:Nat}(h:ntI T k)(h0:0<T.C k)(h1:T.C k<=12)(hk:ntJ T k (T.C k)):ntI T (k+1):=fun j hj=>by
 by_cases e:j=k
 ·subst e;exact⟨h0,h1,hk⟩
 ·exact h j ac
def h_L(h:Nat->Nat->By)(t:Nat->Nat->By)(C:Nat->Nat)(n:Nat):List AVal:=elA b_Y (.fmw (fun _=>i_u h t C n) 5 1)
def o_L(h:Nat->Nat->By)(t:Nat->Nat->By)(C:Nat->Nat)(n:Nat):List AVal:=[.lit (.int .i64 (3:Nat)),.str [],.str [],ns,.fmw (fun _=>h_L h t C n) 5 1]
def atI:AVal:=.fmw (fun _=>[.str roleL,.str presL]) 2 1
def j_h(h:Nat->Nat->By)(t:Nat->Nat->By)(C:Nat->Nat)(n:Nat):List AVal:=[.lit (.int .i64 (0:Nat)),b_Y,.str [],atI,.fmw (fun _=>i_u h t C n) 5 1]
def o_M(h:Nat->Nat->By)(t:Nat->Nat->By)(C:Nat->Nat)(n:Nat):List AVal:=[.lit (.int .i64 (3:Nat)),.str [],.str [],ns,.fmw (fun _=>j_h h t C n) 5 1]
def hT(T:TD)(i j:Nat):By:=cond (T.hh i j) thL tdL
theorem w_E{T:TD}{i j:Nat}:thd (hT T i j):=by unfold hT;cases T.hh i j;exact .inr rfl;exact .inl rfl
def l_p(T:TD)(s:Bool):List AVal:=[.lit (.int .i64 T.oP),.lit (.bool T.oK),.lit (.bool T.oM),.lit (.bool T.promote),.lit (.bool s),.lit (.bool T.pres)]
def Q.padF(p:Int):By:=cond (decide (p>0)) (cond (p==2) k_C (cond (p==3) m_v h_g)) h_g
def Q.keepF(b:Bool):By:=cond b [112,114,101,115,101,114,118,101] []
def Q.spanF(b:Bool):By:=cond b [109,105,114,114,111,114] []
theorem d_b{h:Nat->Nat->By}{t:Nat->Nat->By}{C:Nat->Nat}{n p:Nat}:SubL p (i_u h t C n) (i_u h t C n):=.cons (a_g rfl) (.cons (a_g rfl) (.cons (a_g rfl) (.cons (a_g rfl) (.cons (SubA.fmw fun k _=>b_k) .nil))))
theorem g_G{h:Nat->Nat->By}{t:Nat->Nat->By}{C:Nat->Nat}{n p:Nat}:SubL p [.agg (i_u h t C n)] [.agg (i_u h t C n)]:=.cons (SubA.agg d_b) .nil
theorem b_W{h:Nat->Nat->By}{t:Nat->Nat->By}{C:Nat->Nat}{n p:Nat}:SubL p (h_L h t C n) (h_L h t C n):=.cons (a_g rfl) (.cons (a_g rfl) (.cons (a_g rfl) (.cons (a_g rfl) (.cons (SubA.fmw fun k _=>d_b) .nil))))
theorem l_j{h:Nat->Nat->By}{t:Nat->Nat->By}{C:Nat->Nat}{n p:Nat}:SubL p [.agg (h_L h t C n)] [.agg (h_L h t C n)]:=.cons (SubA.agg b_W) .nil
theorem e_c{h:Nat->Nat->By}{t:Nat->Nat->By}{C:Nat->Nat}{n p:Nat}:SubL p (o_L h t C n) (o_L h t C n):=.cons (a_g rfl) (.cons (a_g rfl) (.cons (a_g rfl) (.cons (a_g rfl) (.cons (SubA.fmw fun k _=>b_W) .nil))))
theorem f_O{h:Nat->Nat->By}{t:Nat->Nat->By}{C:Nat->Nat}{n p:Nat}:SubL p [.agg (o_L h t C n)] [.agg (o_L h t C n)]:=.cons (SubA.agg e_c) .nil
theorem s_6{p:Nat}:SubA p atI atI:=SubA.fmw fun _ _=>a_r rfl
theorem c_J{h:Nat->Nat->By}{t:Nat->Nat->By}{C:Nat->Nat}{n p:Nat}:SubL p (j_h h t C n) (j_h h t C n):=.cons (a_g rfl) (.cons (a_g rfl) (.cons (a_g rfl) (.cons s_6 (.cons (SubA.fmw fun k _=>d_b) .nil))))
theorem l_k{h:Nat->Nat->By}{t:Nat->Nat->By}{C:Nat->Nat}{n p:Nat}:SubL p [.agg (j_h h t C n)] [.agg (j_h h t C n)]:=.cons (SubA.agg c_J) .nil
theorem e_d{h:Nat->Nat->By}{t:Nat->Nat->By}{C:Nat->Nat}{n p:Nat}:SubL p (o_M h t C n) (o_M h t C n):=.cons (a_g rfl) (.cons (a_g rfl) (.cons (a_g rfl) (.cons (a_g rfl) (.cons (SubA.fmw fun k _=>c_J) .nil))))
theorem f_P{h:Nat->Nat->By}{t:Nat->Nat->By}{C:Nat->Nat}{n p:Nat}:SubL p [.agg (o_M h t C n)] [.agg (o_M h t C n)]:=.cons (SubA.agg e_d) .nil
theorem h_M{l:By}(h:(!eqL l [])=false):l=[]:=by
 rw[d_s] at h
 simpa using h
theorem o_n{T:TD}(h:ntT T):(0<T.R/\T.R<=1000)/\∀i,i<T.R->(0<T.C i/\T.C i<=1000)/\∀j,j<T.C i->thd (hT T i j):=
 ⟨⟨h.1,by have:=h.2.1;omega⟩,fun i hi=>⟨⟨(h.2.2 i hi).1,by have:=(h.2.2 i hi).2.1;omega⟩,fun j _=>w_E⟩⟩
theorem r_d{T:TD}(h:ntT T)(hd:T.hd=T.hh 0 0):∀i,i<T.R->∀j,j<T.C i->hT T i j=cond (Nat.beq i 0&&T.hd) thL tdL:=fun i hi j hj=>by
 have e:=((h.2.2 i hi).2.2 j hj).2.2.2.1
 unfold hT
 rw[e]
 cases i with
 |zero=>rw[hd]
 |succ i=>rfl
def mcS(T:TD):GenS where
 A:=By×By
 st:=noSt
 dec:=fun args _=>match args with
  | .agg l::_=>some (t_s l)
  |_=>none
 dom:=fun a=>thd a.1/\a.2≠[]
 args1:=fun a=>[.agg (elA (.str a.1) (.fmw (fun _=>txA a.2) 5 1))]
 blks1:=fun _=>[]
 next1:=0
 ros1:=[]
 p1:=0
 X:=By×By
 G:=fun a x=>x=a
 val:=fun _=>.ptr 0 0
 out:=fun x=>[(0,c_d np (.ptr 1 0) (.ptr 1 0) np np 3 (.str x.1)),(1,c_d (.ptr 0 0) np np np np 1 (.str x.2))]
 n2:=2
def meS(T:TD):GenS where
 A:=By×By
 st:=noSt
 dec:=fun args _=>match args with
  | .agg l::_=>some (t_s l)
  |_=>none
 dom:=fun a=>thd a.1/\a.2=[]
 args1:=fun a=>[.agg (elA (.str a.1) .e0)]
 blks1:=fun _=>[]
 next1:=0
 ros1:=[]
 p1:=0
 X:=By×By
 G:=fun a x=>x=a
 val:=fun _=>.ptr 0 0
 out:=fun x=>[(0,c_d np np np np np 3 (.str x.1))]
 n2:=1
def mrS(T:TD):GenS where
 A:=(Nat->By)×(Nat->By)×Nat
 st:=noSt
 dec:=fun args _=>match args with
  | .agg [_,_,_,_,.fmw f _ n]::_=>some (fun j=>(t_s (f j)).1,fun j=>(t_s (f j)).2,n)
  |_=>none
 dom:=fun a=>(0<a.2.2/\a.2.2<=1000)/\∀j,j<a.2.2->thd (a.1 j)
 args1:=fun a=>[.agg (rowA a.1 a.2.1 a.2.2)]
 blks1:=fun _=>[]
 next1:=0
 ros1:=[]
 p1:=0
 X:=(Nat->By)×(Nat->By)×Nat
 G:=fun a x=>x=a
 val:=fun _=>.ptr 0 0
 out:=fun x=>[(0,b_w np (.ptr 2 0) (.ptr 1 0) np np 3 i_9 (.mp (qR x.1 x.2.1 x.2.2)))]
 n2:=3
def mrU(T:TD):Tabs:=⟨fun f=>match f with
 |30=>some ((o_I (mcS T) (fun a=>b_X a.2) (meS T).specV (mcS T).specV))
 |_=>none,fun _=>none⟩
def mrD(T:TD)(h:Nat->By)(t:Nat->By)(n:Nat):LoopD where
 J:=Unit
 side:=fun _=>True
 μ:=fun _=>n+1
 fn:=68
 p:=0
 s:=fun _=>[(3,.ptr 0 0),(56,.fmw (fun j=>b_T (h j) (t j)) 5 n),(57,.lit (.int .i64 (n:Nat))),(58,.lit (.int .i64 (0:Nat)))]
 b:=fun _=>[(0,c_d np np np np np 3 i_9)]
 n:=1
 ros:=[]
 st:=noSt
 ways:=[{e:=.exit 3,X:=Unit,c:=fun _=>True,s:=fun _=>[(3,.ptr 0 0)],b:=fun _=>[(0,b_w np (.ptr 2 0) (.ptr 1 0) np np 3 i_9 (.mp (qR h t n)))],n:=3}]
def I_q(T:TD)(h:Nat->By)(t:Nat->By)(n:Nat):LoopD where
 J:=Nat
 side:=fun k=>0<k/\k<=n
 μ:=fun k=>n-k
 fn:=68
 p:=0
 s:=fun k=>[(3,.ptr 0 0),(56,.fmw (fun j=>b_T (h j) (t j)) 5 n),(57,.lit (.int .i64 (n:Nat))),(58,.lit (.int .i64 (k:Nat)))]
 b:=fun k=>[(0,b_w np (.ptr 2 0) (.ptr 1 0) np np 3 i_9 ns),(1,b_w (.ptr 0 0) (.ite (!b_X (t (k-1))) (.ptr 3 0) np) (.ite (!b_X (t (k-1))) (.ptr 3 0) np) (.ite (Nat.beq k 1) np (.ptr 4 0)) np 3 (.str (h (k-1))) (.mp (qT h t k)))]
 n:=5
 ros:=[]
 st:=noSt
 ways:=[]
def mgS(T:TD):GenS where
 A:=(Nat->Nat->By)×(Nat->Nat->By)×(Nat->Nat)×Nat
 st:=noSt
 dec:=fun args _=>match args with
  | .agg [_,_,_,_,.fmw f _ n]::_=>some (fun i=>(t_t (f i)).1,fun i=>(t_t (f i)).2.1,fun i=>(t_t (f i)).2.2,n)
  |_=>none
 dom:=fun a=>(0<a.2.2.2/\a.2.2.2<=1000)/\∀i,i<a.2.2.2->(0<a.2.2.1 i/\a.2.2.1 i<=1000)/\∀j,j<a.2.2.1 i->thd (a.1 i j)
 args1:=fun a=>[.agg (i_u a.1 a.2.1 a.2.2.1 a.2.2.2)]
 blks1:=fun _=>[]
 next1:=0
 ros1:=[]
 p1:=0
 X:=(Nat->Nat->By)×(Nat->Nat->By)×(Nat->Nat)×Nat
 G:=fun a x=>x=a
 val:=fun _=>.ptr 0 0
 out:=fun x=>[(0,b_w np (.ptr 2 0) (.ptr 1 0) np np 3 b_A (.mp (qV x.1 x.2.1 x.2.2.1 x.2.2.2 0 1 2 [0])))]
 n2:=3
def mgU(T:TD):Tabs:=⟨fun f=>match f with
 |30=>some ((mrS T).specV)
 |_=>none,fun _=>none⟩
def mgD(T:TD)(h:Nat->Nat->By)(t:Nat->Nat->By)(C:Nat->Nat)(n:Nat):LoopD where
 J:=Unit
 side:=fun _=>True
 μ:=fun _=>n+1
 fn:=68
 p:=0
 s:=fun _=>[(3,.ptr 0 0),(56,.fmw (fun i=>rowA (h i) (t i) (C i)) 5 n),(57,.lit (.int .i64 (n:Nat))),(58,.lit (.int .i64 (0:Nat)))]
 b:=fun _=>[(0,c_d np np np np np 3 b_A)]
 n:=1
 ros:=[]
 st:=noSt
 ways:=[{e:=.exit 3,X:=Unit,c:=fun _=>True,s:=fun _=>[(3,.ptr 0 0)],b:=fun _=>[(0,b_w np (.ptr 2 0) (.ptr 1 0) np np 3 b_A (.mp (qV h t C n 0 1 2 [0])))],n:=3}]
def I_r(T:TD)(h:Nat->Nat->By)(t:Nat->Nat->By)(C:Nat->Nat)(n:Nat):LoopD where
 J:=Nat
 side:=fun k=>0<k/\k<=n
 μ:=fun k=>n-k
 fn:=68
 p:=0
 s:=fun k=>[(3,.ptr 0 0),(56,.fmw (fun i=>rowA (h i) (t i) (C i)) 5 n),(57,.lit (.int .i64 (n:Nat))),(58,.lit (.int .i64 (k:Nat)))]
 b:=fun k=>[(0,b_w np (.ptr 2 0) (.ptr 1 0) np np 3 b_A ns),(1,b_w (.ptr 0 0) (.ptr 5 0) (.ptr 6 0) (.ite (Nat.beq k 1) np (.ptr 4 0)) np 3 i_9 (.mp (qU h t C k)))]
 n:=7
 ros:=[]
 st:=noSt
 ways:=[]
def mhS(T:TD):GenS where
 A:=(Nat->Nat->By)×(Nat->Nat->By)×(Nat->Nat)×Nat
 st:=noSt
 dec:=fun args _=>match args with
  | .agg l::_=>some (y_f l)
  |_=>none
 dom:=fun a=>(0<a.2.2.2/\a.2.2.2<=1000)/\∀i,i<a.2.2.2->(0<a.2.2.1 i/\a.2.2.1 i<=1000)/\∀j,j<a.2.2.1 i->thd (a.1 i j)
 args1:=fun a=>[.agg (h_L a.1 a.2.1 a.2.2.1 a.2.2.2)]
 blks1:=fun _=>[]
 next1:=0
 ros1:=[]
 p1:=0
 X:=(Nat->Nat->By)×(Nat->Nat->By)×(Nat->Nat)×Nat
 G:=fun a x=>x=a
 val:=fun _=>.ptr 0 0
 out:=fun x=>[(0,c_d np (.ptr 1 0) (.ptr 1 0) np np 3 b_Y),(1,b_w (.ptr 0 0) (.ptr 2 0) (.ptr 3 0) np np 3 b_A (.mp (qV x.1 x.2.1 x.2.2.1 x.2.2.2 1 3 2 [0,1])))]
 n2:=4
def mhU(T:TD):Tabs:=⟨fun f=>match f with
 |30=>some ((mgS T).specV)
 |_=>none,fun _=>none⟩
def miS(T:TD):GenS where
 A:=(Nat->Nat->By)×(Nat->Nat->By)×(Nat->Nat)×Nat
 st:=noSt
 dec:=fun args _=>match args with
  | .agg l::_=>some (G_I l)
  |_=>none
 dom:=fun a=>(0<a.2.2.2/\a.2.2.2<=1000)/\∀i,i<a.2.2.2->(0<a.2.2.1 i/\a.2.2.1 i<=1000)/\∀j,j<a.2.2.1 i->thd (a.1 i j)
 args1:=fun a=>[.agg (o_L a.1 a.2.1 a.2.2.1 a.2.2.2)]
 blks1:=fun _=>[]
 next1:=0
 ros1:=[]
 p1:=0
 X:=(Nat->Nat->By)×(Nat->Nat->By)×(Nat->Nat)×Nat
 G:=fun a x=>x=a
 val:=fun _=>.ptr 0 0
 out:=fun x=>[(0,c_d np (.ptr 1 0) (.ptr 1 0) np np 2 (.str [])),(1,c_d (.ptr 0 0) (.ptr 2 0) (.ptr 2 0) np np 3 b_Y),(2,b_w (.ptr 1 0) (.ptr 3 0) (.ptr 4 0) np np 3 b_A (.mp (qV x.1 x.2.1 x.2.2.1 x.2.2.2 2 4 3 [0,1,2])))]
 n2:=5
def miU(T:TD):Tabs:=⟨fun f=>match f with
 |30=>some ((mhS T).specV)
 |_=>none,fun _=>none⟩
end Tk

