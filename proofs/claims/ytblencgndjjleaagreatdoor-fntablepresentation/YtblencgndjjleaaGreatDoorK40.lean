/- Lemmas of this claim; the last text says what is proved. -/
import Derived.Test.YtblencgndjjleaaGreatDoorK39
set_option linter.all false
set_option maxRecDepth 1000000
namespace Tk
open Go Go.Sx Go.Proofs
open Q
variable [Syms]
def mjS(T:TD):GenS where
 A:=(Nat->Nat->By)×(Nat->Nat->By)×(Nat->Nat)×Nat
 st:=noSt
 dec:=fun args _=>match args with
  | .agg l::_=>some (y_f l)
  |_=>none
 dom:=fun a=>(0<a.2.2.2/\a.2.2.2<=1000)/\∀i,i<a.2.2.2->(0<a.2.2.1 i/\a.2.2.1 i<=1000)/\∀j,j<a.2.2.1 i->thd (a.1 i j)
 args1:=fun a=>[.agg (j_h a.1 a.2.1 a.2.2.1 a.2.2.2)]
 blks1:=fun _=>[]
 next1:=0
 ros1:=[]
 p1:=0
 X:=(Nat->Nat->By)×(Nat->Nat->By)×(Nat->Nat)×Nat
 G:=fun a x=>x=a
 val:=fun _=>.ptr 0 0
 out:=fun x=>[(0,b_w np (.ptr 1 0) (.ptr 1 0) np np 3 b_Y (.slc 2 0 1 (.u 3 0))),(1,b_w (.ptr 0 0) (.ptr 4 0) (.ptr 5 0) np np 3 b_A (.mp (qV x.1 x.2.1 x.2.2.1 x.2.2.2 1 5 4 [0,1,2]))),(2,.row atL 175 (.u 3 3))]
 n2:=6
def mkS(T:TD):GenS where
 A:=(Nat->Nat->By)×(Nat->Nat->By)×(Nat->Nat)×Nat
 st:=noSt
 dec:=fun args _=>match args with
  | .agg l::_=>some (G_I l)
  |_=>none
 dom:=fun a=>(0<a.2.2.2/\a.2.2.2<=1000)/\∀i,i<a.2.2.2->(0<a.2.2.1 i/\a.2.2.1 i<=1000)/\∀j,j<a.2.2.1 i->thd (a.1 i j)
 args1:=fun a=>[.agg (o_M a.1 a.2.1 a.2.2.1 a.2.2.2)]
 blks1:=fun _=>[]
 next1:=0
 ros1:=[]
 p1:=0
 X:=(Nat->Nat->By)×(Nat->Nat->By)×(Nat->Nat)×Nat
 G:=fun a x=>x=a
 val:=fun _=>.ptr 0 0
 out:=fun x=>[(0,c_d np (.ptr 1 0) (.ptr 1 0) np np 2 (.str [])),(1,b_w (.ptr 0 0) (.ptr 2 0) (.ptr 2 0) np np 3 b_Y (.slc 3 0 1 (.u 4 0))),(2,b_w (.ptr 1 0) (.ptr 5 0) (.ptr 6 0) np np 3 b_A (.mp (qV x.1 x.2.1 x.2.2.1 x.2.2.2 2 6 5 [0,1,2,3]))),(3,.row atL 175 (.u 4 3))]
 n2:=7
def mkU(T:TD):Tabs:=⟨fun f=>match f with
 |30=>some ((mjS T).specV)
 |_=>none,fun _=>none⟩
def mjR(T:TD)(h:Nat->Nat->By)(t:Nat->Nat->By)(C:Nat->Nat)(n:Nat):Prop:=
 letI a2:=AVal.str [];letI z1:=(t,C,n).fst;letI y1:=(h,t,C,n).fst;letI v1:=Nat->Nat->By;letI t1:=True/\True/\True;letI u1:=([]:List UInt8)=[];letI r1:=AVal.str [(116:UInt8),114];letI s1:=AVal.lit (Value.pointer none);letI q1:=[(114:UInt8),111,108,101];letI p1:=AVal.lit (Value.slice none 0 0);letI n1:=[(116:UInt8),97,98,108,101];letI m1:=[(116:UInt8),98,111,100,121];letI h1:=Value.int IntKind.u32 (Int.ofNat 3);letI k1:=Value.int IntKind.u32 (Int.ofNat 0);letI e1:=AVal.lit (Value.int .i64 (Int.ofNat 1));letI f1:=AVal.lit (Value.int .i64 (Int.ofNat 0));letI g1:=AVal.str q1;letI d1:=AVal.str n1;letI c1:=AVal.str m1;letI a1:=AVal.lit h1;letI b1:=AVal.lit k1;letI z:=v1×v1×(Nat->Nat)×Nat;letI y:=[(112:UInt8),114,101,115,101,110,116,97,116,105,111,110];letI v:=h1=h1;letI w:=k1=k1;letI u:=AVal.str y;letI s:=True/\True/\True/\True/\True/\True/\True/\t1;letI q:=[g1,u];letI p:=[a2,g1,u];letI m:=fun(i j:Nat)=>(y1 i j,a_V [e1,a2,AVal.str (z1 i j),p1,p1]).snd;letI k:=fun(i:Nat)=>(fun(j:Nat)=>(y1 i j,a_V [e1,a2,AVal.str (z1 i j),p1,p1]).snd,(C,n).fst i).snd;letI g:=(k,n).fst;letI d:=(fun(i j:Nat)=>(y1 i j,a_V [e1,a2,AVal.str (z1 i j),p1,p1]).fst,m,k,n);letI c:=d.fst;letI a:=[f1,c1,a2,p1,AVal.fmw (fun(i:Nat)=>[f1,r1,a2,p1,AVal.fmw (fun(j:Nat)=>letI w1:=z1 i j;[f1,AVal.str (y1 i j),a2,p1,AVal.fmw (fun(x:Nat)=>[e1,a2,AVal.str w1,p1,p1]) 5 (kidN w1)]) 5 ((C,n).fst i)]) 5 n];noSt=noSt/\((0<n/\n<=1000)/\∀(i:Nat),letI f:=g i;i<n->(0<f/\f<=1000)/\∀(j:Nat),letI b:=c i j;j<f->b=[(116:UInt8),104]\/b=[(116:UInt8),100])/\SubL 0 [AVal.agg a] [AVal.agg [f1,c1,a2,p1,AVal.fmw (fun(i:Nat)=>[f1,r1,a2,p1,AVal.fmw (fun(j:Nat)=>letI e:=(m,k,n).fst i j;[f1,AVal.str (c i j),a2,p1,AVal.fmw (fun(x:Nat)=>[e1,a2,AVal.str e,p1,p1]) 5 (kidN e)]) 5 (g i)]) 5 n]]/\∀(x:z),letI r:=AVal.mp (MP.ren (fun(i:Nat)=>bif false then 0 else 7+i) (qV x.1 x.snd.1 x.snd.snd.1 x.snd.2.snd 0 1 2 [0]));x=d->∃(x_1:z),x_1=(h,t,C,n)/\noSt=noSt/\True/\(s/\s/\t1)/\v/\w/\n1=n1/\u1/\v/\w/\m1=m1/\u1/\MPok (AHeap.mk (Tr.node (some (ABlk.row [f1,d1,a2,AVal.fmw (fun(x:Nat)=>q) 2 1,AVal.fmw (fun(x:Nat)=>a) 5 1] 29 (ATot.n (1+1+1+1+1)))) (Tr.node (some (ABlk.row [s1,AVal.ptr 7 0,AVal.ptr 7 0,s1,s1,a1,b1,d1,a2,AVal.slc (4+1) 0 1 (ACap.u 4 0)] 173 (ATot.n 10))) (Tr.node (some (ABlk.row p 175 (ATot.n 3))) (Tr.node (some (ABlk.row [AVal.ptr 1 0,AVal.ptr (7+1+1) 0,AVal.ptr (7+1) 0,s1,s1,a1,b1,c1,a2,r] 173 (ATot.n 10))) Tr.nil Tr.nil) Tr.nil) (Tr.node (some (ABlk.row p 175 (ATot.u 4 3))) Tr.nil Tr.nil)) (Tr.node (some (ABlk.row q 34 (ATot.n 2))) Tr.nil (Tr.node (some (ABlk.row a 29 (ATot.n 5))) Tr.nil Tr.nil))) 10 [] [] noSt) r (qV x_1.1 x_1.snd.1 x_1.snd.snd.1 x_1.snd.2.snd 1 5 4 [0,1,2]) [(0,Nm.fz 6),(0,Nm.fz 3),(0,Nm.fz 2),(0,Nm.fz 0),(5,Nm.id (7+1)),(4,Nm.id (7+1+1)),(3,Nm.id 4),(2,Nm.id (4+1)),(1,Nm.id 7),(0,Nm.id 1)]/\u1/\q1=q1/\y=y/\True
theorem I_y(T:TD)(h:Nat->Nat->By)(t:Nat->Nat->By)(C:Nat->Nat)(n:Nat)(hd:(0<n/\n<=1000)/\∀i,i<n->(0<C i/\C i<=1000)/\∀j,j<C i->thd (h i j)):mjR T h t C n:=by
 unfold mjR
 simp only[a_V,sj1,exists_eq_left',sj6]
 exact⟨hd,g_G,p_j rfl rfl rfl⟩
theorem F_c(T:TD):(mjS T).Body Tryz.prog 30/\(mjS T).BodyD Tryz.prog 30:=by
 refine a_c (fn:=Tryz.f30) (b:=a_b Tryz.f30) (LT:=fun _=>[]) a_l (r_g T) 1000 (fun a ha=>LTok.nil) aa aa ?_
 exact fun a ha=>Ho.of (mjR T a.1 a.2.1 a.2.2.1 a.2.2.2) aa (I_y T a.1 a.2.1 a.2.2.1 a.2.2.2 ha)
def mkR(T:TD)(h:Nat->Nat->By)(t:Nat->Nat->By)(C:Nat->Nat)(n:Nat):Prop:=
 letI d2:=ATot.n 10;letI c2:=AVal.str [];letI b2:=AVal.ptr 3 0;letI a2:=(t,C,n).fst;letI z1:=(h,t,C,n).fst;letI v1:=Nat->Nat->By;letI w1:=AVal.ptr (3+1) 0;letI t1:=True/\True/\True;letI u1:=([]:List UInt8)=[];letI r1:=AVal.str [(116:UInt8),114];letI s1:=AVal.lit (Value.pointer none);letI q1:=[(114:UInt8),111,108,101];letI p1:=AVal.lit (Value.slice none 0 0);letI n1:=[(116:UInt8),97,98,108,101];letI m1:=[(116:UInt8),98,111,100,121];letI g1:=Value.int IntKind.u32 (Int.ofNat 2);letI h1:=Value.int IntKind.u32 (Int.ofNat 0);letI k1:=Value.int IntKind.u32 (Int.ofNat 3);letI d1:=AVal.lit (Value.int .i64 (Int.ofNat 1));letI e1:=AVal.lit (Value.int .i64 (Int.ofNat 0));letI f1:=AVal.str q1;letI c1:=AVal.str n1;letI b1:=AVal.str m1;letI z:=AVal.lit h1;letI a1:=AVal.lit k1;letI y:=v1×v1×(Nat->Nat)×Nat;letI w:=[(112:UInt8),114,101,115,101,110,116,97,116,105,111,110];letI u:=h1=h1;letI v:=k1=k1;letI s:=AVal.str w;letI r:=True/\True/\True/\True/\True/\True/\True/\t1;letI p:=AVal.fmw (fun(x:Nat)=>[f1,s]) 2 1;letI m:=fun(i j:Nat)=>(z1 i j,a_V [d1,c2,AVal.str (a2 i j),p1,p1]).snd;letI k:=fun(i:Nat)=>(fun(j:Nat)=>(z1 i j,a_V [d1,c2,AVal.str (a2 i j),p1,p1]).snd,(C,n).fst i).snd;letI g:=(k,n).fst;letI d:=(fun(i j:Nat)=>(z1 i j,a_V [d1,c2,AVal.str (a2 i j),p1,p1]).fst,m,k,n);letI c:=d.fst;letI a:=[e1,c1,c2,p,AVal.fmw (fun(x:Nat)=>[e1,b1,c2,p1,AVal.fmw (fun(i:Nat)=>[e1,r1,c2,p1,AVal.fmw (fun(j:Nat)=>letI y1:=a2 i j;[e1,AVal.str (z1 i j),c2,p1,AVal.fmw (fun(x:Nat)=>[d1,c2,AVal.str y1,p1,p1]) 5 (kidN y1)]) 5 ((C,n).fst i)]) 5 n]) 5 1];noSt=noSt/\((0<n/\n<=1000)/\∀(i:Nat),letI f:=g i;i<n->(0<f/\f<=1000)/\∀(j:Nat),letI b:=c i j;j<f->b=[(116:UInt8),104]\/b=[(116:UInt8),100])/\SubL 0 [AVal.agg a] [AVal.agg [e1,c1,c2,p,AVal.fmw (fun(x:Nat)=>[e1,b1,c2,p1,AVal.fmw (fun(i:Nat)=>[e1,r1,c2,p1,AVal.fmw (fun(j:Nat)=>letI e:=(m,k,n).fst i j;[e1,AVal.str (c i j),c2,p1,AVal.fmw (fun(x:Nat)=>[d1,c2,AVal.str e,p1,p1]) 5 (kidN e)]) 5 (g i)]) 5 n]) 5 1]]/\∀(x:y),letI q:=AVal.mp (MP.ren (fun(i:Nat)=>bif false then 0 else 3+i) (qV x.1 x.snd.1 x.snd.snd.1 x.snd.2.snd 1 5 4 [0,1,2]));x=d->∃(x_1:y),x_1=(h,t,C,n)/\noSt=noSt/\True/\(r/\r/\r/\t1)/\g1=g1/\u/\u1/\u1/\v/\u/\n1=n1/\u1/\v/\u/\m1=m1/\u1/\MPok (AHeap.mk (Tr.node (some (ABlk.row [AVal.lit (Value.int .i64 (Int.ofNat 3)),c2,c2,p1,AVal.fmw (fun(x:Nat)=>a) 5 1] 29 (ATot.n (1+1+1+1+1)))) (Tr.node (some (ABlk.row [s1,b2,b2,s1,s1,AVal.lit g1,z,c2,c2,p1] 173 d2)) (Tr.node (some (ABlk.row [AVal.ptr 1 0,w1,w1,s1,s1,a1,z,c1,c2,AVal.slc (3+1+1) 0 1 (ACap.u (3+1+1+1) 0)] 173 d2)) Tr.nil Tr.nil) (Tr.node (some (ABlk.row [c2,f1,s] 175 (ATot.u (3+1+1+1) 3))) Tr.nil Tr.nil)) (Tr.node (some (ABlk.row a 29 (ATot.n 5))) (Tr.node (some (ABlk.row [b2,AVal.ptr (3+1+1+1+1) 0,AVal.ptr (3+1+1+1+1+1) 0,s1,s1,a1,z,b1,c2,q] 173 d2)) Tr.nil Tr.nil) Tr.nil)) 9 [] [] noSt) q (qV x_1.1 x_1.snd.1 x_1.snd.snd.1 x_1.snd.2.snd 2 6 5 [0,1,2,3]) [(0,Nm.fz 2),(0,Nm.fz 0),(6,Nm.id (3+1+1+1+1+1)),(5,Nm.id (3+1+1+1+1)),(4,Nm.id (3+1+1+1)),(3,Nm.id (3+1+1)),(2,Nm.id (3+1)),(1,Nm.id 3),(0,Nm.id 1)]/\u1/\q1=q1/\w=w/\True
theorem w_G(T:TD):TabOk Tryz.prog (mkU T):=by
 refine⟨fun f s h=>?_,fun f s h=>?_⟩
 ·unfold mkU at h
  simp only at h
  split at h
  ·cases h;exact b_z e_D (F_c T).1
  ·cases h
 ·cases h
theorem I_z(T:TD)(h:Nat->Nat->By)(t:Nat->Nat->By)(C:Nat->Nat)(n:Nat)(hd:(0<n/\n<=1000)/\∀i,i<n->(0<C i/\C i<=1000)/\∀j,j<C i->thd (h i j)):mkR T h t C n:=by
 unfold mkR
 simp only[a_V,sj1,exists_eq_left',sj6]
 exact⟨hd,l_k,p_j rfl rfl rfl⟩
theorem F_d(T:TD):(mkS T).Body Tryz.prog 30/\(mkS T).BodyD Tryz.prog 30:=by
 refine a_c (fn:=Tryz.f30) (b:=a_b Tryz.f30) (LT:=fun _=>[]) a_l (w_G T) 1000 (fun a ha=>LTok.nil) aa aa ?_
 exact fun a ha=>Ho.of (mkR T a.1 a.2.1 a.2.2.1 a.2.2.2) aa (I_z T a.1 a.2.1 a.2.2.1 a.2.2.2 ha)
def F_e(T:TD):GenS:=mpS (ncS T) (fun _=>qC T)
theorem k_e(T:TD):(F_e T).Body Tryz.prog 26:=h_J (E_S T).1 rfl (fun _=>o_e T) (fun x w0 w F0 ι v hi hd=>E_R hi hd)
theorem F_f{w0 w:World}{F0:Fp}{ι:Inj}{L:List (Nat×ABlk)}{N i c k:Nat}{z:Value}(hi:Inv w0 F0 ι (hpD ⟨N,[],noSt⟩ L []) w)(hb:(hpD ⟨N,[],noSt⟩ L []).get i=some (.row atL 175 (.u c k)))(hf:i∈fzs (allF (hpD ⟨N,[],noSt⟩ L [])))(hd:Den ι (.slc i 0 1 (.u c 0)) z):atM true (b_r w ι (allF (hpD ⟨N,[],noSt⟩ L []))).m z:=by
 obtain⟨r,o,h1,h2,⟨vs,rest,rfl,hv,_⟩,_⟩:=hi.blk i _ hb
 refine⟨fun e=>aW,fun _=>?_⟩
 cases hd with
 |slc hr hl ho hc=>
  rw[h1] at hr;cases hr
  rcases ho with rfl|rfl
  case inr=>omega
  refine⟨r,_,rest,rfl,hl,?_⟩
  rw[b_f hf h1 h2]
  cases hv with
  |cons a1 hv=>
  cases hv with
  |cons a2 hv=>
  cases hv with
  |cons a3 hv=>
  cases hv
  cases a1;cases a2;cases a3
  rfl
def G_S(T:TD):GenS:=mpS (miS T) (fun x=>qD false x.1 x.2.1 x.2.2.1 x.2.2.2)
def G_T(T:TD):GenS:=mpS (mkS T) (fun x=>qD true x.1 x.2.1 x.2.2.1 x.2.2.2)
theorem p_G{ι:Inj}{m:Nat->Option Obj}{a:Nat}{o:Obj}{par fst lst prv nxt d q:AVal}{ty:Nat}{p1 p2 p3 p4 p5:Option Nat}{dd:By}
 (hb:BDen ι (b_w par fst lst prv nxt ty d q) o) (hm:m a=some o)
 (h1:∀v,Den ι par v->v=c_f p1) (h2:∀v,Den ι fst v->v=c_f p2) (h3:∀v,Den ι lst v->v=c_f p3) (h4:∀v,Den ι prv v->v=c_f p4) (h5:∀v,Den ι nxt v->v=c_f p5)
 (hd:∀v,Den ι d v->v=.string ⟨dd.toArray⟩):∃z,Den ι q z/\nodeW m a p1 p2 p3 p4 p5 ty dd z:=by
 obtain⟨vs,rest,rfl,hv,_⟩:=hb
 cases hv with
 |cons a1 hv=>
 cases hv with
 |cons a2 hv=>
 cases hv with
 |cons a3 hv=>
 cases hv with
 |cons a4 hv=>
 cases hv with
 |cons a5 hv=>
 cases hv with
 |cons a6 hv=>
 cases hv with
 |cons a7 hv=>
 cases hv with
 |cons a8 hv=>
 cases hv with
 |cons a9 hv=>
 cases hv with
 |cons a10 hv=>
 cases hv
 have e1:=h1 _ a1
 have e2:=h2 _ a2
 have e3:=h3 _ a3
 have e4:=h4 _ a4
 have e5:=h5 _ a5
 have e8:=hd _ a8
 have e9:=b_Z a9
 cases a6;cases a7
 subst e1;subst e2;subst e3;subst e4;subst e5;subst e8;subst e9
 exact⟨_,a10,rest,hm⟩
theorem F_g{h:Nat->Nat->By}{t:Nat->Nat->By}{C:Nat->Nat}{n:Nat}{w0 w:World}{F0:Fp}{ι:Inj}{v:Value}(hi:Inv w0 F0 ι (hpD ⟨5,[],noSt⟩ [(0,c_d np (.ptr 1 0) (.ptr 1 0) np np 2 (.str [])),(1,c_d (.ptr 0 0) (.ptr 2 0) (.ptr 2 0) np np 3 b_Y),(2,b_w (.ptr 1 0) (.ptr 3 0) (.ptr 4 0) np np 3 b_A (.mp (qV h t C n 2 4 3 [0,1,2])))] []) w)(hd:Den ι (.ptr 0 0) v):
 qDp false h t C n (b_r w ι (allF (hpD ⟨5,[],noSt⟩ [(0,c_d np (.ptr 1 0) (.ptr 1 0) np np 2 (.str [])),(1,c_d (.ptr 0 0) (.ptr 2 0) (.ptr 2 0) np np 3 b_Y),(2,b_w (.ptr 1 0) (.ptr 3 0) (.ptr 4 0) np np 3 b_A (.mp (qV h t C n 2 4 3 [0,1,2])))] []))) v:=by
 obtain⟨r0,o0,h0,g0,b0,_⟩:=hi.blk 0 _ rfl
 obtain⟨r1,o1,h1,g1,b1,_⟩:=hi.blk 1 _ rfl
 obtain⟨r2,o2,h2,g2,b2,_⟩:=hi.blk 2 _ rfl
 obtain⟨v',hv',A,R,e0,e1,e2,hrow⟩:=d_j b2
 have h2':ι.f 2=some r2:=h2
 rw[e0] at h2';cases h2'
 refine⟨r0,r1,_,A,_,?_,b_6 (q:=ns) b0 (b_f (c_p hi rfl (j:=0) rfl) h0 g0) (fun v=>a_8) (fun v=>a_P h1) (fun v=>a_P h1) (fun v=>a_8) (fun v=>a_8) (fun v=>b_Z) (fun v=>d_U),
  b_6 (q:=ns) b1 (b_f (c_p hi rfl (j:=1) rfl) h1 g1) (fun v=>a_P h0) (fun v=>a_P h2) (fun v=>a_P h2) (fun v=>a_8) (fun v=>a_8) (fun v=>b_Z) (fun v=>d_U),
  b_6 b2 (b_f (c_p hi rfl (j:=2) rfl) h2 g2) (fun v=>a_P h1) (fun v=>a_P e2) (fun v=>a_P e1) (fun v=>a_8) (fun v=>a_8) (fun v=>b_Z) (fun v hv=>by
   cases hv with
   |mp hq=>exact hq.1),fun i hi'=>(hrow i hi').mono fun r o=>a_6 hi,⟨fun _=>rfl,fun e=>aW⟩⟩
 cases hd with
 |ptr h=>
  have h0:ι.f 0=some r0:=h0
  rw[h0] at h;cases h;rfl
theorem w_H{h:Nat->Nat->By}{t:Nat->Nat->By}{C:Nat->Nat}{n:Nat}{w0 w:World}{F0:Fp}{ι:Inj}{v:Value}(hi:Inv w0 F0 ι (hpD ⟨7,[],noSt⟩ [(0,c_d np (.ptr 1 0) (.ptr 1 0) np np 2 (.str [])),(1,b_w (.ptr 0 0) (.ptr 2 0) (.ptr 2 0) np np 3 b_Y (.slc 3 0 1 (.u 4 0))),(2,b_w (.ptr 1 0) (.ptr 5 0) (.ptr 6 0) np np 3 b_A (.mp (qV h t C n 2 6 5 [0,1,2,3]))),(3,.row atL 175 (.u 4 3))] []) w)(hd:Den ι (.ptr 0 0) v):
 qDp true h t C n (b_r w ι (allF (hpD ⟨7,[],noSt⟩ [(0,c_d np (.ptr 1 0) (.ptr 1 0) np np 2 (.str [])),(1,b_w (.ptr 0 0) (.ptr 2 0) (.ptr 2 0) np np 3 b_Y (.slc 3 0 1 (.u 4 0))),(2,b_w (.ptr 1 0) (.ptr 5 0) (.ptr 6 0) np np 3 b_A (.mp (qV h t C n 2 6 5 [0,1,2,3]))),(3,.row atL 175 (.u 4 3))] []))) v:=by
 obtain⟨r0,o0,h0,g0,b0,_⟩:=hi.blk 0 _ rfl
 obtain⟨r1,o1,h1,g1,b1,_⟩:=hi.blk 1 _ rfl
 obtain⟨r2,o2,h2,g2,b2,_⟩:=hi.blk 2 _ rfl
 obtain⟨v',hv',A,R,e0,e1,e2,hrow⟩:=d_j b2
 have h2':ι.f 2=some r2:=h2
 rw[e0] at h2';cases h2'
 obtain⟨z,hz,hz1⟩:=p_G b1 (b_f (c_p hi rfl (j:=1) rfl) h1 g1) (p1:=some r0) (p2:=some r2) (p3:=some r2) (p4:=none) (p5:=none) (dd:=k_a) (fun v=>a_P h0) (fun v=>a_P h2) (fun v=>a_P h2) (fun v=>a_8) (fun v=>a_8) (fun v=>b_Z)
 refine⟨r0,r1,_,A,z,?_,b_6 (q:=ns) b0 (b_f (c_p hi rfl (j:=0) rfl) h0 g0) (fun v=>a_8) (fun v=>a_P h1) (fun v=>a_P h1) (fun v=>a_8) (fun v=>a_8) (fun v=>b_Z) (fun v=>d_U),
  hz1,
  b_6 b2 (b_f (c_p hi rfl (j:=2) rfl) h2 g2) (fun v=>a_P h1) (fun v=>a_P e2) (fun v=>a_P e1) (fun v=>a_8) (fun v=>a_8) (fun v=>b_Z) (fun v hv=>by
   cases hv with
   |mp hq=>exact hq.1),fun i hi'=>(hrow i hi').mono fun r o=>a_6 hi,F_f hi rfl (c_p hi rfl (j:=3) rfl) hz⟩
 cases hd with
 |ptr h=>
  have h0:ι.f 0=some r0:=h0
  rw[h0] at h;cases h;rfl
theorem p_H(T:TD):(G_S T).Body Tryz.prog 30:=h_J (F_b T).1 rfl (fun x=>o_g false _ _ _ _) (fun x w0 w F0 ι v hi hd=>F_g hi hd)
theorem p_I(T:TD):(G_T T).Body Tryz.prog 30:=h_J (F_d T).1 rfl (fun x=>o_g true _ _ _ _) (fun x w0 w F0 ι v hi hd=>w_H hi hd)
def kvS(T:TD):GenS where
 A:=Unit
 st:=noSt
 dec:=fun _ _=>some ()
 dom:=fun _=>T.Ok/\ntT T/\T.hd=T.hh 0 0/\T.role=false
 args1:=fun _=>[.agg (o_L (hT T) T.tx T.C T.R),.lit (.bool false),.slc 0 0 3 (.n 3)]
 blks1:=fun _=>[(0,.row [.ifc 79 (.ptr 1 0),.ifc 91 (.ptr 2 0),.ifc 178 (.ptr 3 0)] 51 (.n 3)),(1,.row [] 78 (.n 0)),(2,.row cmR 90 (.n 10)),(3,.row [.lit .nilIface,.str T.span,.str T.keep,.lit (.bool T.skip),.lit (.bool T.promote),.lit (.bool T.pres),.str T.pad] 180 (.n 7))]
 next1:=4
 ros1:=[]
 p1:=0
 X:=By
 G:=fun _ x=>x=post (docF T)
 val:=fun x=>.tup [.str x,.lit (.bool true)]
 out:=fun _=>[]
 n2:=0
def kvU(T:TD):Tabs:=⟨fun f=>match f with
 |26=>some ((F_e T).spec)
 |30=>some ((G_S T).specV)
 |29=>some ((bS T).specV)
 |_=>none,fun _=>none⟩
def ttS(T:TD):GenS where
 A:=Unit
 st:=noSt
 dec:=fun _ _=>some ()
 dom:=fun _=>T.pad=padF T.oP/\T.keep=keepF T.oK/\T.span=spanF T.oM
 args1:=fun _=>[.agg (l_p T T.skip)]
 blks1:=fun _=>[]
 next1:=0
 ros1:=[]
 p1:=0
 X:=Unit
 G:=fun _ _=>True
 val:=fun _=>.ifc 178 (.ptr 0 0)
 out:=fun _=>[(0,.row [.lit .nilIface,.str T.span,.str T.keep,.lit (.bool T.skip),.lit (.bool T.promote),.lit (.bool T.pres),.str T.pad] 180 (.n 7))]
 n2:=1
def kxS(T:TD):GenS where
 A:=Unit
 st:=noSt
 dec:=fun _ _=>some ()
 dom:=fun _=>(T.Ok/\ntT T/\T.hd=T.hh 0 0/\T.role=false)/\T.pad=padF T.oP/\T.keep=keepF T.oK/\T.span=spanF T.oM
 args1:=fun _=>[.ptr 0 0,.ptr 1 0,.ptr 2 0,.ptr 3 0]
 blks1:=fun _=>[(0,.row (o_L (hT T) T.tx T.C T.R) 29 (.n 5)),(1,.row (l_p T T.skip) 24 (.n 6)),(2,.row [.str []] 9 (.n 1)),(3,.row [.lit (.bool false)] 4 (.n 1))]
 next1:=4
 ros1:=[]
 p1:=4
 X:=By
 G:=fun _ x=>x=post (docF T)
 val:=fun _=>.tup []
 out:=fun x=>[(0,.row (o_L (hT T) T.tx T.C T.R) 29 (.n 5)),(1,.row (l_p T T.skip) 24 (.n 6)),(2,.row [.str x] 9 (.n 1)),(3,.row [.lit (.bool true)] 4 (.n 1))]
 n2:=4
def kxU(T:TD):Tabs:=⟨fun f=>match f with
 |19=>some ((ttS T).spec)
 |16=>some ((kvS T).spec)
 |_=>none,fun _=>none⟩
def kyS(T:TD):GenS where
 A:=Unit
 st:=noSt
 dec:=fun _ _=>some ()
 dom:=fun _=>(T.Ok/\ntT T/\T.hd=T.hh 0 0/\T.role=false)/\T.pad=padF T.oP/\T.keep=keepF T.oK/\T.span=spanF T.oM
 args1:=fun _=>[.agg (o_L (hT T) T.tx T.C T.R),.agg (l_p T T.skip)]
 blks1:=fun _=>[]
 next1:=0
 ros1:=[]
 p1:=0
 X:=By
 G:=fun _ x=>x=post (docF T)
 val:=fun x=>.tup [.str x,.lit (.bool true)]
 out:=fun _=>[]
 n2:=0
def kyU(T:TD):Tabs:=⟨fun f=>match f with
 |15=>some ((kxS T).spec)
 |_=>none,fun f=>match f with
 |25=>some (t_H)
 |_=>none⟩
def lvS(T:TD):GenS where
 A:=Unit
 st:=noSt
 dec:=fun _ _=>some ()
 dom:=fun _=>T.Ok/\ntT T/\T.hd=T.hh 0 0/\T.role=true
 args1:=fun _=>[.agg (o_M (hT T) T.tx T.C T.R),.lit (.bool false),.slc 0 0 3 (.n 3)]
 blks1:=fun _=>[(0,.row [.ifc 79 (.ptr 1 0),.ifc 91 (.ptr 2 0),.ifc 178 (.ptr 3 0)] 51 (.n 3)),(1,.row [] 78 (.n 0)),(2,.row cmR 90 (.n 10)),(3,.row [.lit .nilIface,.str T.span,.str T.keep,.lit (.bool T.skip),.lit (.bool T.promote),.lit (.bool T.pres),.str T.pad] 180 (.n 7))]
 next1:=4
 ros1:=[]
 p1:=0
 X:=By
 G:=fun _ x=>x=post (docF T)
 val:=fun x=>.tup [.str x,.lit (.bool true)]
 out:=fun _=>[]
 n2:=0
def lvU(T:TD):Tabs:=⟨fun f=>match f with
 |26=>some ((F_e T).spec)
 |30=>some ((G_T T).specV)
 |29=>some ((bS T).specV)
 |_=>none,fun _=>none⟩
def lxS(T:TD):GenS where
 A:=Unit
 st:=noSt
 dec:=fun _ _=>some ()
 dom:=fun _=>(T.Ok/\ntT T/\T.hd=T.hh 0 0/\T.role=true)/\T.pad=padF T.oP/\T.keep=keepF T.oK/\T.span=spanF T.oM
 args1:=fun _=>[.ptr 0 0,.ptr 1 0,.ptr 2 0,.ptr 3 0]
 blks1:=fun _=>[(0,.row (o_M (hT T) T.tx T.C T.R) 29 (.n 5)),(1,.row (l_p T T.skip) 24 (.n 6)),(2,.row [.str []] 9 (.n 1)),(3,.row [.lit (.bool false)] 4 (.n 1))]
 next1:=4
 ros1:=[]
 p1:=4
 X:=By
 G:=fun _ x=>x=post (docF T)
 val:=fun _=>.tup []
 out:=fun x=>[(0,.row (o_M (hT T) T.tx T.C T.R) 29 (.n 5)),(1,.row (l_p T T.skip) 24 (.n 6)),(2,.row [.str x] 9 (.n 1)),(3,.row [.lit (.bool true)] 4 (.n 1))]
 n2:=4
def lxU(T:TD):Tabs:=⟨fun f=>match f with
 |19=>some ((ttS T).spec)
 |16=>some ((lvS T).spec)
 |_=>none,fun _=>none⟩
def lyS(T:TD):GenS where
 A:=Unit
 st:=noSt
 dec:=fun _ _=>some ()
 dom:=fun _=>(T.Ok/\ntT T/\T.hd=T.hh 0 0/\T.role=true)/\T.pad=padF T.oP/\T.keep=keepF T.oK/\T.span=spanF T.oM
 args1:=fun _=>[.agg (o_M (hT T) T.tx T.C T.R),.agg (l_p T T.skip)]
 blks1:=fun _=>[]
 next1:=0
 ros1:=[]
 p1:=0
 X:=By
 G:=fun _ x=>x=post (docF T)
 val:=fun x=>.tup [.str x,.lit (.bool true)]
 out:=fun _=>[]
 n2:=0
def lyU(T:TD):Tabs:=⟨fun f=>match f with
 |15=>some ((lxS T).spec)
 |_=>none,fun f=>match f with
 |25=>some (t_H)
 |_=>none⟩
def a_9(W:World):Inj:=⟨fun _=>none,fun r=>W.heap[r]?,fun _=>none⟩
def k_f:Fp:=⟨fun _=>False,fun _=>False,fun _=>True⟩
theorem i_N{W:World}(hg:Syms.good W)(hng:∀r,r<Syms.ng->r<W.heap.size):Inv W k_f (a_9 W) (hpD ⟨0,[],noSt⟩ [] []) W:=
 ⟨fun id b h=>(by cases a_1 h),fun i j b c r h=>(by cases a_1 h),fun _ _=>rfl,fun _ _ _=>rfl,Nat.le_refl _,rfl,rfl,rfl,⟨hg,fun r hr=>⟨hng r hr,fun h=>h⟩⟩,
  ⟨fun r o hm=>⟨hm,.inl trivial⟩,fun k b r hk=>(by cases a_1 hk),fun x b r hx=>bv,fun x y r h=>am,fun x r h=>am⟩⟩
def Q.Bor(H:AHeap)(args bs:List AVal):Prop:=∀(w0:World) (F0:Fp) (ι:Inj) (w:World) (vs:List Value),Inv w0 F0 ι H w->DenL ι args vs->DenL (a_9 w) bs vs
def x_G(S:GenS):Sx.Spec:=fun args H K=>match S.dec args H with
 |some a=>S.dom a/\Bor H args (S.args1 a)/\∀x,S.G a x->K (S.val x) H
 |none=>False
theorem o_o{P:Program}{S:GenS}{f:FuncId}(hf:a_t P f)(h:S.Body P f)(h0:S.st=noSt)(h1:S.next1=0)(hb:∀a,S.blks1 a=[])(hr:S.ros1=[])(hv:∀x (ι ι':Inj) v,Den ι (S.val x) v->Den ι' (S.val x) v):b_q P f (x_G S):=by
 intro args H K hs
 refine b_p hf ?_
 intro w0 F0 ι w vs hi hd
 unfold x_G at hs
 split at hs
 rotate_left
 ·exact hs.elim
 rename_i a _
 obtain⟨hdom,hB,hK⟩:=hs
 have hd1:=hB w0 F0 ι w vs hi hd
 have hi1:Inv w k_f (a_9 w) (hpD ⟨S.next1,S.ros1,S.st⟩ (S.blks1 a) []) w:=by
  rw[h1,hr,h0,hb];exact i_N (Syms.mono w0 w (fun r hr=>hi.frame r (hi.glob.2 r hr).1 (hi.glob.2 r hr).2) hi.glob.1) (fun r hr=>Nat.lt_of_lt_of_le (hi.glob.2 r hr).1 hi.size)
 refine Calls.mono (h a hdom w k_f (a_9 w) w vs hi1 hd1) fun e w' he=>?_
 cases e with
 |panicked _=>exact he.elim
 |outgrown=>exact he.elim
 |returned v=>
  obtain⟨av,H',ι',⟨x,hG,hent⟩,hda,hle,hinv⟩:=he
  obtain⟨ι3,_,hinv3,hd3⟩:=f_l hent hinv hda
  have hbel:RowKit.Below w.heap.size w w':=⟨hinv.os,hinv.tape,hinv.output,hinv.size,fun k hk=>hinv.frame k hk (fun h=>h)⟩
  exact⟨S.val x,H,ι,hK x hG,hv x _ _ _ hd3,Inj.le_refl _,i_G hi hbel⟩
theorem g_H{w0 w:World}{F0:Fp}{ι:Inj}{H:AHeap}(hi:Inv w0 F0 ι H w)(hn:∀x,ι.ad x=none):(ι.bare 0).le (a_9 w):=
 ⟨fun i r h=>bc,fun r o h=>(hi.fz.frz r o h).1,fun x r h=>by
  have h:ι.ad x=some r:=h
  rw[hn] at h;cases h⟩
theorem o_p{w0 w:World}{F0:Fp}{ι:Inj}{H:AHeap}(hi:Inv w0 F0 ι H w){i:Nat}{cs cs':List AVal}{ty:TypeId}{tot:ATot}(hg:H.get i=some (.row cs ty tot))(hc:∀vs,DenL ι cs vs->DenL (a_9 w) cs' vs/\vs.length=cs'.length){cap:ACap}{v:Value}(hd:Den ι (.slc i 0 1 cap) v):Den (a_9 w) (.fmw (fun _=>cs') cs'.length 1) v:=by
 obtain⟨r,o,h1,h2,⟨vs,rest,rfl,hv,_⟩,_⟩:=hi.blk i _ hg
 obtain⟨hv',hl'⟩:=hc vs hv
 cases hd with
 |slc hr hl ho hcap=>
  rw[h1] at hr;cases hr
  rcases ho with rfl|rfl
  case inr=>omega
  refine .fmw (pre:=[]) (vs:=vs) (rest:=rest) (e:=ty) (fz:=(0,0)) h2 ac (fun k hk=>?_) hl rfl
  have:k=0:=ac
  subst this
  rw[Nat.zero_mul,List.drop_zero,List.take_of_length_le ac];exact hv'
def Q.vR(U:TD)(r:Bool):TD:={U with
 hd:=U.hh 0 0
 pad:=padF U.oP
 keep:=keepF U.oK
 span:=spanF U.oM
 role:=r}
def spT(T:TD):Sx.Spec:=fun args H K=>x_G (kyS (vR T false)) args H K\/x_G (lyS (vR T true)) args H K
theorem w_I{T:TD}(h:∀T,(kyS T).Body Tryz.prog 7)(h2:∀T,(lyS T).Body Tryz.prog 7)(hf:a_t Tryz.prog 7):b_q Tryz.prog 7 (spT T):=by
 intro args H K hs
 have key:∀(x:By) (ι ι':Inj) (v:Value),Den ι (.tup [.str x,.lit (.bool true)]) v->Den ι' (.tup [.str x,.lit (.bool true)]) v:=fun x ι ι' v hd=>by
  cases hd with
  |tup hl=>
   cases hl with
   |cons a b=>
   cases b with
   |cons c d=>
   cases d;cases a;cases c
   exact .tup (.cons .str (.cons .lit .nil))
 rcases hs with hs|hs
 ·exact o_o hf (h _) rfl rfl (fun _=>rfl) rfl key _ _ _ hs
 ·exact o_o hf (h2 _) rfl rfl (fun _=>rfl) rfl key _ _ _ hs
theorem s_7{T:TD}{H:AHeap}{i:Nat}{cap:ACap}{tot:ATot}(hst:H.st=noSt)(hg:H.get i=some (.row (h_L (hT T) T.tx T.C T.R) 29 tot)):Bor H [.agg [.lit (.int .i64 (3:Nat)),.str [],.str [],ns,.slc i 0 1 cap],.agg (l_p T T.skip)] [.agg (o_L (hT (vR T false)) (vR T false).tx (vR T false).C (vR T false).R),.agg (l_p (vR T false) (vR T false).skip)]:=by
 intro w0 F0 ι w vs hi hd
 have hb:=g_H hi (p_B hi hst)
 cases hd with
 |cons d1 hd=>
 cases hd with
 |cons d2 hd=>
 cases hd
 refine .cons ?_ (.cons ((SubA.agg (p:=0) (a_r rfl)) ι (a_9 w) _ hb d2) .nil)
 cases d1 with
 |agg h=>
 cases h with
 |cons a1 h=>
 cases h with
 |cons a2 h=>
 cases h with
 |cons a3 h=>
 cases h with
 |cons a4 h=>
 cases h with
 |cons a5 h=>
 cases h
 cases a1;cases a2;cases a3;cases a4
 have key:=o_p hi hg (cs':=h_L (hT T) T.tx T.C T.R) (fun vs hv=>⟨b_W (p:=0) ι (a_9 w) vs hb hv,hv.length.symm⟩) a5
 exact .agg (.cons .lit (.cons .str (.cons .str (.cons .lit (.cons key .nil)))))
theorem p_J{T:TD}{H:AHeap}{i j:Nat}{cap cap2:ACap}{tot tot2:ATot}{ty:TypeId}(hst:H.st=noSt)(hg:H.get i=some (.row [.lit (.int .i64 (0:Nat)),b_Y,.str [],.slc j 0 1 cap2,.fmw (fun _=>i_u (hT T) T.tx T.C T.R) 5 1] 29 tot))(hj:H.get j=some (.row [.str roleL,.str presL] ty tot2)):Bor H [.agg [.lit (.int .i64 (3:Nat)),.str [],.str [],ns,.slc i 0 1 cap],.agg (l_p T T.skip)] [.agg (o_M (hT (vR T true)) (vR T true).tx (vR T true).C (vR T true).R),.agg (l_p (vR T true) (vR T true).skip)]:=by
 intro w0 F0 ι w vs hi hd
 have hb:=g_H hi (p_B hi hst)
 cases hd with
 |cons d1 hd=>
 cases hd with
 |cons d2 hd=>
 cases hd
 refine .cons ?_ (.cons ((SubA.agg (p:=0) (a_r rfl)) ι (a_9 w) _ hb d2) .nil)
 cases d1 with
 |agg h=>
 cases h with
 |cons a1 h=>
 cases h with
 |cons a2 h=>
 cases h with
 |cons a3 h=>
 cases h with
 |cons a4 h=>
 cases h with
 |cons a5 h=>
 cases h
 cases a1;cases a2;cases a3;cases a4
 have key:=o_p hi hg (cs':=j_h (hT T) T.tx T.C T.R) (fun vs hv=>by
  have hl:=hv.length
  refine⟨?_,hl.symm⟩
  cases hv with
  |cons b1 hv=>
  cases hv with
  |cons b2 hv=>
  cases hv with
  |cons b3 hv=>
  cases hv with
  |cons b4 hv=>
  cases hv with
  |cons b5 hv=>
  cases hv
  cases b1;cases b2;cases b3
  have k2:=o_p hi hj (cs':=[.str roleL,.str presL]) (fun vs hv=>⟨a_r (p:=0) rfl ι (a_9 w) vs hb hv,hv.length.symm⟩) b4
  exact .cons .lit (.cons .str (.cons .str (.cons k2 (.cons ((SubA.fmw (p:=0) fun _ _=>d_b) ι (a_9 w) _ hb b5) .nil))))) a5
 exact .agg (.cons .lit (.cons .str (.cons .str (.cons .lit (.cons key .nil)))))
def Q.srcT(T:TD):Prop:=(∀i,T.R<=i->T.C i=0)/\(∀i j,T.R<=i\/T.C i<=j->T.tx i j=[])/\∀c,c<256->Syms.gn 2 c=true
end Tk

