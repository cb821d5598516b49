/- Lemmas of this claim; the last text says what is proved. -/
import Derived.Test.YtblencgndjjleaaGreatDoorK14
set_option linter.all false
namespace Tk
open Go Go.Sx Go.Proofs
open Q
variable [Syms]
def gpS(T:TD):GenS where
 A:=Unit
 st:=a_f T
 dec:=fun _ _=>some ()
 dom:=fun _=>True
 args1:=fun _=>[.sp (cv 0) 0]
 blks1:=fun _=>[]
 next1:=0
 ros1:=[]
 p1:=0
 X:=Unit
 G:=fun _ _=>True
 val:=fun _=>.slc 0 0 4 (.n 4)
 out:=fun _=>[(0,.row [.fn (.func 144) [.sp (cv 10) 0] [],pr 100,.fn (.func 194) [.sp (cv 11) 0] [],pr 500,.fn (.func 145) [.sp (cv 10) 0] [],pr 1000,.fn (.func 195) [] [.sp (cv 12) 0],pr 1100] 153 (.n 8))]
 n2:=1
def goS(T:TD):GenS where
 A:=Unit
 st:=a_f T
 dec:=fun _ _=>some ()
 dom:=fun _=>True
 args1:=fun _=>[.sp (cv 0) 0]
 blks1:=fun _=>[]
 next1:=0
 ros1:=[]
 p1:=0
 X:=Unit
 G:=fun _ _=>True
 val:=fun _=>.slc 0 0 3 (.n 3)
 out:=fun _=>[(0,.row [.fn (.func 149) [.sp (cv 10) 0] [],pr 500,.fn (.func 150) [.sp (cv 10) 0] [],pr 520,.fn (.func 212) [.agg cmR] [],pr 1000] 166 (.n 6))]
 n2:=1
def ghS(T:TD):GenS where
 A:=Unit
 st:=a_f T
 dec:=fun _ _=>some ()
 dom:=fun _=>True
 args1:=fun _=>[.sp (cv 0) 0]
 blks1:=fun _=>[]
 next1:=0
 ros1:=[]
 p1:=0
 X:=Unit
 G:=fun _ _=>True
 val:=fun _=>.slc 0 0 2 (.n 2)
 out:=fun _=>[(0,.row [.fn (.func 211) [.sp (cv 11) 0] [],pr 500,.fn (.func 410) [.sp (cv 9) 0] [],pr 500] 208 (.n 4))]
 n2:=1
end Tk
namespace Tk
open Go Go.Sx Go.Proofs
variable [Syms]
def d_0:List (Nat×ABlk):=[(0,.row [d_n 2] 147 (.n 1)),(1,.row [.fn (.func 153) [] [.ptr 0 0,.ptr 1 0]] 176 (.n 1)),(2,c_8)]
def c_h(x:AVal):List AVal:=[x,.ptr 0 0,.ptr 1 0]
def y_F(T:TD):GenS where
 A:=Nat×Nat
 st:=a_f T
 dec:=fun args _=>match args with
  | .sp ⟨5,i,j⟩ 0::_=>some (i,j)
  |_=>none
 dom:=fun _=>True
 args1:=fun a=>c_h (tdP a.1 a.2)
 blks1:=fun _=>d_0
 next1:=3
 ros1:=[0,1,2]
 p1:=3
 X:=Unit
 G:=fun _ _=>True
 val:=fun _=>b_n
 out:=fun _=>[]
 n2:=3
def m_0(T:TD):Tabs:=⟨fun _=>none,fun f=>match f with
 |153=>some (y_F T).spec
 |_=>none⟩
def u_m(T:TD)(i:Nat):LoopD where
 J:=Nat
 side:=fun k=>k<=T.C i
 μ:=fun k=>T.C i-k
 fn:=32
 p:=3
 s:=fun k=>[(2,.ptr 1 0),(7,.ite (Nat.blt k (T.C i)) (tdP i k) np)]
 b:=fun _=>d_0
 d:=fun k=>[.fam 153 (fun j=>c_h (tdP i j)) k]
 n:=3
 ros:=[0,1,2]
 st:=a_f T
 ways:=[{e:=.exit 0,X:=Unit,c:=fun _=>True,s:=fun _=>[],b:=fun _=>d_0,d:=fun _=>[.fam 153 (fun j=>c_h (tdP i j)) (T.C i)],n:=3}]
def y_G(T:TD):GenS where
 A:=Nat
 st:=a_f T
 dec:=fun args _=>match args with
  | .sp ⟨4,i,_⟩ 0::_=>some i
  |_=>none
 dom:=fun i=>0<T.C i
 args1:=fun i=>c_h (trP i)
 blks1:=fun _=>d_0
 next1:=3
 ros1:=[0,1,2]
 p1:=3
 X:=Unit
 G:=fun _ _=>True
 val:=fun _=>b_n
 out:=fun _=>[]
 n2:=3
def m_2(T:TD):Tabs:=⟨fun _=>none,fun f=>match f with
 |153=>some (y_G T).spec
 |_=>none⟩
def u_n(T:TD):LoopD where
 J:=Nat
 side:=fun k=>k<=T.R
 μ:=fun k=>T.R-k
 fn:=32
 p:=3
 s:=fun k=>[(2,.ptr 1 0),(7,.ite (Nat.blt k (T.R)) (trP k) np)]
 b:=fun _=>d_0
 d:=fun k=>[.fam 153 (fun j=>c_h (trP j)) k]
 n:=3
 ros:=[0,1,2]
 st:=a_f T
 ways:=[{e:=.exit 0,X:=Unit,c:=fun _=>True,s:=fun _=>[],b:=fun _=>d_0,d:=fun _=>[.fam 153 (fun j=>c_h (trP j)) (T.R)],n:=3}]
def y_H(T:TD):GenS where
 A:=Unit
 st:=a_f T
 dec:=fun args _=>match args with
  | .sp ⟨3,_,_⟩ 0::_=>some ()
  |_=>none
 dom:=fun _=>T.Ok
 args1:=fun _=>c_h (.sp tbd 0)
 blks1:=fun _=>d_0
 next1:=3
 ros1:=[0,1,2]
 p1:=3
 X:=Unit
 G:=fun _ _=>True
 val:=fun _=>b_n
 out:=fun _=>[]
 n2:=3
def m_3(T:TD):Tabs:=⟨fun _=>none,fun f=>match f with
 |153=>some (y_H T).spec
 |_=>none⟩
def y_I(T:TD):GenS where
 A:=Unit
 st:=a_f T
 dec:=fun args _=>match args with
  | .sp ⟨2,_,_⟩ 0::_=>some ()
  |_=>none
 dom:=fun _=>T.Ok
 args1:=fun _=>c_h (.sp tbl 0)
 blks1:=fun _=>d_0
 next1:=3
 ros1:=[0,1,2]
 p1:=3
 X:=Unit
 G:=fun _ _=>True
 val:=fun _=>b_n
 out:=fun _=>[]
 n2:=3
def m_4(T:TD):Tabs:=⟨fun _=>none,fun f=>match f with
 |153=>some (y_I T).spec
 |_=>none⟩
def y_J(T:TD):GenS where
 A:=Unit
 st:=a_f T
 dec:=fun args _=>match args with
  | .sp ⟨1,_,_⟩ 0::_=>some ()
  |_=>none
 dom:=fun _=>T.Ok
 args1:=fun _=>c_h (.sp doc 0)
 blks1:=fun _=>d_0
 next1:=3
 ros1:=[0,1,2]
 p1:=3
 X:=Unit
 G:=fun _ _=>True
 val:=fun _=>b_n
 out:=fun _=>[]
 n2:=3
def d_1:List (Nat×ABlk):=[]
def i_x(x:AVal):List AVal:=[x]
def y_K(T:TD):GenS where
 A:=Nat×Nat
 st:=a_f T
 dec:=fun args _=>match args with
  | .sp ⟨5,i,j⟩ 0::_=>some (i,j)
  |_=>none
 dom:=fun _=>True
 args1:=fun a=>i_x (tdP a.1 a.2)
 blks1:=fun _=>d_1
 next1:=0
 ros1:=[]
 p1:=0
 X:=Unit
 G:=fun _ _=>True
 val:=fun _=>b_n
 out:=fun _=>[]
 n2:=0
def m_5(T:TD):Tabs:=⟨fun f=>match f with
 |155=>some (y_K T).spec
 |_=>none,fun _=>none⟩
def u_o(T:TD)(i:Nat):LoopD where
 J:=Nat
 side:=fun k=>k<=T.C i
 μ:=fun k=>T.C i-k
 fn:=51
 p:=0
 s:=fun k=>[(3,.ite (Nat.blt k (T.C i)) (tdP i k) np)]
 b:=fun _=>d_1
 n:=0
 ros:=[]
 st:=a_f T
 ways:=[{e:=.exit 0,X:=Unit,c:=fun _=>True,s:=fun _=>[],b:=fun _=>d_1,n:=0}]
def y_L(T:TD):GenS where
 A:=Nat
 st:=a_f T
 dec:=fun args _=>match args with
  | .sp ⟨4,i,_⟩ 0::_=>some i
  |_=>none
 dom:=fun i=>0<T.C i
 args1:=fun i=>i_x (trP i)
 blks1:=fun _=>d_1
 next1:=0
 ros1:=[]
 p1:=0
 X:=Unit
 G:=fun _ _=>True
 val:=fun _=>b_n
 out:=fun _=>[]
 n2:=0
def m_6(T:TD):Tabs:=⟨fun f=>match f with
 |155=>some (y_L T).spec
 |_=>none,fun _=>none⟩
def u_p(T:TD):LoopD where
 J:=Nat
 side:=fun k=>k<=T.R
 μ:=fun k=>T.R-k
 fn:=51
 p:=0
 s:=fun k=>[(3,.ite (Nat.blt k (T.R)) (trP k) np)]
 b:=fun _=>d_1
 n:=0
 ros:=[]
 st:=a_f T
 ways:=[{e:=.exit 0,X:=Unit,c:=fun _=>True,s:=fun _=>[],b:=fun _=>d_1,n:=0}]
def y_M(T:TD):GenS where
 A:=Unit
 st:=a_f T
 dec:=fun args _=>match args with
  | .sp ⟨3,_,_⟩ 0::_=>some ()
  |_=>none
 dom:=fun _=>T.Ok
 args1:=fun _=>i_x (.sp tbd 0)
 blks1:=fun _=>d_1
 next1:=0
 ros1:=[]
 p1:=0
 X:=Unit
 G:=fun _ _=>True
 val:=fun _=>b_n
 out:=fun _=>[]
 n2:=0
def m_7(T:TD):Tabs:=⟨fun f=>match f with
 |155=>some (y_M T).spec
 |_=>none,fun _=>none⟩
def y_N(T:TD):GenS where
 A:=Unit
 st:=a_f T
 dec:=fun args _=>match args with
  | .sp ⟨2,_,_⟩ 0::_=>some ()
  |_=>none
 dom:=fun _=>T.Ok
 args1:=fun _=>i_x (.sp tbl 0)
 blks1:=fun _=>d_1
 next1:=0
 ros1:=[]
 p1:=0
 X:=Unit
 G:=fun _ _=>True
 val:=fun _=>b_n
 out:=fun _=>[]
 n2:=0
def m_8(T:TD):Tabs:=⟨fun f=>match f with
 |155=>some (y_N T).spec
 |_=>none,fun _=>none⟩
def y_O(T:TD):GenS where
 A:=Unit
 st:=a_f T
 dec:=fun args _=>match args with
  | .sp ⟨1,_,_⟩ 0::_=>some ()
  |_=>none
 dom:=fun _=>T.Ok
 args1:=fun _=>i_x (.sp doc 0)
 blks1:=fun _=>d_1
 next1:=0
 ros1:=[]
 p1:=0
 X:=Unit
 G:=fun _ _=>True
 val:=fun _=>b_n
 out:=fun _=>[]
 n2:=0
def hrS(T:TD):GenS where
 A:=Unit
 st:=a_f T
 dec:=fun args _=>match args with
  |_::_:: .sp ⟨1,0,0⟩ 0::_=>some ()
  |_=>none
 dom:=fun _=>T.Ok
 args1:=fun _=>[.top,d_n 0,.sp doc 0]
 blks1:=fun _=>[(0,c_8)]
 next1:=1
 ros1:=[0]
 p1:=1
 X:=Unit
 G:=fun _ _=>True
 val:=fun _=>b_n
 out:=fun _=>[]
 n2:=1
def hrU(T:TD):Tabs:=⟨fun f=>match f with
 |153=>some ((y_J T).spec)
 |155=>some ((y_O T).spec)
 |_=>none,fun _=>none⟩
def d_2:List (Nat×ABlk):=[(0,.row [.fn (.func 258) [] [.ptr 0 0]] 176 (.n 1))]
def i_y(x:AVal):List AVal:=[x,.ptr 0 0]
def y_P(T:TD):GenS where
 A:=Nat×Nat
 st:=a_f T
 dec:=fun args _=>match args with
  | .sp ⟨5,i,j⟩ 0::_=>some (i,j)
  |_=>none
 dom:=fun _=>True
 args1:=fun a=>i_y (tdP a.1 a.2)
 blks1:=fun _=>d_2
 next1:=1
 ros1:=[0]
 p1:=1
 X:=Unit
 G:=fun _ _=>True
 val:=fun _=>b_n
 out:=fun _=>[]
 n2:=1
def m_9(T:TD):Tabs:=⟨fun f=>match f with
 |258=>some (y_P T).spec
 |_=>none,fun _=>none⟩
def u_q(T:TD)(i:Nat):LoopD where
 J:=Nat
 side:=fun k=>k<=T.C i
 μ:=fun k=>T.C i-k
 fn:=22
 p:=1
 s:=fun k=>[(1,.ptr 0 0),(3,.ite (Nat.blt k (T.C i)) (tdP i k) np)]
 b:=fun _=>d_2
 n:=1
 ros:=[0]
 st:=a_f T
 ways:=[{e:=.exit 0,X:=Unit,c:=fun _=>True,s:=fun _=>[],b:=fun _=>d_2,n:=1}]
def y_Q(T:TD):GenS where
 A:=Nat
 st:=a_f T
 dec:=fun args _=>match args with
  | .sp ⟨4,i,_⟩ 0::_=>some i
  |_=>none
 dom:=fun i=>0<T.C i
 args1:=fun i=>i_y (trP i)
 blks1:=fun _=>d_2
 next1:=1
 ros1:=[0]
 p1:=1
 X:=Unit
 G:=fun _ _=>True
 val:=fun _=>b_n
 out:=fun _=>[]
 n2:=1
def n_a(T:TD):Tabs:=⟨fun f=>match f with
 |258=>some (y_Q T).spec
 |_=>none,fun _=>none⟩
def u_r(T:TD):LoopD where
 J:=Nat
 side:=fun k=>k<=T.R
 μ:=fun k=>T.R-k
 fn:=22
 p:=1
 s:=fun k=>[(1,.ptr 0 0),(3,.ite (Nat.blt k (T.R)) (trP k) np)]
 b:=fun _=>d_2
 n:=1
 ros:=[0]
 st:=a_f T
 ways:=[{e:=.exit 0,X:=Unit,c:=fun _=>True,s:=fun _=>[],b:=fun _=>d_2,n:=1}]
def y_R(T:TD):GenS where
 A:=Unit
 st:=a_f T
 dec:=fun args _=>match args with
  | .sp ⟨3,_,_⟩ 0::_=>some ()
  |_=>none
 dom:=fun _=>T.Ok
 args1:=fun _=>i_y (.sp tbd 0)
 blks1:=fun _=>d_2
 next1:=1
 ros1:=[0]
 p1:=1
 X:=Unit
 G:=fun _ _=>True
 val:=fun _=>b_n
 out:=fun _=>[]
 n2:=1
def n_b(T:TD):Tabs:=⟨fun f=>match f with
 |258=>some (y_R T).spec
 |_=>none,fun _=>none⟩
def y_S(T:TD):GenS where
 A:=Unit
 st:=a_f T
 dec:=fun args _=>match args with
  | .sp ⟨2,_,_⟩ 0::_=>some ()
  |_=>none
 dom:=fun _=>T.Ok
 args1:=fun _=>i_y (.sp tbl 0)
 blks1:=fun _=>d_2
 next1:=1
 ros1:=[0]
 p1:=1
 X:=Unit
 G:=fun _ _=>True
 val:=fun _=>b_n
 out:=fun _=>[]
 n2:=1
def n_c(T:TD):Tabs:=⟨fun f=>match f with
 |258=>some (y_S T).spec
 |_=>none,fun _=>none⟩
def y_T(T:TD):GenS where
 A:=Unit
 st:=a_f T
 dec:=fun args _=>match args with
  | .sp ⟨1,_,_⟩ 0::_=>some ()
  |_=>none
 dom:=fun _=>T.Ok
 args1:=fun _=>i_y (.sp doc 0)
 blks1:=fun _=>d_2
 next1:=1
 ros1:=[0]
 p1:=1
 X:=Unit
 G:=fun _ _=>True
 val:=fun _=>b_n
 out:=fun _=>[]
 n2:=1
def e_B(T:TD)(c:Nat):List (Nat×ABlk):=[(0,.row [.slc 2 0 c (.u 3 0)] 349 (.n 1)),(1,.row [.fn (.func 316) [] [.ptr 0 0,.ptr 1 0]] 176 (.n 1)),(2,.fam (nfA T) c [] [] 75 (.u 3 1))]
def y_U(T:TD):GenS where
 A:=Nat×Nat
 st:=a_f T
 dec:=fun args _=>match args with
  | .sp ⟨5,i,j⟩ 0::_=>some (i,j)
  |_=>none
 dom:=fun a=>a.1<T.R/\a.2<T.C a.1/\T.Ok
 args1:=fun a=>c_h (tdP a.1 a.2)
 blks1:=fun a=>e_B T (ixD T a.1 a.2)
 next1:=4
 ros1:=[1]
 p1:=2
 X:=Nat
 G:=fun a x=>x=ixD T a.1 (a.2+1)
 val:=fun _=>b_n
 out:=fun x=>[(0,.row [.slc 2 0 x (.u 3 0)] 349 (.n 1)),(2,.fam (nfA T) x [] [] 75 (.u 3 1))]
 n2:=4
def n_d(T:TD):Tabs:=⟨fun f=>match f with
 |316=>some (y_U T).spec
 |_=>none,fun _=>none⟩
def u_s(T:TD)(i:Nat):LoopD where
 J:=Nat
 side:=fun k=>k<=T.C i
 μ:=fun k=>T.C i-k
 fn:=22
 p:=2
 s:=fun k=>[(1,.ptr 0 0),(2,.ptr 1 0),(4,.ite (Nat.blt k (T.C i)) (tdP i k) np)]
 b:=fun k=>e_B T (ixD T i k)
 n:=4
 ros:=[1]
 st:=a_f T
 ways:=[{e:=.exit 0,X:=Unit,c:=fun _=>True,s:=fun _=>[],b:=fun _=>e_B T (ixD T i (T.C i)),n:=4}]
def y_V(T:TD):GenS where
 A:=Nat
 st:=a_f T
 dec:=fun args _=>match args with
  | .sp ⟨4,i,_⟩ 0::_=>some i
  |_=>none
 dom:=fun i=>i<T.R/\T.Ok
 args1:=fun i=>c_h (trP i)
 blks1:=fun a=>e_B T (ixR T a)
 next1:=4
 ros1:=[1]
 p1:=2
 X:=Nat
 G:=fun a x=>x=ixR T (a+1)
 val:=fun _=>b_n
 out:=fun x=>[(0,.row [.slc 2 0 x (.u 3 0)] 349 (.n 1)),(2,.fam (nfA T) x [] [] 75 (.u 3 1))]
 n2:=4
def n_e(T:TD):Tabs:=⟨fun f=>match f with
 |316=>some (y_V T).spec
 |_=>none,fun _=>none⟩
def u_t(T:TD):LoopD where
 J:=Nat
 side:=fun k=>k<=T.R
 μ:=fun k=>T.R-k
 fn:=22
 p:=2
 s:=fun k=>[(1,.ptr 0 0),(2,.ptr 1 0),(4,.ite (Nat.blt k (T.R)) (trP k) np)]
 b:=fun k=>e_B T (ixR T k)
 n:=4
 ros:=[1]
 st:=a_f T
 ways:=[{e:=.exit 0,X:=Unit,c:=fun _=>True,s:=fun _=>[],b:=fun _=>e_B T (ixR T T.R),n:=4}]
def y_W(T:TD):GenS where
 A:=Unit
 st:=a_f T
 dec:=fun args _=>match args with
  | .sp ⟨3,_,_⟩ 0::_=>some ()
  |_=>none
 dom:=fun _=>T.Ok
 args1:=fun _=>c_h (.sp tbd 0)
 blks1:=fun a=>e_B T (2)
 next1:=4
 ros1:=[1]
 p1:=2
 X:=Nat
 G:=fun a x=>x=nN T
 val:=fun _=>b_n
 out:=fun x=>[(0,.row [.slc 2 0 x (.u 3 0)] 349 (.n 1)),(2,.fam (nfA T) x [] [] 75 (.u 3 1))]
 n2:=4
def n_f(T:TD):Tabs:=⟨fun f=>match f with
 |316=>some (y_W T).spec
 |_=>none,fun _=>none⟩
def y_X(T:TD):GenS where
 A:=Unit
 st:=a_f T
 dec:=fun args _=>match args with
  | .sp ⟨2,_,_⟩ 0::_=>some ()
  |_=>none
 dom:=fun _=>T.Ok
 args1:=fun _=>c_h (.sp tbl 0)
 blks1:=fun a=>e_B T (1)
 next1:=4
 ros1:=[1]
 p1:=2
 X:=Nat
 G:=fun a x=>x=nN T
 val:=fun _=>b_n
 out:=fun x=>[(0,.row [.slc 2 0 x (.u 3 0)] 349 (.n 1)),(2,.fam (nfA T) x [] [] 75 (.u 3 1))]
 n2:=4
def n_g(T:TD):Tabs:=⟨fun f=>match f with
 |316=>some (y_X T).spec
 |_=>none,fun _=>none⟩
def y_Y(T:TD):GenS where
 A:=Unit
 st:=a_f T
 dec:=fun args _=>match args with
  | .sp ⟨1,_,_⟩ 0::_=>some ()
  |_=>none
 dom:=fun _=>T.Ok
 args1:=fun _=>c_h (.sp doc 0)
 blks1:=fun a=>[(0,.row [ns] 349 (.n 1)),(1,.row [.fn (.func 316) [] [.ptr 0 0,.ptr 1 0]] 176 (.n 1))]
 next1:=2
 ros1:=[1]
 p1:=2
 X:=Nat
 G:=fun a x=>x=nN T
 val:=fun _=>b_n
 out:=fun x=>[(0,.row [.slc 2 0 x (.u 3 0)] 349 (.n 1)),(2,.fam (nfA T) x [] [] 75 (.u 3 1))]
 n2:=4
def n_h(T:TD):Tabs:=⟨fun f=>match f with
 |316=>some (y_Y T).spec
 |_=>none,fun _=>none⟩
def alS(T:TD):GenS where
 A:=Unit
 st:=a_f T
 dec:=fun args _=>match args with
  | .sp ⟨1,0,0⟩ 0::_=>some ()
  |_=>none
 dom:=fun _=>T.Ok
 args1:=fun _=>[.sp doc 0]
 blks1:=fun _=>[]
 next1:=0
 ros1:=[]
 p1:=0
 X:=Unit
 G:=fun _ _=>True
 val:=fun _=>.fam (nfA T) (nN T)
 out:=fun _=>[]
 n2:=0
def haS(T:TD):GenS where
 A:=SId
 st:=a_f T
 dec:=fun args _=>match args with
  | .sp x 0:: .fn (.func 218) [] []::_=>some x
  |_=>none
 dom:=T.Val
 args1:=fun x=>[.sp x 0,.fn (.func 218) [] []]
 blks1:=fun _=>[]
 next1:=0
 ros1:=[]
 p1:=0
 X:=Unit
 G:=fun _ _=>True
 val:=fun _=>.lit (.bool false)
 out:=fun _=>[]
 n2:=0
def rrS(T:TD):GenS where
 A:=Unit
 st:=a_f T
 dec:=fun args _=>match args with
  | .sp ⟨1,0,0⟩ 0:: .fn (.func 218) [] []::_=>some ()
  |_=>none
 dom:=fun _=>T.Ok
 args1:=fun _=>[.sp doc 0,.fn (.func 218) [] []]
 blks1:=fun _=>[]
 next1:=0
 ros1:=[]
 p1:=0
 X:=Unit
 G:=fun _ _=>True
 val:=fun _=>b_n
 out:=fun _=>[]
 n2:=0
def rrU(T:TD):Tabs:=⟨fun f=>match f with
 |260=>some ((alS T).spec)
 |261=>some ((haS T).spec)
 |_=>none,fun _=>none⟩
def rrD(T:TD):LoopD where
 J:=Nat
 side:=fun k=>k<=nN T
 μ:=fun k=>nN T-k
 fn:=19
 p:=0
 s:=fun k=>[(1,.fn (.func 218) [] []),(7,.fam (nfA T) (nN T)),(8,.lit (.int .i64 (nN T:Nat))),(9,.lit (.int .i64 (k:Nat)))]
 b:=fun _=>[]
 n:=0
 ros:=[]
 st:=a_f T
 ways:=[{e:=.exit 0,X:=Unit,c:=fun _=>True,s:=fun _=>[],b:=fun _=>[],n:=0}]
def hbS(T:TD):GenS where
 A:=SId
 st:=a_f T
 dec:=fun args _=>match args with
  | .sp x 0:: .fn (.func 226) [] []::_=>some x
  |_=>none
 dom:=T.Val
 args1:=fun x=>[.sp x 0,.fn (.func 226) [] []]
 blks1:=fun _=>[]
 next1:=0
 ros1:=[]
 p1:=0
 X:=Unit
 G:=fun _ _=>True
 val:=fun _=>.lit (.bool false)
 out:=fun _=>[]
 n2:=0
def rsS(T:TD):GenS where
 A:=Unit
 st:=a_f T
 dec:=fun args _=>match args with
  | .sp ⟨1,0,0⟩ 0:: .fn (.func 226) [] []::_=>some ()
  |_=>none
 dom:=fun _=>T.Ok
 args1:=fun _=>[.sp doc 0,.fn (.func 226) [] []]
 blks1:=fun _=>[]
 next1:=0
 ros1:=[]
 p1:=0
 X:=Unit
 G:=fun _ _=>True
 val:=fun _=>b_n
 out:=fun _=>[]
 n2:=0
def rsU(T:TD):Tabs:=⟨fun f=>match f with
 |260=>some ((alS T).spec)
 |261=>some ((hbS T).spec)
 |_=>none,fun _=>none⟩
def rsD(T:TD):LoopD where
 J:=Nat
 side:=fun k=>k<=nN T
 μ:=fun k=>nN T-k
 fn:=19
 p:=0
 s:=fun k=>[(1,.fn (.func 226) [] []),(7,.fam (nfA T) (nN T)),(8,.lit (.int .i64 (nN T:Nat))),(9,.lit (.int .i64 (k:Nat)))]
 b:=fun _=>[]
 n:=0
 ros:=[]
 st:=a_f T
 ways:=[{e:=.exit 0,X:=Unit,c:=fun _=>True,s:=fun _=>[],b:=fun _=>[],n:=0}]
def maD(T:TD):LoopD where
 J:=SId×Bool
 side:=T.SdE
 μ:=T.mu
 fn:=20
 p:=0
 s:=fun j=>[(1,.fn (.func 220) [] []),(4,b_S j)]
 b:=fun _=>[]
 n:=0
 ros:=[]
 st:=a_f T
 ways:=[{e:=.exit 0,X:=Unit,c:=fun _=>True,s:=fun _=>[],b:=fun _=>[],n:=0}]
def maS(T:TD):GenS where
 A:=Unit
 st:=a_f T
 dec:=fun args _=>match args with
  | .sp ⟨1,0,0⟩ 0:: .fn (.func 220) [] []::_=>some ()
  |_=>none
 dom:=fun _=>True
 args1:=fun _=>[.sp doc 0,.fn (.func 220) [] []]
 blks1:=fun _=>[]
 next1:=0
 ros1:=[]
 p1:=0
 X:=Unit
 G:=fun _ _=>True
 val:=fun _=>b_n
 out:=fun _=>[]
 n2:=0
def mbD(T:TD):LoopD where
 J:=SId×Bool
 side:=T.SdE
 μ:=T.mu
 fn:=20
 p:=0
 s:=fun j=>[(1,.fn (.func 223) [] []),(4,b_S j)]
 b:=fun _=>[]
 n:=0
 ros:=[]
 st:=a_f T
 ways:=[{e:=.exit 0,X:=Unit,c:=fun _=>True,s:=fun _=>[],b:=fun _=>[],n:=0}]
def mbS(T:TD):GenS where
 A:=Unit
 st:=a_f T
 dec:=fun args _=>match args with
  | .sp ⟨1,0,0⟩ 0:: .fn (.func 223) [] []::_=>some ()
  |_=>none
 dom:=fun _=>True
 args1:=fun _=>[.sp doc 0,.fn (.func 223) [] []]
 blks1:=fun _=>[]
 next1:=0
 ros1:=[]
 p1:=0
 X:=Unit
 G:=fun _ _=>True
 val:=fun _=>b_n
 out:=fun _=>[]
 n2:=0
def reD(T:TD):LoopD where
 J:=SId×Bool
 side:=T.Sd
 μ:=T.mu
 fn:=24
 p:=0
 s:=fun j=>[(4,b_S j)]
 b:=fun _=>[]
 n:=0
 ros:=[]
 st:=a_f T
 ways:=[{e:=.exit 0,X:=Unit,c:=fun _=>True,s:=fun _=>[],b:=fun _=>[],n:=0}]
def reS(T:TD):GenS where
 A:=Unit
 st:=a_f T
 dec:=fun args _=>match args with
  |_:: .sp ⟨1,0,0⟩ 0::_=>some ()
  |_=>none
 dom:=fun _=>True
 args1:=fun _=>[.top,.sp doc 0]
 blks1:=fun _=>[]
 next1:=0
 ros1:=[]
 p1:=0
 X:=Unit
 G:=fun _ _=>True
 val:=fun _=>b_n
 out:=fun _=>[]
 n2:=0
def d_3:List (Nat×ABlk):=[(0,.row [.fn (.func 223) [] []] 304 (.n 1)),(1,.row [.fn (.func 224) [] []] 304 (.n 1)),(2,.row [.fn (.func 270) [] [.ptr 0 0,.ptr 1 0,.ptr 2 0]] 176 (.n 1))]
def c_i(x:AVal):List AVal:=[x,.ptr 0 0,.ptr 1 0,.ptr 2 0]
def y_Z(T:TD):GenS where
 A:=Nat×Nat
 st:=a_f T
 dec:=fun args _=>match args with
  | .sp ⟨5,i,j⟩ 0::_=>some (i,j)
  |_=>none
 dom:=fun _=>True
 args1:=fun a=>c_i (tdP a.1 a.2)
 blks1:=fun _=>d_3
 next1:=3
 ros1:=[0,1,2]
 p1:=3
 X:=Unit
 G:=fun _ _=>True
 val:=fun _=>b_n
 out:=fun _=>[]
 n2:=3
def n_i(T:TD):Tabs:=⟨fun f=>match f with
 |270=>some (y_Z T).spec
 |_=>none,fun _=>none⟩
def u_u(T:TD)(i:Nat):LoopD where
 J:=Nat
 side:=fun k=>k<=T.C i
 μ:=fun k=>T.C i-k
 fn:=42
 p:=3
 s:=fun k=>[(1,.ptr 0 0),(2,.ptr 1 0),(3,.ptr 2 0),(6,.ite (Nat.blt k (T.C i)) (tdP i k) np)]
 b:=fun _=>d_3
 n:=3
 ros:=[0,1,2]
 st:=a_f T
 ways:=[{e:=.exit 0,X:=Unit,c:=fun _=>True,s:=fun _=>[],b:=fun _=>d_3,n:=3}]
def y_0(T:TD):GenS where
 A:=Nat
 st:=a_f T
 dec:=fun args _=>match args with
  | .sp ⟨4,i,_⟩ 0::_=>some i
  |_=>none
 dom:=fun i=>0<T.C i
 args1:=fun i=>c_i (trP i)
 blks1:=fun _=>d_3
 next1:=3
 ros1:=[0,1,2]
 p1:=3
 X:=Unit
 G:=fun _ _=>True
 val:=fun _=>b_n
 out:=fun _=>[]
 n2:=3
def n_j(T:TD):Tabs:=⟨fun f=>match f with
 |270=>some (y_0 T).spec
 |_=>none,fun _=>none⟩
def u_v(T:TD):LoopD where
 J:=Nat
 side:=fun k=>k<=T.R
 μ:=fun k=>T.R-k
 fn:=42
 p:=3
 s:=fun k=>[(1,.ptr 0 0),(2,.ptr 1 0),(3,.ptr 2 0),(6,.ite (Nat.blt k (T.R)) (trP k) np)]
 b:=fun _=>d_3
 n:=3
 ros:=[0,1,2]
 st:=a_f T
 ways:=[{e:=.exit 0,X:=Unit,c:=fun _=>True,s:=fun _=>[],b:=fun _=>d_3,n:=3}]
def y_1(T:TD):GenS where
 A:=Unit
 st:=a_f T
 dec:=fun args _=>match args with
  | .sp ⟨3,_,_⟩ 0::_=>some ()
  |_=>none
 dom:=fun _=>T.Ok
 args1:=fun _=>c_i (.sp tbd 0)
 blks1:=fun _=>d_3
 next1:=3
 ros1:=[0,1,2]
 p1:=3
 X:=Unit
 G:=fun _ _=>True
 val:=fun _=>b_n
 out:=fun _=>[]
 n2:=3
def n_k(T:TD):Tabs:=⟨fun f=>match f with
 |270=>some (y_1 T).spec
 |_=>none,fun _=>none⟩
def y_2(T:TD):GenS where
 A:=Unit
 st:=a_f T
 dec:=fun args _=>match args with
  | .sp ⟨2,_,_⟩ 0::_=>some ()
  |_=>none
 dom:=fun _=>T.Ok
 args1:=fun _=>c_i (.sp tbl 0)
 blks1:=fun _=>d_3
 next1:=3
 ros1:=[0,1,2]
 p1:=3
 X:=Unit
 G:=fun _ _=>True
 val:=fun _=>b_n
 out:=fun _=>[]
 n2:=3
def n_l(T:TD):Tabs:=⟨fun f=>match f with
 |270=>some (y_2 T).spec
 |_=>none,fun _=>none⟩
def y_3(T:TD):GenS where
 A:=Unit
 st:=a_f T
 dec:=fun args _=>match args with
  | .sp ⟨1,_,_⟩ 0::_=>some ()
  |_=>none
 dom:=fun _=>T.Ok
 args1:=fun _=>c_i (.sp doc 0)
 blks1:=fun _=>d_3
 next1:=3
 ros1:=[0,1,2]
 p1:=3
 X:=Unit
 G:=fun _ _=>True
 val:=fun _=>b_n
 out:=fun _=>[]
 n2:=3
def wcS(T:TD):GenS where
 A:=Unit
 st:=a_f T
 dec:=fun args _=>match args with
  |_:: .sp ⟨1,0,0⟩ 0:: .fn (.func 223) [] []:: .fn (.func 224) [] []::_=>some ()
  |_=>none
 dom:=fun _=>T.Ok
 args1:=fun _=>[.top,.sp doc 0,.fn (.func 223) [] [],.fn (.func 224) [] []]
 blks1:=fun _=>[]
 next1:=0
 ros1:=[]
 p1:=0
 X:=Unit
 G:=fun _ _=>True
 val:=fun _=>b_n
 out:=fun _=>[]
 n2:=0
def wcU(T:TD):Tabs:=⟨fun f=>match f with
 |270=>some ((y_3 T).spec)
 |_=>none,fun _=>none⟩
def d_4:List (Nat×ABlk):=[(0,.row [.fn (.func 220) [] []] 304 (.n 1)),(1,.row [.fn (.func 227) [] []] 304 (.n 1)),(2,.row [.fn (.func 270) [] [.ptr 0 0,.ptr 1 0,.ptr 2 0]] 176 (.n 1))]
def y_4(T:TD):GenS where
 A:=Nat×Nat
 st:=a_f T
 dec:=fun args _=>match args with
  | .sp ⟨5,i,j⟩ 0::_=>some (i,j)
  |_=>none
 dom:=fun _=>True
 args1:=fun a=>c_i (tdP a.1 a.2)
 blks1:=fun _=>d_4
 next1:=3
 ros1:=[0,1,2]
 p1:=3
 X:=Unit
 G:=fun _ _=>True
 val:=fun _=>b_n
 out:=fun _=>[]
 n2:=3
def n_m(T:TD):Tabs:=⟨fun f=>match f with
 |270=>some (y_4 T).spec
 |_=>none,fun _=>none⟩
def u_w(T:TD)(i:Nat):LoopD where
 J:=Nat
 side:=fun k=>k<=T.C i
 μ:=fun k=>T.C i-k
 fn:=42
 p:=3
 s:=fun k=>[(1,.ptr 0 0),(2,.ptr 1 0),(3,.ptr 2 0),(6,.ite (Nat.blt k (T.C i)) (tdP i k) np)]
 b:=fun _=>d_4
 n:=3
 ros:=[0,1,2]
 st:=a_f T
 ways:=[{e:=.exit 0,X:=Unit,c:=fun _=>True,s:=fun _=>[],b:=fun _=>d_4,n:=3}]
def y_5(T:TD):GenS where
 A:=Nat
 st:=a_f T
 dec:=fun args _=>match args with
  | .sp ⟨4,i,_⟩ 0::_=>some i
  |_=>none
 dom:=fun i=>0<T.C i
 args1:=fun i=>c_i (trP i)
 blks1:=fun _=>d_4
 next1:=3
 ros1:=[0,1,2]
 p1:=3
 X:=Unit
 G:=fun _ _=>True
 val:=fun _=>b_n
 out:=fun _=>[]
 n2:=3
def n_n(T:TD):Tabs:=⟨fun f=>match f with
 |270=>some (y_5 T).spec
 |_=>none,fun _=>none⟩
def u_x(T:TD):LoopD where
 J:=Nat
 side:=fun k=>k<=T.R
 μ:=fun k=>T.R-k
 fn:=42
 p:=3
 s:=fun k=>[(1,.ptr 0 0),(2,.ptr 1 0),(3,.ptr 2 0),(6,.ite (Nat.blt k (T.R)) (trP k) np)]
 b:=fun _=>d_4
 n:=3
 ros:=[0,1,2]
 st:=a_f T
 ways:=[{e:=.exit 0,X:=Unit,c:=fun _=>True,s:=fun _=>[],b:=fun _=>d_4,n:=3}]
def y_6(T:TD):GenS where
 A:=Unit
 st:=a_f T
 dec:=fun args _=>match args with
  | .sp ⟨3,_,_⟩ 0::_=>some ()
  |_=>none
 dom:=fun _=>T.Ok
 args1:=fun _=>c_i (.sp tbd 0)
 blks1:=fun _=>d_4
 next1:=3
 ros1:=[0,1,2]
 p1:=3
 X:=Unit
 G:=fun _ _=>True
 val:=fun _=>b_n
 out:=fun _=>[]
 n2:=3
def n_o(T:TD):Tabs:=⟨fun f=>match f with
 |270=>some (y_6 T).spec
 |_=>none,fun _=>none⟩
def y_7(T:TD):GenS where
 A:=Unit
 st:=a_f T
 dec:=fun args _=>match args with
  | .sp ⟨2,_,_⟩ 0::_=>some ()
  |_=>none
 dom:=fun _=>T.Ok
 args1:=fun _=>c_i (.sp tbl 0)
 blks1:=fun _=>d_4
 next1:=3
 ros1:=[0,1,2]
 p1:=3
 X:=Unit
 G:=fun _ _=>True
 val:=fun _=>b_n
 out:=fun _=>[]
 n2:=3
def n_p(T:TD):Tabs:=⟨fun f=>match f with
 |270=>some (y_7 T).spec
 |_=>none,fun _=>none⟩
def y_8(T:TD):GenS where
 A:=Unit
 st:=a_f T
 dec:=fun args _=>match args with
  | .sp ⟨1,_,_⟩ 0::_=>some ()
  |_=>none
 dom:=fun _=>T.Ok
 args1:=fun _=>c_i (.sp doc 0)
 blks1:=fun _=>d_4
 next1:=3
 ros1:=[0,1,2]
 p1:=3
 X:=Unit
 G:=fun _ _=>True
 val:=fun _=>b_n
 out:=fun _=>[]
 n2:=3
def wbS(T:TD):GenS where
 A:=Unit
 st:=a_f T
 dec:=fun args _=>match args with
  |_:: .sp ⟨1,0,0⟩ 0:: .fn (.func 220) [] []:: .fn (.func 227) [] []::_=>some ()
  |_=>none
 dom:=fun _=>T.Ok
 args1:=fun _=>[.top,.sp doc 0,.fn (.func 220) [] [],.fn (.func 227) [] []]
 blks1:=fun _=>[]
 next1:=0
 ros1:=[]
 p1:=0
 X:=Unit
 G:=fun _ _=>True
 val:=fun _=>b_n
 out:=fun _=>[]
 n2:=0
def wbU(T:TD):Tabs:=⟨fun f=>match f with
 |270=>some ((y_8 T).spec)
 |_=>none,fun _=>none⟩
def d_5:List (Nat×ABlk):=[(0,.row [.fn (.func 227) [] []] 304 (.n 1)),(1,.row [.fn (.func 228) [] []] 304 (.n 1)),(2,.row [.fn (.func 270) [] [.ptr 0 0,.ptr 1 0,.ptr 2 0]] 176 (.n 1))]
def y_9(T:TD):GenS where
 A:=Nat×Nat
 st:=a_f T
 dec:=fun args _=>match args with
  | .sp ⟨5,i,j⟩ 0::_=>some (i,j)
  |_=>none
 dom:=fun _=>True
 args1:=fun a=>c_i (tdP a.1 a.2)
 blks1:=fun _=>d_5
 next1:=3
 ros1:=[0,1,2]
 p1:=3
 X:=Unit
 G:=fun _ _=>True
 val:=fun _=>b_n
 out:=fun _=>[]
 n2:=3
def n_q(T:TD):Tabs:=⟨fun f=>match f with
 |270=>some (y_9 T).spec
 |_=>none,fun _=>none⟩
def u_y(T:TD)(i:Nat):LoopD where
 J:=Nat
 side:=fun k=>k<=T.C i
 μ:=fun k=>T.C i-k
 fn:=42
 p:=3
 s:=fun k=>[(1,.ptr 0 0),(2,.ptr 1 0),(3,.ptr 2 0),(6,.ite (Nat.blt k (T.C i)) (tdP i k) np)]
 b:=fun _=>d_5
 n:=3
 ros:=[0,1,2]
 st:=a_f T
 ways:=[{e:=.exit 0,X:=Unit,c:=fun _=>True,s:=fun _=>[],b:=fun _=>d_5,n:=3}]
def z_a(T:TD):GenS where
 A:=Nat
 st:=a_f T
 dec:=fun args _=>match args with
  | .sp ⟨4,i,_⟩ 0::_=>some i
  |_=>none
 dom:=fun i=>0<T.C i
 args1:=fun i=>c_i (trP i)
 blks1:=fun _=>d_5
 next1:=3
 ros1:=[0,1,2]
 p1:=3
 X:=Unit
 G:=fun _ _=>True
 val:=fun _=>b_n
 out:=fun _=>[]
 n2:=3
def n_r(T:TD):Tabs:=⟨fun f=>match f with
 |270=>some (z_a T).spec
 |_=>none,fun _=>none⟩
def u_z(T:TD):LoopD where
 J:=Nat
 side:=fun k=>k<=T.R
 μ:=fun k=>T.R-k
 fn:=42
 p:=3
 s:=fun k=>[(1,.ptr 0 0),(2,.ptr 1 0),(3,.ptr 2 0),(6,.ite (Nat.blt k (T.R)) (trP k) np)]
 b:=fun _=>d_5
 n:=3
 ros:=[0,1,2]
 st:=a_f T
 ways:=[{e:=.exit 0,X:=Unit,c:=fun _=>True,s:=fun _=>[],b:=fun _=>d_5,n:=3}]
def z_b(T:TD):GenS where
 A:=Unit
 st:=a_f T
 dec:=fun args _=>match args with
  | .sp ⟨3,_,_⟩ 0::_=>some ()
  |_=>none
 dom:=fun _=>T.Ok
 args1:=fun _=>c_i (.sp tbd 0)
 blks1:=fun _=>d_5
 next1:=3
 ros1:=[0,1,2]
 p1:=3
 X:=Unit
 G:=fun _ _=>True
 val:=fun _=>b_n
 out:=fun _=>[]
 n2:=3
def n_s(T:TD):Tabs:=⟨fun f=>match f with
 |270=>some (z_b T).spec
 |_=>none,fun _=>none⟩
def z_c(T:TD):GenS where
 A:=Unit
 st:=a_f T
 dec:=fun args _=>match args with
  | .sp ⟨2,_,_⟩ 0::_=>some ()
  |_=>none
 dom:=fun _=>T.Ok
 args1:=fun _=>c_i (.sp tbl 0)
 blks1:=fun _=>d_5
 next1:=3
 ros1:=[0,1,2]
 p1:=3
 X:=Unit
 G:=fun _ _=>True
 val:=fun _=>b_n
 out:=fun _=>[]
 n2:=3
def n_t(T:TD):Tabs:=⟨fun f=>match f with
 |270=>some (z_c T).spec
 |_=>none,fun _=>none⟩
def z_d(T:TD):GenS where
 A:=Unit
 st:=a_f T
 dec:=fun args _=>match args with
  | .sp ⟨1,_,_⟩ 0::_=>some ()
  |_=>none
 dom:=fun _=>T.Ok
 args1:=fun _=>c_i (.sp doc 0)
 blks1:=fun _=>d_5
 next1:=3
 ros1:=[0,1,2]
 p1:=3
 X:=Unit
 G:=fun _ _=>True
 val:=fun _=>b_n
 out:=fun _=>[]
 n2:=3
def wlS(T:TD):GenS where
 A:=Unit
 st:=a_f T
 dec:=fun args _=>match args with
  |_:: .sp ⟨1,0,0⟩ 0:: .fn (.func 227) [] []:: .fn (.func 228) [] []::_=>some ()
  |_=>none
 dom:=fun _=>T.Ok
 args1:=fun _=>[.top,.sp doc 0,.fn (.func 227) [] [],.fn (.func 228) [] []]
 blks1:=fun _=>[]
 next1:=0
 ros1:=[]
 p1:=0
 X:=Unit
 G:=fun _ _=>True
 val:=fun _=>b_n
 out:=fun _=>[]
 n2:=0
def wlU(T:TD):Tabs:=⟨fun f=>match f with
 |270=>some ((z_d T).spec)
 |_=>none,fun _=>none⟩
def asD(T:TD):LoopD where
 J:=SId×Bool
 side:=T.SdE
 μ:=T.mu
 fn:=55
 p:=0
 s:=fun j=>[(2,.fn (.func 220) [] []),(3,.fn (.func 223) [] []),(8,b_S j)]
 b:=fun _=>[]
 n:=0
 ros:=[]
 st:=a_f T
 ways:=[{e:=.exit 0,X:=Unit,c:=fun _=>True,s:=fun _=>[],b:=fun _=>[],n:=0}]
def asS(T:TD):GenS where
 A:=Unit
 st:=a_f T
 dec:=fun args _=>match args with
  |_:: .sp ⟨1,0,0⟩ 0:: .fn (.func 220) [] []:: .fn (.func 223) [] []::_=>some ()
  |_=>none
 dom:=fun _=>True
 args1:=fun _=>[.top,.sp doc 0,.fn (.func 220) [] [],.fn (.func 223) [] []]
 blks1:=fun _=>[]
 next1:=0
 ros1:=[]
 p1:=0
 X:=Unit
 G:=fun _ _=>True
 val:=fun _=>b_n
 out:=fun _=>[]
 n2:=0
def d_6:List (Nat×ABlk):=[(0,.row [.top] 131 (.n 1)),(1,.row [.fn (.func 279) [] [.ptr 0 0,.ptr 1 0]] 357 (.n 1))]
def d_u(x:AVal):List AVal:=[x,.lit (.bool false),.lit (.bool false),.ptr 0 0,.ptr 1 0]
def z_e(T:TD):GenS where
 A:=Nat×Nat
 st:=a_f T
 dec:=fun args _=>match args with
  | .sp ⟨5,i,j⟩ 0::_=>some (i,j)
  |_=>none
 dom:=fun _=>True
 args1:=fun a=>d_u (tdP a.1 a.2)
 blks1:=fun _=>d_6
 next1:=2
 ros1:=[0,1]
 p1:=2
 X:=Unit
 G:=fun _ _=>True
 val:=fun _=>b_n
 out:=fun _=>[]
 n2:=2
def n_u(T:TD):Tabs:=⟨fun _=>none,fun f=>match f with
 |279=>some (z_e T).spec
 |_=>none⟩
def u_A(T:TD)(i:Nat):LoopD where
 J:=Nat
 side:=fun k=>k<=T.C i
 μ:=fun k=>T.C i-k
 fn:=60
 p:=2
 s:=fun k=>[(1,.lit (.bool false)),(2,.lit (.bool false)),(4,.ptr 1 0),(12,.ite (Nat.blt k (T.C i)) (tdP i k) np)]
 b:=fun _=>d_6
 d:=fun k=>[.fam 279 (fun j=>d_u (tdP i j)) k]
 n:=2
 ros:=[0,1]
 st:=a_f T
 ways:=[{e:=.exit 0,X:=Unit,c:=fun _=>True,s:=fun _=>[],b:=fun _=>d_6,d:=fun _=>[.fam 279 (fun j=>d_u (tdP i j)) (T.C i)],n:=2}]
def z_f(T:TD):GenS where
 A:=Nat
 st:=a_f T
 dec:=fun args _=>match args with
  | .sp ⟨4,i,_⟩ 0::_=>some i
  |_=>none
 dom:=fun i=>0<T.C i
 args1:=fun i=>d_u (trP i)
 blks1:=fun _=>d_6
 next1:=2
 ros1:=[0,1]
 p1:=2
 X:=Unit
 G:=fun _ _=>True
 val:=fun _=>b_n
 out:=fun _=>[]
 n2:=2
def n_v(T:TD):Tabs:=⟨fun _=>none,fun f=>match f with
 |279=>some (z_f T).spec
 |_=>none⟩
def u_B(T:TD):LoopD where
 J:=Nat
 side:=fun k=>k<=T.R
 μ:=fun k=>T.R-k
 fn:=60
 p:=2
 s:=fun k=>[(1,.lit (.bool false)),(2,.lit (.bool false)),(4,.ptr 1 0),(12,.ite (Nat.blt k (T.R)) (trP k) np)]
 b:=fun _=>d_6
 d:=fun k=>[.fam 279 (fun j=>d_u (trP j)) k]
 n:=2
 ros:=[0,1]
 st:=a_f T
 ways:=[{e:=.exit 0,X:=Unit,c:=fun _=>True,s:=fun _=>[],b:=fun _=>d_6,d:=fun _=>[.fam 279 (fun j=>d_u (trP j)) (T.R)],n:=2}]
def z_g(T:TD):GenS where
 A:=Unit
 st:=a_f T
 dec:=fun args _=>match args with
  | .sp ⟨3,_,_⟩ 0::_=>some ()
  |_=>none
 dom:=fun _=>T.Ok
 args1:=fun _=>d_u (.sp tbd 0)
 blks1:=fun _=>d_6
 next1:=2
 ros1:=[0,1]
 p1:=2
 X:=Unit
 G:=fun _ _=>True
 val:=fun _=>b_n
 out:=fun _=>[]
 n2:=2
def n_w(T:TD):Tabs:=⟨fun _=>none,fun f=>match f with
 |279=>some (z_g T).spec
 |_=>none⟩
def z_h(T:TD):GenS where
 A:=Unit
 st:=a_f T
 dec:=fun args _=>match args with
  | .sp ⟨2,_,_⟩ 0::_=>some ()
  |_=>none
 dom:=fun _=>T.Ok
 args1:=fun _=>d_u (.sp tbl 0)
 blks1:=fun _=>d_6
 next1:=2
 ros1:=[0,1]
 p1:=2
 X:=Unit
 G:=fun _ _=>True
 val:=fun _=>b_n
 out:=fun _=>[]
 n2:=2
def n_x(T:TD):Tabs:=⟨fun _=>none,fun f=>match f with
 |279=>some (z_h T).spec
 |_=>none⟩
def z_i(T:TD):GenS where
 A:=Unit
 st:=a_f T
 dec:=fun args _=>match args with
  | .sp ⟨1,_,_⟩ 0::_=>some ()
  |_=>none
 dom:=fun _=>T.Ok
 args1:=fun _=>d_u (.sp doc 0)
 blks1:=fun _=>d_6
 next1:=2
 ros1:=[0,1]
 p1:=2
 X:=Unit
 G:=fun _ _=>True
 val:=fun _=>b_n
 out:=fun _=>[]
 n2:=2
def d_7:List (Nat×ABlk):=[]
def i_z(x:AVal):List AVal:=[.top,x]
def z_j(T:TD):GenS where
 A:=Nat×Nat
 st:=a_f T
 dec:=fun args _=>match args with
  |_:: .sp ⟨5,i,j⟩ 0::_=>some (i,j)
  |_=>none
 dom:=fun _=>True
 args1:=fun a=>i_z (tdP a.1 a.2)
 blks1:=fun _=>d_7
 next1:=0
 ros1:=[]
 p1:=0
 X:=Unit
 G:=fun _ _=>True
 val:=fun _=>b_n
 out:=fun _=>[]
 n2:=0
def n_y(T:TD):Tabs:=⟨fun f=>match f with
 |230=>some (z_j T).spec
 |_=>none,fun _=>none⟩
def u_C(T:TD)(i:Nat):LoopD where
 J:=Nat
 side:=fun k=>k<=T.C i
 μ:=fun k=>T.C i-k
 fn:=90
 p:=0
 s:=fun k=>[(9,.ite (Nat.blt k (T.C i)) (tdP i k) np)]
 b:=fun _=>d_7
 n:=0
 ros:=[]
 st:=a_f T
 ways:=[{e:=.exit 2,X:=Unit,c:=fun _=>True,s:=fun _=>[],b:=fun _=>d_7,n:=0}]
def z_k(T:TD):GenS where
 A:=Nat
 st:=a_f T
 dec:=fun args _=>match args with
  |_:: .sp ⟨4,i,_⟩ 0::_=>some i
  |_=>none
 dom:=fun i=>0<T.C i
 args1:=fun i=>i_z (trP i)
 blks1:=fun _=>d_7
 next1:=0
 ros1:=[]
 p1:=0
 X:=Unit
 G:=fun _ _=>True
 val:=fun _=>b_n
 out:=fun _=>[]
 n2:=0
def n_z(T:TD):Tabs:=⟨fun f=>match f with
 |230=>some (z_k T).spec
 |_=>none,fun _=>none⟩
def u_D(T:TD):LoopD where
 J:=Nat
 side:=fun k=>k<=T.R
 μ:=fun k=>T.R-k
 fn:=90
 p:=0
 s:=fun k=>[(9,.ite (Nat.blt k (T.R)) (trP k) np)]
 b:=fun _=>d_7
 n:=0
 ros:=[]
 st:=a_f T
 ways:=[{e:=.exit 2,X:=Unit,c:=fun _=>True,s:=fun _=>[],b:=fun _=>d_7,n:=0}]
def z_l(T:TD):GenS where
 A:=Unit
 st:=a_f T
 dec:=fun args _=>match args with
  |_:: .sp ⟨3,_,_⟩ 0::_=>some ()
  |_=>none
 dom:=fun _=>T.Ok
 args1:=fun _=>i_z (.sp tbd 0)
 blks1:=fun _=>d_7
 next1:=0
 ros1:=[]
 p1:=0
 X:=Unit
 G:=fun _ _=>True
 val:=fun _=>b_n
 out:=fun _=>[]
 n2:=0
def n_A(T:TD):Tabs:=⟨fun f=>match f with
 |230=>some (z_l T).spec
 |_=>none,fun _=>none⟩
def z_m(T:TD):GenS where
 A:=Unit
 st:=a_f T
 dec:=fun args _=>match args with
  |_:: .sp ⟨2,_,_⟩ 0::_=>some ()
  |_=>none
 dom:=fun _=>T.Ok
 args1:=fun _=>i_z (.sp tbl 0)
 blks1:=fun _=>d_7
 next1:=0
 ros1:=[]
 p1:=0
 X:=Unit
 G:=fun _ _=>True
 val:=fun _=>b_n
 out:=fun _=>[]
 n2:=0
def n_B(T:TD):Tabs:=⟨fun f=>match f with
 |230=>some (z_m T).spec
 |_=>none,fun _=>none⟩
def z_n(T:TD):GenS where
 A:=Unit
 st:=a_f T
 dec:=fun args _=>match args with
  |_:: .sp ⟨1,_,_⟩ 0::_=>some ()
  |_=>none
 dom:=fun _=>T.Ok
 args1:=fun _=>i_z (.sp doc 0)
 blks1:=fun _=>d_7
 next1:=0
 ros1:=[]
 p1:=0
 X:=Unit
 G:=fun _ _=>True
 val:=fun _=>b_n
 out:=fun _=>[]
 n2:=0
def kcU(T:TD):Tabs:=⟨fun f=>match f with
 |258=>some ((y_T T).spec)
 |217=>some (orS (rrS T) (rsS T).spec)
 |219=>some (orS (maS T) (mbS T).spec)
 |221=>some ((reS T).spec)
 |222=>some (orS (wcS T) (orS (wbS T) (wlS T).spec))
 |225=>some ((asS T).spec)
 |279=>some ((z_i T).spec)
 |230=>some ((z_n T).spec)
 |_=>none,fun _=>none⟩
def rwS(T:TD):GenS where
 A:=List UInt8
 st:=a_f T
 dec:=fun args _=>match args with
  | .str l::_=>some l
  |_=>none
 dom:=fun l=>Words l/\l.length<=2147483647
 args1:=fun l=>[.str l]
 blks1:=fun _=>[]
 next1:=0
 ros1:=[]
 p1:=0
 X:=List UInt8
 G:=fun a x=>x=a
 val:=fun x=>.str x
 out:=fun _=>[]
 n2:=0
def rwD(T:TD)(l:List UInt8):LoopD where
 J:=Nat×Bool
 side:=fun j=>j.1<=l.length/\j.2=b_O l j.1
 μ:=fun j=>l.length-j.1
 fn:=124
 p:=0
 s:=fun j=>[(1,.ptr 0 0),(3,.ptr 1 0),(4,.fn (.func 178) [] [.ptr 1 0,.ptr 0 0]),(5,.lit (.int .i64 (0:Nat))),(6,.lit (.int .i64 (cond j.2 ((j.1-1:Nat):Int) (-1)))),(7,.lit (.int .i64 (j.1:Nat)))]
 b:=fun _=>[(0,.row [.str l] 9 (.n 1)),(1,.row [ns] 70 (.n 1))]
 n:=2
 ros:=[]
 st:=a_f T
 ways:=[{e:=.exit 0,X:=Unit,c:=fun _=>True,s:=fun _=>[(1,.ptr 0 0),(3,.ptr 1 0),(4,.fn (.func 178) [] [.ptr 1 0,.ptr 0 0]),(5,.lit (.int .i64 (0:Nat))),(6,.lit (.int .i64 (-1)))],b:=fun _=>[(0,.row [.str l] 9 (.n 1)),(1,.row [ns] 70 (.n 1))],n:=2}]
def hsS(T:TD):GenS where
 A:=List UInt8
 st:=a_f T
 dec:=fun args _=>match args with
  | .str l:: .str _::_=>some l
  |_=>none
 dom:=fun l=>Words l/\l≠[]/\l.length<=2147483647
 args1:=fun l=>[.str l,.str [32]]
 blks1:=fun _=>[]
 next1:=0
 ros1:=[]
 p1:=0
 X:=List UInt8
 G:=fun a x=>x=a
 val:=fun _=>.lit (.bool false)
 out:=fun _=>[]
 n2:=0
def tsS(T:TD):GenS where
 A:=List UInt8
 st:=a_f T
 dec:=fun args _=>match args with
  | .str l:: .str _::_=>some l
  |_=>none
 dom:=fun l=>Words l/\l≠[]/\l.length<=2147483647
 args1:=fun l=>[.str l,.str [32]]
 blks1:=fun _=>[]
 next1:=0
 ros1:=[]
 p1:=0
 X:=List UInt8
 G:=fun a x=>x=a
 val:=fun x=>.str x
 out:=fun _=>[]
 n2:=0
def coB:List (Nat×ABlk):=[(0,.row [.fn (.func 157) [] [.ptr 1 0],.fn (.func 176) [] [],.fn (.func 177) [] []] 306 (.n 3)),(1,.row [d_n 2] 147 (.n 1)),(2,c_8)]
def G_4:List (Nat×ABlk):=[(0,.row [.fn (.func 157) [] [.ptr 1 0],.lit .nilFunc,.lit .nilFunc] 306 (.n 3)),(1,.row [d_n 2] 147 (.n 1)),(2,c_8)]
def coS(T:TD):GenS where
 A:=Unit
 st:=a_f T
 dec:=fun args _=>match args with
  | .sp ⟨1,0,0⟩ 0::_=>some ()
  |_=>none
 dom:=fun _=>T.Ok
 args1:=fun _=>[.sp doc 0,.ptr 0 0]
 blks1:=fun _=>G_4
 next1:=3
 ros1:=[1,2]
 p1:=3
 X:=Unit
 G:=fun _ _=>True
 val:=fun _=>b_n
 out:=fun _=>[(0,.row [.fn (.func 157) [] [.ptr 1 0],.fn (.func 176) [] [],.fn (.func 177) [] []] 306 (.n 3))]
 n2:=3
def coU(T:TD):Tabs:=⟨fun f=>match f with
 |168=>some ((rwS T).spec)
 |169=>some ((hsS T).spec)
 |171=>some ((tsS T).spec)
 |_=>none,fun _=>none⟩
def coD(T:TD):LoopD where
 J:=CJ
 side:=a_W T
 μ:=a_G T
 fn:=152
 p:=3
 s:=fun j=>[(0,.sp doc 0),(1,.ptr 0 0),(4,.ite j.tn np (.sp j.t 0)),(5,.lit (.bool false)),(6,.ite j.pn np (.sp j.p 0)),(7,.sp j.n 0)]
 b:=fun _=>coB
 n:=3
 ros:=[1,2]
 st:=a_f T
 ways:=[{e:=.exit 0,X:=Unit,c:=fun _=>True,s:=fun _=>[(0,.sp doc 0),(1,.ptr 0 0),(4,np),(5,.lit (.bool false))],b:=fun _=>coB,n:=3}]
def hcU(T:TD):Tabs:=⟨fun f=>match f with
 |156=>some ((coS T).spec)
 |_=>none,fun _=>none⟩
end Tk

