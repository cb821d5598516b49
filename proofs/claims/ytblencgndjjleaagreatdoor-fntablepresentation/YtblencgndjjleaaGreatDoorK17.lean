/- Lemmas of this claim; the last text says what is proved. -/
import Derived.Test.YtblencgndjjleaaGreatDoorK16
set_option linter.all false
namespace Tk
open Go Go.Sx Go.Proofs
open Q
variable [Syms]
def fbS(T:TD):GenS where
 A:=Nat
 st:=a_f T
 dec:=fun args _=>match args with
  | .sp ⟨4,i,0⟩ 0::_=>some i
  |_=>none
 dom:=fun i=>i<T.R/\0<T.C i/\T.C i<=12
 args1:=fun i=>[.sp (tr i) 0,.fn (.func 443) [] []]
 blks1:=fun _=>[]
 next1:=0
 ros1:=[]
 p1:=0
 X:=Nat
 G:=fun a x=>x=a
 val:=fun i=>.fam (fun q=>tdP i q) (T.C i)
 out:=fun _=>[]
 n2:=0
def fbD(T:TD)(i:Nat):LoopD where
 J:=Unit
 side:=fun _=>True
 μ:=fun _=>2*T.C i
 fn:=26
 p:=0
 s:=fun _=>[(1,.fn (.func 443) [] []),(5,.fn (.func 330) [] [.ptr 0 0,.ptr 1 0,.ptr 2 0]),(6,tdP i 0),(4,ns)]
 b:=fun _=>[(0,.row [.fn (.func 320) [] []] 314 (.n 1)),(1,.row [.fn (.func 319) [] []] 314 (.n 1)),(2,.row [.fn (.func 456) [] [.ptr 3 0]] 304 (.n 1)),(3,.row [.sp (tr i) 0] 75 (.n 1))]
 n:=4
 ros:=[]
 st:=a_f T
 ways:=[{e:=.exit 0,X:=Unit,c:=fun _=>True,s:=fun _=>[(4,.fam (fun q=>tdP i q) (T.C i))],b:=fun _=>[],n:=0}]
def H_c(T:TD)(i:Nat):LoopD where
 J:=Nat
 side:=fun j=>0<j/\j<T.C i
 μ:=fun j=>2*(T.C i-j)
 fn:=26
 p:=0
 s:=fun j=>[(1,.fn (.func 443) [] []),(5,.fn (.func 330) [] [.ptr 0 0,.ptr 1 0,.ptr 2 0]),(6,tdP i j),(4,.slc 4 0 j (.u 5 0))]
 b:=fun j=>[(0,.row [.fn (.func 320) [] []] 314 (.n 1)),(1,.row [.fn (.func 319) [] []] 314 (.n 1)),(2,.row [.fn (.func 456) [] [.ptr 3 0]] 304 (.n 1)),(3,.row [.sp (tr i) 0] 75 (.n 1)),(4,.fam (fun q=>tdP i q) j [] [] 75 (.u 5 1))]
 n:=6
 ros:=[]
 st:=a_f T
 ways:=[]
def H_d(T:TD)(i:Nat):LoopD where
 J:=Nat
 side:=fun j=>j<T.C i
 μ:=fun j=>2*(T.C i-j)-1
 fn:=26
 p:=0
 s:=fun j=>[(1,.fn (.func 443) [] []),(5,.fn (.func 330) [] [.ptr 0 0,.ptr 1 0,.ptr 2 0]),(6,txP i j),(4,.slc 4 0 (j+1) (.u 5 0))]
 b:=fun j=>[(0,.row [.fn (.func 320) [] []] 314 (.n 1)),(1,.row [.fn (.func 319) [] []] 314 (.n 1)),(2,.row [.fn (.func 456) [] [.ptr 3 0]] 304 (.n 1)),(3,.row [.sp (tr i) 0] 75 (.n 1)),(4,.fam (fun q=>tdP i q) (j+1) [] [] 75 (.u 5 1))]
 n:=6
 ros:=[]
 st:=a_f T
 ways:=[]
def H_e(T:TD)(i:Nat):LoopD where
 J:=Unit
 side:=fun _=>True
 μ:=fun _=>0
 fn:=26
 p:=0
 s:=fun _=>[(1,.fn (.func 443) [] []),(5,.fn (.func 330) [] [.ptr 0 0,.ptr 1 0,.ptr 2 0]),(6,np),(4,.slc 4 0 (T.C i) (.u 5 0))]
 b:=fun _=>[(0,.row [.fn (.func 320) [] []] 314 (.n 1)),(1,.row [.fn (.func 319) [] []] 314 (.n 1)),(2,.row [.fn (.func 456) [] [.ptr 3 0]] 304 (.n 1)),(3,.row [.sp (tr i) 0] 75 (.n 1)),(4,.fam (fun q=>tdP i q) (T.C i) [] [] 75 (.u 5 1))]
 n:=6
 ros:=[]
 st:=a_f T
 ways:=[]
def H_f(T:TD)(i:Nat):List LoopD:=[fbD T i,H_c T i,H_d T i,H_e T i]
def caS(T:TD):GenS where
 A:=Unit
 st:=a_f T
 dec:=fun _ _=>some ()
 dom:=fun _=>T.Ok
 args1:=fun _=>[.ite T.hd (trP 0) np,.fam (fun q=>trP (q+hN T)) (T.R-hN T)]
 blks1:=fun _=>[]
 next1:=0
 ros1:=[]
 p1:=0
 X:=Unit
 G:=fun _ _=>True
 val:=fun _=>.fam (fun _=>.str []) (T.C 0)
 out:=fun _=>[]
 n2:=0
def caU(T:TD):Tabs:=⟨fun f=>match f with
 |442=>some ((fbS T).spec)
 |_=>none,fun _=>none⟩
def caD(T:TD):LoopD where
 J:=Unit
 side:=fun _=>True
 μ:=fun _=>T.C 0+1
 fn:=32
 p:=0
 s:=fun _=>[(18,.fam (fun q=>tdP 0 q) (T.C 0)),(19,.lit (.int .i64 (T.C 0:Nat))),(20,.lit (.int .i64 (0:Nat))),(7,ns)]
 b:=fun _=>[]
 n:=0
 ros:=[]
 st:=a_f T
 ways:=[{e:=.exit 0,X:=Unit,c:=fun _=>True,s:=fun _=>[(7,.fam (fun _=>.str []) (T.C 0))],b:=fun _=>[],n:=0}]
def H_g(T:TD):LoopD where
 J:=Nat
 side:=fun k=>0<k/\k<=T.C 0
 μ:=fun k=>T.C 0-k
 fn:=32
 p:=0
 s:=fun k=>[(18,.fam (fun q=>tdP 0 q) (T.C 0)),(19,.lit (.int .i64 (T.C 0:Nat))),(20,.lit (.int .i64 (k:Nat))),(7,.slc 0 0 k (.u 1 0))]
 b:=fun k=>[(0,.fam (fun _=>.str []) k [] [] 9 (.u 1 1))]
 n:=2
 ros:=[]
 st:=a_f T
 ways:=[]
def f9S(T:TD):GenS where
 A:=Unit
 st:=a_f T
 dec:=fun args _=>match args with
  | .sp ⟨2,0,0⟩ 0:: .fn (.func 444) _ _::_=>some ()
  |_=>none
 dom:=fun _=>T.Ok
 args1:=fun _=>[.sp tbl 0,.fn (.func 444) [] []]
 blks1:=fun _=>[]
 next1:=0
 ros1:=[]
 p1:=0
 X:=Unit
 G:=fun _ _=>True
 val:=fun _=>np
 out:=fun _=>[]
 n2:=0
def f9D(T:TD):LoopD where
 J:=SId×Bool
 side:=T.SdT
 μ:=T.mu
 fn:=22
 p:=0
 s:=fun j=>[(1,.fn (.func 444) [] []),(5,.fn (.func 330) [] [.ptr 0 0,.ptr 1 0,.ptr 2 0]),(6,b_S j)]
 b:=fun _=>[(0,.row [.fn (.func 320) [] []] 314 (.n 1)),(1,.row [.fn (.func 319) [] []] 314 (.n 1)),(2,.row [.fn (.func 445) [] [.ptr 3 0]] 304 (.n 1)),(3,.row [.sp tbl 0] 75 (.n 1))]
 n:=4
 ros:=[]
 st:=a_f T
 ways:=[{e:=.exit 0,X:=Unit,c:=fun _=>True,s:=fun _=>[],b:=fun _=>[],n:=0}]
def cnS(T:TD):GenS where
 A:=Unit
 st:=a_f T
 dec:=fun _ _=>some ()
 dom:=fun _=>T.Ok
 args1:=fun _=>[.top,.sp tbl 0]
 blks1:=fun _=>[]
 next1:=0
 ros1:=[]
 p1:=0
 X:=Unit
 G:=fun _ _=>True
 val:=fun _=>ns
 out:=fun _=>[]
 n2:=0
def cnU(T:TD):Tabs:=⟨fun f=>match f with
 |429=>some ((f9S T).spec)
 |_=>none,fun _=>none⟩
def kzS(T:TD):GenS where
 A:=Unit
 st:=a_f T
 dec:=fun _ _=>some ()
 dom:=fun _=>T.Ok/\noT T=true
 args1:=fun _=>[.sp (cv 9) 0,d_n 0,.sp tbl 0]
 blks1:=fun _=>[(0,c_8)]
 next1:=1
 ros1:=[]
 p1:=1
 X:=Unit
 G:=fun _ _=>True
 val:=fun _=>np
 out:=fun _=>[(0,c_8)]
 n2:=1
def kzU(T:TD):Tabs:=⟨fun f=>match f with
 |429=>some ((f3S T).spec)
 |420=>some ((shS T).spec)
 |421=>some ((nrS T).spec)
 |422=>some ((o_I (crS T) (fun _=>T.skip) (czS T).spec (cqS T).spec))
 |_=>none,fun _=>none⟩
def tNS(T:TD):GenS where
 A:=Unit
 st:=a_f T
 dec:=fun args _=>match args with
  |_::_::_:: .sp ⟨2,_,_⟩ 0::_=>some ()
  |_=>none
 dom:=fun _=>T.Ok/\noT T=true
 args1:=fun _=>[.sp (cv 9) 0,d_n 1,.ifc 160 (.ptr 0 0),.sp tbl 0]
 blks1:=fun _=>l_o 0++[(1,c_8)]
 next1:=2
 ros1:=[]
 p1:=2
 X:=Unit
 G:=fun _ _=>True
 val:=fun _=>.lit (.int .i64 (0:Nat))
 out:=fun _=>l_o 0++[(1,c_8)]
 n2:=2
def tNU(T:TD):Tabs:=⟨fun f=>match f with
 |413=>some ((kzS T).spec)
 |_=>none,fun _=>none⟩
def x_z(T:TD):GenS where
 A:=By×Nat×Nat
 st:=a_f T
 dec:=fun args H=>match args with
  | .ptr b 0:: .lit (.int _ (Int.ofNat n))::_=>match H.get b with
    |some (.row (.slc k 0 _ (.n d)::_) _ _)=>match H.get k with
     |some (.bytes l _ _)=>some (l,n,d)
     |_=>none
    |_=>none
  |_=>none
 dom:=fun a=>(a.1.length<=a.2.2/\a.2.2<9223372036854775808/\a.1.length+a.2.1<=a_i)/\a.1.length+a.2.1<=a.2.2
 args1:=fun a=>[.ptr 0 0,.lit (.int .i64 a.2.1)]
 blks1:=fun a=>o_J 0 1 a.2.2 a.1
 next1:=3
 ros1:=[]
 p1:=2
 X:=By×Nat×Nat
 G:=fun a x=>x=a
 val:=fun x=>.tup [.lit (.int .i64 x.1.length),.lit (.bool true)]
 out:=fun x=>[(0,.row [.slc 1 0 (x.1.length+x.2.1) (.n x.2.2),.lit (.int .i64 0),.lit (.int .i8 0)] 157 (.n 3)),(1,.bytes x.1 5 (.n x.2.2))]
 n2:=3
def x_A(T:TD):GenS where
 A:=By×Nat×Nat
 st:=a_f T
 dec:=fun args H=>match args with
  | .ptr b 0:: .lit (.int _ (Int.ofNat n))::_=>match H.get b with
    |some (.row (.slc k 0 _ (.n d)::_) _ _)=>match H.get k with
     |some (.bytes l _ _)=>some (l,n,d)
     |_=>none
    |_=>none
  |_=>none
 dom:=fun a=>(a.1.length<=a.2.2/\a.2.2<9223372036854775808/\a.1.length+a.2.1<=a_i)/\a.2.2<a.1.length+a.2.1
 args1:=fun a=>[.ptr 0 0,.lit (.int .i64 a.2.1)]
 blks1:=fun a=>o_J 0 1 a.2.2 a.1
 next1:=3
 ros1:=[]
 p1:=2
 X:=By×Nat×Nat
 G:=fun a x=>x=a
 val:=fun x=>.tup [.lit (.int .i64 (0:Nat)),.lit (.bool false)]
 out:=fun x=>o_J 0 1 x.2.2 x.1
 n2:=3
def G_M(T:TD):Sx.Spec:=o_I (x_z T) (fun a=>Nat.ble (a.1.length+a.2.1) a.2.2) (x_z T).spec (x_A T).spec
def grS(T:TD):GenS where
 A:=By×Nat×Nat
 st:=a_f T
 dec:=fun args H=>match args with
  | .ptr b 0:: .lit (.int _ (Int.ofNat n))::_=>match H.get b with
    |some (.row (.slc k 0 _ (.n d)::_) _ _)=>match H.get k with
     |some (.bytes l _ _)=>some (l,n,d)
     |_=>none
    |_=>none
  |_=>none
 dom:=fun a=>(a.1.length<=a.2.2/\a.2.2<9223372036854775808/\a.1.length+a.2.1<=a_i)/\a.2.2<a.1.length+a.2.1
 args1:=fun a=>[.ptr 0 0,.lit (.int .i64 a.2.1)]
 blks1:=fun a=>o_J 0 1 a.2.2 a.1
 next1:=3
 ros1:=[]
 p1:=1
 X:=By×Nat
 G:=fun a x=>x.1.length=a.1.length+a.2.1/\x.1.take a.1.length=a.1/\x.2=a.1.length
 val:=fun x=>.lit (.int .i64 x.2)
 out:=fun x=>f_W 0 1 2 x.1
 n2:=3
def grU(T:TD):Tabs:=⟨fun f=>match f with
 |362=>some ((x_A T).spec)
 |_=>none,fun f=>match f with
 |385=>some (m_t)
 |_=>none⟩
def woS(T:TD):GenS where
 A:=By×By×Nat
 st:=a_f T
 dec:=fun _ _=>none
 dom:=fun a=>a.1.length<=a.2.2/\a.2.2<9223372036854775808/\a.1.length+a.2.1.length<=a_i
 args1:=fun a=>[.ptr 0 0,.str a.2.1]
 blks1:=fun a=>o_J 0 1 a.2.2 a.1
 next1:=3
 ros1:=[]
 p1:=1
 X:=By
 G:=fun a x=>x=a.1++a.2.1
 val:=fun _=>.top
 out:=fun x=>f_W 0 1 2 x
 n2:=3
def woU(T:TD):Tabs:=⟨fun f=>match f with
 |362=>some (G_M T)
 |363=>some ((grS T).spec)
 |_=>none,fun _=>none⟩
def wsS(T:TD):GenS where
 A:=By×By
 st:=a_f T
 dec:=fun args H=>match args with
  | .ptr b 0:: .str p::_=>match H.get b with
    |some (.row (.slc k 0 _ _::_) _ _)=>match H.get k with
     |some (.bytes l _ _)=>some (l,p)
     |_=>none
    |_=>none
  |_=>none
 dom:=fun a=>a.1.length+a.2.length<=a_i
 args1:=fun a=>[.ptr 0 0,.str a.2]
 blks1:=fun a=>f_W 0 1 2 a.1
 next1:=3
 ros1:=[]
 p1:=1
 X:=By
 G:=fun a x=>x=a.1++a.2
 val:=fun _=>.top
 out:=fun x=>f_W 0 1 2 x
 n2:=3
def ytS(T:TD):GenS where
 A:=By×Nat×Nat
 st:=a_f T
 dec:=fun args H=>match args with
  |_::_:: .ifc _ (.ptr b 0):: .sp ⟨6,i,j⟩ 0::_=>match H.get b with
   |some (.row (.slc k 0 _ _::_) _ _)=>match H.get k with
    |some (.bytes l _ _)=>some (l,i,j)
    |_=>none
   |_=>none
  |_=>none
 dom:=fun a=>(WT (T.tx a.2.1 a.2.2)/\(T.tx a.2.1 a.2.2).length<=2147483647)/\fits 2147483647 a.1
 args1:=fun a=>[.sp (cv 0) 0,d_n 1,.ifc 160 (.ptr 0 0),.sp (tx a.2.1 a.2.2) 0]
 blks1:=fun a=>e_A 0 1 2 3 a.1
 next1:=4
 ros1:=[]
 p1:=2
 X:=By
 G:=fun a x=>x=a.1++T.tx a.2.1 a.2.2
 val:=fun _=>.lit (.int .i64 1)
 out:=fun x=>e_A 0 1 2 3 x
 n2:=4
def ytU(T:TD):Tabs:=⟨fun f=>match f with
 |88=>some ((gtS T).spec)
 |160=>some ((zeS T).spec)
 |476=>some ((esS T).spec)
 |342=>some ((wsS T).spec)
 |_=>none,fun _=>none⟩
def ydS(T:TD):GenS where
 A:=By×Nat×Nat
 st:=a_f T
 dec:=fun args H=>match args with
  |_::_:: .ifc _ (.ptr b 0):: .sp ⟨5,i,j⟩ 0::_=>match H.get b with
   |some (.row (.slc k 0 _ _::_) _ _)=>match H.get k with
    |some (.bytes l _ _)=>some (l,i,j)
    |_=>none
   |_=>none
  |_=>none
 dom:=fun a=>T.hasT a.2.1 a.2.2=true/\(WT (T.tx a.2.1 a.2.2)/\(T.tx a.2.1 a.2.2).length<=2147483647)/\fits 2147483647 a.1
 args1:=fun a=>[.sp (cv 0) 0,d_n 1,.ifc 160 (.ptr 0 0),.sp (td a.2.1 a.2.2) 0]
 blks1:=fun a=>e_A 0 1 2 3 a.1
 next1:=4
 ros1:=[]
 p1:=2
 X:=By
 G:=fun a x=>x=a.1++T.tx a.2.1 a.2.2
 val:=fun _=>.lit (.int .i64 1)
 out:=fun x=>e_A 0 1 2 3 x
 n2:=4
def ydU(T:TD):Tabs:=⟨fun f=>match f with
 |49=>some ((ghS T).spec)
 |81=>some ((ytS T).spec)
 |_=>none,fun _=>none⟩
def yeS(T:TD):GenS where
 A:=By×Nat×Nat
 st:=a_f T
 dec:=fun args H=>match args with
  |_::_:: .ifc _ (.ptr b 0):: .sp ⟨5,i,j⟩ 0::_=>match H.get b with
   |some (.row (.slc k 0 _ _::_) _ _)=>match H.get k with
    |some (.bytes l _ _)=>some (l,i,j)
    |_=>none
   |_=>none
  |_=>none
 dom:=fun a=>T.hasT a.2.1 a.2.2=false/\fits 0 a.1
 args1:=fun a=>[.sp (cv 0) 0,d_n 1,.ifc 160 (.ptr 0 0),.sp (td a.2.1 a.2.2) 0]
 blks1:=fun a=>e_A 0 1 2 3 a.1
 next1:=4
 ros1:=[]
 p1:=2
 X:=By
 G:=fun a x=>x=a.1
 val:=fun _=>.lit (.int .i64 1)
 out:=fun x=>e_A 0 1 2 3 x
 n2:=4
def ymS(T:TD):GenS where
 A:=By×Nat
 st:=a_f T
 dec:=fun args H=>match args with
  |_::_:: .ifc _ (.ptr b 0):: .fam f _::_=>match H.get b with
   |some (.row (.slc k 0 _ _::_) _ _)=>match H.get k with
    |some (.bytes l _ _)=>(match f 0 with| .sp ⟨5,i,_⟩ _=>some (l,i)|_=>none)
    |_=>none
   |_=>none
  |_=>none
 dom:=fun a=>(a.2<T.R/\T.Ok)/\fits 25769803768 a.1
 args1:=fun a=>[.sp (cv 0) 0,d_n 1,.ifc 160 (.ptr 0 0),.fam (fun q=>tdP a.2 q) (T.C a.2)]
 blks1:=fun a=>e_A 0 1 2 3 a.1
 next1:=4
 ros1:=[]
 p1:=2
 X:=By
 G:=fun a x=>x=a.1++catT T a.2 (T.C a.2)
 val:=fun _=>b_n
 out:=fun x=>e_A 0 1 2 3 x
 n2:=4
def ymU(T:TD):Tabs:=⟨fun f=>match f with
 |59=>some ((o_I (ydS T) (fun a=>T.hasT a.2.1 a.2.2) (ydS T).spec (yeS T).spec))
 |_=>none,fun _=>none⟩
def ymD(T:TD)(l:By)(i:Nat):LoopD where
 J:=Nat
 side:=fun k=>k<=T.C i
 μ:=fun k=>T.C i-k
 fn:=22
 p:=2
 s:=fun k=>[(0,.sp (cv 0) 0),(1,d_n 1),(2,.ifc 160 (.ptr 0 0)),(10,.fam (fun q=>tdP i q) (T.C i)),(11,.lit (.int .i64 (T.C i:Nat))),(12,.lit (.int .i64 (k:Nat)))]
 b:=fun k=>e_A 0 1 2 3 (l++catT T i (k))
 n:=4
 ros:=[]
 st:=a_f T
 ways:=[{e:=.exit 0,X:=Unit,c:=fun _=>True,s:=fun _=>[],b:=fun _=>e_A 0 1 2 3 (l++catT T i (T.C i)),n:=4}]
def acS(T:TD):GenS where
 A:=Nat
 st:=a_f T
 dec:=fun args _=>match args with
  | .sp ⟨4,i,0⟩ 0::_=>some i
  |_=>none
 dom:=fun i=>0<T.C i/\T.C i<=12
 args1:=fun i=>[.sp (tr i) 0]
 blks1:=fun _=>[]
 next1:=0
 ros1:=[]
 p1:=0
 X:=Nat
 G:=fun a x=>x=a
 val:=fun a=>.fam (fun q=>tdP a q) (T.C a)
 out:=fun _=>[]
 n2:=0
def acD(T:TD)(i:Nat):LoopD where
 J:=Unit
 side:=fun _=>True
 μ:=fun _=>T.C i+1
 fn:=19
 p:=0
 s:=fun _=>[(2,ns),(3,tdP i 0)]
 b:=fun _=>[]
 n:=0
 ros:=[]
 st:=a_f T
 ways:=[{e:=.exit 0,X:=Unit,c:=fun _=>True,s:=fun _=>[(2,.fam (fun q=>tdP i q) (T.C i))],b:=fun _=>[],n:=0}]
def H_h(T:TD)(i:Nat):LoopD where
 J:=Nat
 side:=fun k=>0<k/\k<=T.C i
 μ:=fun k=>T.C i-k
 fn:=19
 p:=0
 s:=fun k=>[(2,.slc 0 0 k (.u 1 0)),(3,.ite (Nat.blt k (T.C i)) (tdP i k) np)]
 b:=fun k=>[(0,.fam (fun q=>tdP i q) k [] [] 75 (.u 1 1))]
 n:=2
 ros:=[]
 st:=a_f T
 ways:=[]
def yrS(T:TD):GenS where
 A:=By×Nat
 st:=a_f T
 dec:=fun args H=>match args with
  |_::_:: .ifc _ (.ptr b 0):: .sp ⟨4,i,0⟩ 0::_=>match H.get b with
   |some (.row (.slc k 0 _ _::_) _ _)=>match H.get k with
    |some (.bytes l _ _)=>some (l,i)
    |_=>none
   |_=>none
  |_=>none
 dom:=fun a=>(a.2<T.R/\T.Ok)/\fits 25769803772 a.1
 args1:=fun a=>[.sp (cv 0) 0,d_n 1,.ifc 160 (.ptr 0 0),.sp (tr a.2) 0]
 blks1:=fun a=>e_A 0 1 2 3 a.1
 next1:=4
 ros1:=[]
 p1:=2
 X:=By
 G:=fun a x=>x=a.1++rowF T a.2
 val:=fun _=>.lit (.int .i64 1)
 out:=fun x=>e_A 0 1 2 3 x
 n2:=4
def yrU(T:TD):Tabs:=⟨fun f=>match f with
 |49=>some ((ghS T).spec)
 |342=>some ((wsS T).spec)
 |271=>some ((acS T).spec)
 |478=>some ((ymS T).spec)
 |_=>none,fun _=>none⟩
def yRS(T:TD):GenS where
 A:=By
 st:=a_f T
 dec:=fun args H=>match args with
  |_::_:: .ifc _ (.ptr b 0):: .fam f _::_=>match H.get b with
   |some (.row (.slc k 0 _ _::_) _ _)=>match H.get k with
    |some (.bytes l _ _)=>(match f 0 with| .sp ⟨4,_,_⟩ _=>some l|_=>none)
    |_=>none
   |_=>none
  |_=>none
 dom:=fun a=>T.Ok/\fits 335007448990 a
 args1:=fun a=>[.sp (cv 0) 0,d_n 1,.ifc 160 (.ptr 0 0),.fam (fun q=>trP q) (T.R)]
 blks1:=fun a=>e_A 0 1 2 3 a
 next1:=4
 ros1:=[]
 p1:=2
 X:=By
 G:=fun a x=>x=a++rowsF T (T.R)
 val:=fun _=>b_n
 out:=fun x=>e_A 0 1 2 3 x
 n2:=4
def yRU(T:TD):Tabs:=⟨fun f=>match f with
 |59=>some ((yrS T).spec)
 |_=>none,fun _=>none⟩
def yRD(T:TD)(l:By):LoopD where
 J:=Nat
 side:=fun k=>k<=T.R
 μ:=fun k=>T.R-k
 fn:=22
 p:=2
 s:=fun k=>[(0,.sp (cv 0) 0),(1,d_n 1),(2,.ifc 160 (.ptr 0 0)),(10,.fam (fun q=>trP q) (T.R)),(11,.lit (.int .i64 (T.R:Nat))),(12,.lit (.int .i64 (k:Nat)))]
 b:=fun k=>e_A 0 1 2 3 (l++rowsF T (k))
 n:=4
 ros:=[]
 st:=a_f T
 ways:=[{e:=.exit 0,X:=Unit,c:=fun _=>True,s:=fun _=>[],b:=fun _=>e_A 0 1 2 3 (l++rowsF T (T.R)),n:=4}]
def arS(T:TD):GenS where
 A:=Unit
 st:=a_f T
 dec:=fun args _=>match args with
  | .sp ⟨3,_,_⟩ 0::_=>some ()
  |_=>none
 dom:=fun _=>0<T.R/\T.R<=13
 args1:=fun _=>[.sp tbd 0]
 blks1:=fun _=>[]
 next1:=0
 ros1:=[]
 p1:=0
 X:=Unit
 G:=fun a x=>x=a
 val:=fun _=>.fam (fun q=>trP q) (T.R)
 out:=fun _=>[]
 n2:=0
def arD(T:TD):LoopD where
 J:=Unit
 side:=fun _=>True
 μ:=fun _=>T.R+1
 fn:=19
 p:=0
 s:=fun _=>[(2,ns),(3,trP 0)]
 b:=fun _=>[]
 n:=0
 ros:=[]
 st:=a_f T
 ways:=[{e:=.exit 0,X:=Unit,c:=fun _=>True,s:=fun _=>[(2,.fam (fun q=>trP q) (T.R))],b:=fun _=>[],n:=0}]
def H_i(T:TD):LoopD where
 J:=Nat
 side:=fun k=>0<k/\k<=T.R
 μ:=fun k=>T.R-k
 fn:=19
 p:=0
 s:=fun k=>[(2,.slc 0 0 k (.u 1 0)),(3,.ite (Nat.blt k (T.R)) (trP k) np)]
 b:=fun k=>[(0,.fam (fun q=>trP q) k [] [] 75 (.u 1 1))]
 n:=2
 ros:=[]
 st:=a_f T
 ways:=[]
def ybS(T:TD):GenS where
 A:=By
 st:=a_f T
 dec:=fun args H=>match args with
  |_::_:: .ifc _ (.ptr b 0):: .sp ⟨3,_,_⟩ 0::_=>match H.get b with
   |some (.row (.slc k 0 _ _::_) _ _)=>match H.get k with
    |some (.bytes l _ _)=>some l
    |_=>none
   |_=>none
  |_=>none
 dom:=fun a=>T.Ok/\fits 335007448990 a
 args1:=fun a=>[.sp (cv 0) 0,d_n 1,.ifc 160 (.ptr 0 0),.sp tbd 0]
 blks1:=fun a=>e_A 0 1 2 3 a
 next1:=4
 ros1:=[]
 p1:=2
 X:=By
 G:=fun a x=>x=a++rowsF T T.R
 val:=fun _=>.lit (.int .i64 1)
 out:=fun x=>e_A 0 1 2 3 x
 n2:=4
def ybU(T:TD):Tabs:=⟨fun f=>match f with
 |49=>some ((ghS T).spec)
 |271=>some ((arS T).spec)
 |478=>some ((yRS T).spec)
 |_=>none,fun _=>none⟩
def wqS(T:TD):GenS where
 A:=By×Nat
 st:=a_f T
 dec:=fun _ _=>none
 dom:=fun a=>a.1.length<=a.2/\a.2<9223372036854775808/\a.1.length+1<=a_i
 args1:=fun a=>[.ptr 0 0,.lit (.int .i32 10)]
 blks1:=fun a=>o_J 0 1 a.2 a.1
 next1:=3
 ros1:=[]
 p1:=1
 X:=By
 G:=fun a x=>x=a.1++[10]
 val:=fun _=>.top
 out:=fun x=>f_W 0 1 2 x
 n2:=3
def wyS(T:TD):GenS where
 A:=By
 st:=a_f T
 dec:=fun args H=>match args with
  | .ptr b 0::_=>match H.get b with
    |some (.row (.slc k 0 _ _::_) _ _)=>match H.get k with
     |some (.bytes l _ _)=>some l
     |_=>none
    |_=>none
  |_=>none
 dom:=fun a=>a.length+1<=a_i
 args1:=fun a=>[.ptr 0 0,.lit (.int .i32 10)]
 blks1:=fun a=>f_W 0 1 2 a
 next1:=3
 ros1:=[]
 p1:=1
 X:=By
 G:=fun a x=>x=a++[10]
 val:=fun _=>.top
 out:=fun x=>f_W 0 1 2 x
 n2:=3
def wzS(T:TD):GenS where
 A:=Unit
 st:=a_f T
 dec:=fun args H=>match args with
  | .ptr b 0::_=>match H.get b with
    |some (.row (.lit (.slice none 0 0)::_) _ _)=>some ()
    |_=>none
  |_=>none
 dom:=fun _=>True
 args1:=fun _=>[.ptr 0 0,.lit (.int .i32 10)]
 blks1:=fun _=>l_o 0
 next1:=1
 ros1:=[]
 p1:=1
 X:=By
 G:=fun _ x=>x=[10]
 val:=fun _=>.top
 out:=fun x=>f_W 0 1 2 x
 n2:=3
def yTS(T:TD):GenS where
 A:=Unit
 st:=a_f T
 dec:=fun args _=>match args with
  |_::_::_:: .sp ⟨2,_,_⟩ 0::_=>some ()
  |_=>none
 dom:=fun _=>T.Ok/\noT T=true
 args1:=fun _=>[.sp (cv 0) 0,d_n 1,.ifc 160 (.ptr 0 0),.sp tbl 0]
 blks1:=fun _=>l_o 0++[(1,c_8)]
 next1:=2
 ros1:=[]
 p1:=2
 X:=By
 G:=fun _ x=>x=fbF T
 val:=fun _=>.lit (.int .i64 1)
 out:=fun x=>e_A 0 1 2 3 x
 n2:=4
def yTU(T:TD):Tabs:=⟨fun f=>match f with
 |49=>some ((ghS T).spec)
 |411=>some ((tNS T).spec)
 |59=>some ((ybS T).spec)
 |333=>some ((orS (wzS T) (wyS T).spec))
 |_=>none,fun _=>none⟩
def ktS(T:TD):GenS where
 A:=Unit
 st:=a_f T
 dec:=fun _ _=>some ()
 dom:=fun _=>T.Ok/\noT T=false
 args1:=fun _=>[.sp (cv 9) 0,d_n 0,.sp tbl 0]
 blks1:=fun _=>[(0,c_8)]
 next1:=1
 ros1:=[]
 p1:=1
 X:=(Nat->Nat)×(Nat->Nat->By)×Nat×Nat
 G:=fun _ x=>x=finR T
 val:=fun _=>.ptr 1 0
 out:=fun x=>[(0,c_8),(1,.row [.fam (fun _=>.str []) (T.C 0),.slc 2 0 x.2.2.1 (.n x.2.2.2),ns] 443 (.n 3)),(2,.fam (fun q=>.famx (fun k=>.by_ (x.2.1 q k)) (x.1 q)) x.2.2.1 [] [] 365 (.n x.2.2.2))]
 n2:=4
def ktU(T:TD):Tabs:=⟨fun f=>match f with
 |429=>some ((f3S T).spec)
 |420=>some ((shS T).spec)
 |421=>some ((nrS T).spec)
 |422=>some ((crS T).spec)
 |440=>some ((zhS T).spec)
 |425=>some ((caS T).spec)
 |426=>some ((cnS T).spec)
 |_=>none,fun _=>none⟩
def ktD(T:TD)(rn:Nat->Nat)(rc:Nat->Nat->By)(m c:Nat):LoopD where
 J:=Nat
 side:=fun q=>q<=m
 μ:=fun q=>m-q
 fn:=81
 p:=1
 s:=fun q=>[(0,.sp (cv 9) 0),(1,d_n 0),(2,.sp tbl 0),(8,.ite T.hd (trP 0) np),(9,.fam (fun q=>trP (q+hN T)) (T.R-hN T)),(10,.slc 1 0 m (.n c)),(41,.slc 1 0 m (.n c)),(42,.lit (.int .i64 (m:Nat))),(43,.lit (.int .i64 (q:Nat)))]
 b:=fun _=>[(0,c_8),(1,.fam (fun q=>.famx (fun k=>.by_ (rc q k)) (rn q)) m [] [] 365 (.n c))]
 n:=2
 ros:=[]
 st:=a_f T
 ways:=[{e:=.exit 0,X:=Unit,c:=fun _=>True,s:=fun _=>[(0,.sp (cv 9) 0),(1,d_n 0),(2,.sp tbl 0),(8,.ite T.hd (trP 0) np),(9,.fam (fun q=>trP (q+hN T)) (T.R-hN T)),(10,.slc 1 0 m (.n c))],b:=fun _=>[(0,c_8),(1,.fam (fun q=>.famx (fun k=>.by_ (rc q k)) (rn q)) m [] [] 365 (.n c))],n:=2}]
def ktI(T:TD)(rn:Nat->Nat)(rc:Nat->Nat->By)(m c:Nat)(q:Nat):LoopD where
 J:=Nat
 side:=fun k=>k<=rn q
 μ:=fun k=>rn q-k
 fn:=81
 p:=1
 s:=fun k=>[(0,.sp (cv 9) 0),(1,d_n 0),(2,.sp tbl 0),(8,.ite T.hd (trP 0) np),(9,.fam (fun q=>trP (q+hN T)) (T.R-hN T)),(10,.slc 1 0 m (.n c)),(41,.slc 1 0 m (.n c)),(42,.lit (.int .i64 (m:Nat))),(43,.lit (.int .i64 (q:Nat))),(48,.famx (fun k=>.by_ (rc q k)) (rn q)),(49,.lit (.int .i64 (rn q:Nat))),(50,.lit (.int .i64 (k:Nat)))]
 b:=fun _=>[(0,c_8),(1,.fam (fun q=>.famx (fun k=>.by_ (rc q k)) (rn q)) m [] [] 365 (.n c))]
 n:=2
 ros:=[]
 st:=a_f T
 ways:=[{e:=.exit 2,X:=Unit,c:=fun _=>True,s:=fun _=>[(0,.sp (cv 9) 0),(1,d_n 0),(2,.sp tbl 0),(8,.ite T.hd (trP 0) np),(9,.fam (fun q=>trP (q+hN T)) (T.R-hN T)),(10,.slc 1 0 m (.n c)),(41,.slc 1 0 m (.n c)),(42,.lit (.int .i64 (m:Nat))),(43,.lit (.int .i64 (q:Nat)))],b:=fun _=>[(0,c_8),(1,.fam (fun q=>.famx (fun k=>.by_ (rc q k)) (rn q)) m [] [] 365 (.n c))],n:=2}]
def rcS(T:TD):GenS where
 A:=By
 st:=a_f T
 dec:=fun args _=>match args with
  | .by_ l::_=>some l
  |_=>none
 dom:=fun l=>(∀b∈l,b.toNat<128)/\l.length<=a_i
 args1:=fun l=>[.by_ l]
 blks1:=fun _=>[]
 next1:=0
 ros1:=[]
 p1:=0
 X:=Nat
 G:=fun a x=>x=a.length
 val:=fun x=>.lit (.int .i64 x)
 out:=fun _=>[]
 n2:=0
def rcU(T:TD):Tabs:=⟨fun f=>match f with
 |292=>some (noS)
 |_=>none,fun _=>none⟩
def rcD(T:TD)(l:By):LoopD where
 J:=Nat
 side:=fun i=>i<=l.length
 μ:=fun i=>l.length-i
 fn:=27
 p:=0
 s:=fun i=>[(0,.by_ l),(3,.lit (.int .i64 (l.length:Nat))),(4,.lit (.int .i64 (i:Nat)))]
 b:=fun _=>[]
 n:=0
 ros:=[]
 st:=a_f T
 ways:=[{e:=.exit 0,X:=Unit,c:=fun _=>True,s:=fun _=>[(4,.lit (.int .i64 (l.length:Nat)))],b:=fun _=>[],n:=0}]
def mwS(T:TD):GenS where
 A:=(Nat->Nat)×(Nat->Nat->By)×Nat×Nat
 st:=a_f T
 dec:=fun args H=>match args with
  | .slc b _ n (.n c)::_=>match H.get b with
    |some (.fam f _ _ _ _ _)=>some (rowsN f,rowsC f,n,c)
    |_=>none
  |_=>none
 dom:=fun a=>b_C a.1 a.2.1 a.2.2.1 a.2.2.2
 args1:=fun a=>[.slc 0 0 a.2.2.1 (.n a.2.2.2)]
 blks1:=fun a=>[(0,.fam (fun q=>.famx (fun k=>.by_ (a.2.1 q k)) (a.1 q)) a.2.2.1 [] [] 365 (.n a.2.2.2))]
 next1:=1
 ros1:=[0]
 p1:=1
 X:=List Nat
 G:=fun a x=>x=cnt a.1 a.2.1 a.2.2.1
 val:=fun x=>.fam (fun i=>.lit (.int .i64 (wd x i:Nat))) x.length
 out:=fun _=>[]
 n2:=1
def mwU(T:TD):Tabs:=⟨fun f=>match f with
 |427=>some ((rcS T).spec)
 |_=>none,fun _=>none⟩
def mwD(T:TD)(rn:Nat->Nat)(rc:Nat->Nat->By)(m c:Nat):LoopD where
 J:=Nat×List Nat
 side:=fun j=>moI rn rc m j.1 j.2
 μ:=fun j=>m-j.1
 fn:=47
 p:=1
 s:=fun j=>[(11,.slc 0 0 m (.n c)),(12,.lit (.int .i64 (m:Nat))),(13,.lit (.int .i64 (j.1:Nat))),(3,.slc 1 0 (List.length j.2) (.u 2 0))]
 b:=fun j=>[(0,.fam (fun q=>.famx (fun k=>.by_ (rc q k)) (rn q)) m [] [] 365 (.n c)),(1,.fam (fun i=>.lit (.int .i64 (wd j.2 i:Nat))) (List.length j.2) [] [] 3 (.u 2 1))]
 n:=3
 ros:=[0]
 st:=a_f T
 ways:=[{e:=.exit 0,X:=Unit,c:=fun _=>True,s:=fun _=>[(3,.fam (fun i=>.lit (.int .i64 (wd (cnt rn rc m) i:Nat))) (cnt rn rc m).length)],b:=fun _=>[(0,.fam (fun q=>.famx (fun k=>.by_ (rc q k)) (rn q)) m [] [] 365 (.n c))],n:=1}]
def mwI(T:TD)(rn:Nat->Nat)(rc:Nat->Nat->By)(m c:Nat)(q:Nat)(V:List Nat):LoopD where
 J:=Nat×List Nat
 side:=fun j=>mcI (rc q) (rn q) V j.1 j.2
 μ:=fun j=>rn q-j.1
 fn:=47
 p:=1
 s:=fun j=>[(11,.slc 0 0 m (.n c)),(12,.lit (.int .i64 (m:Nat))),(13,.lit (.int .i64 (q:Nat))),(3,.slc 1 0 (List.length j.2) (.u 2 0)),(17,.famx (fun k=>.by_ (rc q k)) (rn q)),(18,.lit (.int .i64 (rn q:Nat))),(19,.lit (.int .i64 (j.1:Nat)))]
 b:=fun j=>[(0,.fam (fun q=>.famx (fun k=>.by_ (rc q k)) (rn q)) m [] [] 365 (.n c)),(1,.fam (fun i=>.lit (.int .i64 (wd j.2 i:Nat))) (List.length j.2) [] [] 3 (.u 2 1))]
 n:=3
 ros:=[0]
 st:=a_f T
 ways:=[{e:=.exit 2,X:=Unit,c:=fun _=>True,s:=fun _=>[(11,.slc 0 0 m (.n c)),(12,.lit (.int .i64 (m:Nat))),(13,.lit (.int .i64 (q:Nat))),(3,.slc 1 0 (List.length V) (.u 2 0))],b:=fun _=>[(0,.fam (fun q=>.famx (fun k=>.by_ (rc q k)) (rn q)) m [] [] 365 (.n c)),(1,.fam (fun i=>.lit (.int .i64 (wd V i:Nat))) (List.length V) [] [] 3 (.u 2 1))],n:=3}]
def fuS(T:TD):GenS where
 A:=(Nat->Nat)×(Nat->Nat->By)×Nat×Nat×Nat
 st:=a_f T
 dec:=fun args H=>match args with
  | .slc b _ n (.n c):: .lit (.int _ (Int.ofNat w))::_=>match H.get b with
    |some (.fam f _ _ _ _ _)=>some (rowsN f,rowsC f,n,c,w)
    |_=>none
  |_=>none
 dom:=fun a=>b_C a.1 a.2.1 a.2.2.1 a.2.2.2.1/\a.2.2.2.2<=12/\∀q,q<a.2.2.1->a.1 q<=a.2.2.2.2
 args1:=fun a=>[.slc 0 0 a.2.2.1 (.n a.2.2.2.1),.lit (.int .i64 (a.2.2.2.2:Nat))]
 blks1:=fun a=>[(0,.fam (fun q=>.famx (fun k=>.by_ (a.2.1 q k)) (a.1 q)) a.2.2.1 [] [] 365 (.n a.2.2.2.1))]
 next1:=1
 ros1:=[]
 p1:=1
 X:=(Nat->Nat)×(Nat->Nat->By)×Nat×Nat×Nat
 G:=fun a x=>x=a
 val:=fun x=>.slc 0 0 x.2.2.1 (.n x.2.2.2.1)
 out:=fun x=>[(0,.fam (fun i=>.fam (fun c=>.by_ (fc x.1 x.2.1 i c)) x.2.2.2.2) x.2.2.1 [] [] 365 (.n x.2.2.2.1))]
 n2:=1
def fuD(T:TD)(rn:Nat->Nat)(rc:Nat->Nat->By)(m c w:Nat):LoopD where
 J:=Nat
 side:=fun q=>q<=m
 μ:=fun q=>m-q
 fn:=36
 p:=1
 s:=fun q=>[(0,.slc 0 0 m (.n c)),(1,.lit (.int .i64 (w:Nat))),(8,.slc 0 0 m (.n c)),(9,.lit (.int .i64 (m:Nat))),(10,.lit (.int .i64 (q:Nat)))]
 b:=fun q=>[(0,.fam (b_i rn rc w q) m [] [] 365 (.n c))]
 n:=1
 ros:=[]
 st:=a_f T
 ways:=[{e:=.exit 0,X:=Unit,c:=fun _=>True,s:=fun _=>[(0,.slc 0 0 m (.n c))],b:=fun _=>[(0,.fam (fun i=>.fam (fun c=>.by_ (fc rn rc i c)) w) m [] [] 365 (.n c))],n:=1}]
def fuI(T:TD)(rn:Nat->Nat)(rc:Nat->Nat->By)(m c w:Nat)(q:Nat):LoopD where
 J:=Unit
 side:=fun _=>q<m
 μ:=fun _=>w+1
 fn:=36
 p:=1
 s:=fun _=>[(0,.slc 0 0 m (.n c)),(1,.lit (.int .i64 (w:Nat))),(8,.slc 0 0 m (.n c)),(9,.lit (.int .i64 (m:Nat))),(10,.lit (.int .i64 (q:Nat))),(5,.lit (.int .i64 (q:Nat))),(19,.lit (.int .i64 (w-rn q:Nat))),(20,.lit (.int .i64 (0:Nat)))]
 b:=fun _=>[(0,.fam (b_i rn rc w q) m [] [] 365 (.n c))]
 n:=1
 ros:=[]
 st:=a_f T
 ways:=[{e:=.exit 2,X:=Unit,c:=fun _=>True,s:=fun _=>[(0,.slc 0 0 m (.n c)),(1,.lit (.int .i64 (w:Nat))),(8,.slc 0 0 m (.n c)),(9,.lit (.int .i64 (m:Nat))),(10,.lit (.int .i64 (q:Nat)))],b:=fun _=>[(0,.fam (b_i rn rc w (q+1)) m [] [] 365 (.n c))],n:=1}]
def H_j(T:TD)(rn:Nat->Nat)(rc:Nat->Nat->By)(m c w:Nat)(q:Nat):LoopD where
 J:=Nat
 side:=fun k=>q<m/\0<k/\k<=w-rn q
 μ:=fun k=>w-k
 fn:=36
 p:=1
 s:=fun k=>[(0,.slc 0 0 m (.n c)),(1,.lit (.int .i64 (w:Nat))),(8,.slc 0 0 m (.n c)),(9,.lit (.int .i64 (m:Nat))),(10,.lit (.int .i64 (q:Nat))),(5,.lit (.int .i64 (q:Nat))),(19,.lit (.int .i64 (w-rn q:Nat))),(20,.lit (.int .i64 (k:Nat)))]
 b:=fun k=>[(0,.fam (b_i rn rc w q) m [(q,.slc 1 0 (rn q+k) (.u 2 0))] [] 365 (.n c)),(1,.fam (fun c=>.by_ (fc rn rc q c)) (rn q+k) [] [] 70 (.u 2 1))]
 n:=3
 ros:=[]
 st:=a_f T
 ways:=[]
def wpS(T:TD):GenS where
 A:=By×By×Nat
 st:=a_f T
 dec:=fun _ _=>none
 dom:=fun a=>a.1.length<=a.2.2/\a.2.2<9223372036854775808/\a.1.length+a.2.1.length<=a_i
 args1:=fun a=>[.ptr 0 0,.by_ a.2.1]
 blks1:=fun a=>o_J 0 1 a.2.2 a.1
 next1:=3
 ros1:=[]
 p1:=1
 X:=By
 G:=fun a x=>x=a.1++a.2.1
 val:=fun _=>.top
 out:=fun x=>f_W 0 1 2 x
 n2:=3
def wrS(T:TD):GenS where
 A:=By×By
 st:=a_f T
 dec:=fun args H=>match args with
  | .ptr b 0:: .by_ p::_=>match H.get b with
    |some (.row (.slc k 0 _ _::_) _ _)=>match H.get k with
     |some (.bytes l _ _)=>some (l,p)
     |_=>none
    |_=>none
  |_=>none
 dom:=fun a=>a.1.length+a.2.length<=a_i
 args1:=fun a=>[.ptr 0 0,.by_ a.2]
 blks1:=fun a=>f_W 0 1 2 a.1
 next1:=3
 ros1:=[]
 p1:=1
 X:=By
 G:=fun a x=>x=a.1++a.2
 val:=fun _=>.top
 out:=fun x=>f_W 0 1 2 x
 n2:=3
def rpS(T:TD):GenS where
 A:=UInt8×Nat
 st:=a_f T
 dec:=fun args _=>match args with
  | .str [c]:: .lit (.int _ i)::_=>some (c,Int.toNat i)
  |_=>none
 dom:=fun a=>a.2<=140737488355328
 args1:=fun a=>[.str [a.1],.lit (.int .i64 (a.2:Nat))]
 blks1:=fun _=>[]
 next1:=0
 ros1:=[]
 p1:=0
 X:=By
 G:=fun a x=>x=List.replicate a.2 a.1
 val:=fun x=>.str x
 out:=fun _=>[]
 n2:=0
def Q.OwOk(T:TD)(l:By)(W:Nat->Nat)(w:Nat)(g:Nat->By)(n:Nat):Prop:=l.length+51539607600<=a_i/\(∀k,W k<=e_s)/\n<=w/\n<=12/\(∀c,WT (g c)/\(g c).length<=e_s)/\(T.pad=h_g\/T.pad=k_C\/T.pad=m_v)
theorem t_v{T:TD}{p:By}(h:T.pad=p):∃T':TD,T=T'.wp p:=⟨T,by cases T;simp only[TD.wp] at h⊢;rw[h]⟩
def owS(T:TD):GenS where
 A:=By×(Nat->Nat)×Nat×(Nat->By)×Nat
 st:=a_f T
 dec:=fun args H=>match args with
  |_:: .ifc _ (.ptr b 0):: .fam f w:: .fam h n::_=>match H.get b with
   |some (.row (.slc k 0 _ _::_) _ _)=>match H.get k with
    |some (.bytes l _ _)=>some (l,fun i=>u_l (f i),w,fun c=>h_P (h c),n)
    |_=>none
   |_=>none
  |_=>none
 dom:=fun a=>OwOk T a.1 a.2.1 a.2.2.1 a.2.2.2.1 a.2.2.2.2
 args1:=fun a=>[.sp (cv 9) 0,.ifc 160 (.ptr 0 0),.fam (fun i=>.lit (.int .i64 (a.2.1 i:Nat))) a.2.2.1,.fam (fun c=>.by_ (a.2.2.2.1 c)) a.2.2.2.2]
 blks1:=fun a=>f_W 0 1 2 a.1
 next1:=3
 ros1:=[]
 p1:=1
 X:=By
 G:=fun a x=>x=a.1++rowT T.pad a.2.1 a.2.2.2.1 a.2.2.2.2
 val:=fun _=>b_n
 out:=fun x=>f_W 0 1 2 x
 n2:=3
def owU(T:TD):Tabs:=⟨fun f=>match f with
 |427=>some ((rcS T).spec)
 |300=>some ((rpS T).spec)
 |342=>some ((wsS T).spec)
 |332=>some ((wrS T).spec)
 |_=>none,fun _=>none⟩
def owD(T:TD)(l:By)(W:Nat->Nat)(w:Nat)(g:Nat->By)(n:Nat):LoopD where
 J:=Nat
 side:=fun k=>k<=n
 μ:=fun k=>n-k
 fn:=83
 p:=1
 s:=fun k=>[(0,.sp (cv 9) 0),(1,.ifc 160 (.ptr 0 0)),(2,.fam (fun i=>.lit (.int .i64 (W i:Nat))) w),(13,.fam (fun c=>.by_ (g c)) n),(14,.lit (.int .i64 (n:Nat))),(15,.lit (.int .i64 (k:Nat)))]
 b:=fun k=>f_W 0 1 2 (l++rowT T.pad W g k)
 n:=3
 ros:=[]
 st:=a_f T
 ways:=[{e:=.exit 0,X:=Unit,c:=fun _=>True,s:=fun _=>[],b:=fun _=>f_W 0 1 2 (l++rowT T.pad W g n),n:=3}]
def agS(T:TD):GenS where
 A:=Nat×Nat
 st:=a_f T
 dec:=fun args _=>match args with
  | .fam _ n:: .lit (.int _ (Int.ofNat i))::_=>some (n,i)
  |_=>none
 dom:=fun a=>a.1<=1000/\a.2<=1000
 args1:=fun a=>[.fam (fun _=>.str []) a.1,.lit (.int .i64 (a.2:Nat))]
 blks1:=fun _=>[]
 next1:=0
 ros1:=[]
 p1:=0
 X:=Unit
 G:=fun _ _=>True
 val:=fun _=>.str []
 out:=fun _=>[]
 n2:=0
def Q.UwOk(T:TD)(l:By)(W:Nat->Nat)(w nA:Nat):Prop:=l.length+51539607600<=a_i/\(∀k,W k<=e_s)/\w<=12/\nA<=1000/\True/\(T.pad=h_g\/T.pad=k_C\/T.pad=m_v)
def uwS(T:TD):GenS where
 A:=By×(Nat->Nat)×Nat×Nat
 st:=a_f T
 dec:=fun args H=>match args with
  |_:: .ifc _ (.ptr b 0):: .fam _ nA:: .fam f w::_=>match H.get b with
   |some (.row (.slc k 0 _ _::_) _ _)=>match H.get k with
    |some (.bytes l _ _)=>some (l,fun i=>u_l (f i),w,nA)
    |_=>none
   |_=>none
  |_=>none
 dom:=fun a=>UwOk T a.1 a.2.1 a.2.2.1 a.2.2.2
 args1:=fun a=>[.sp (cv 9) 0,.ifc 160 (.ptr 0 0),.fam (fun _=>.str []) a.2.2.2,.fam (fun i=>.lit (.int .i64 (a.2.1 i:Nat))) a.2.2.1]
 blks1:=fun a=>f_W 0 1 2 a.1
 next1:=3
 ros1:=[]
 p1:=1
 X:=By
 G:=fun a x=>x=a.1++undT T.pad a.2.1 a.2.2.1
 val:=fun _=>b_n
 out:=fun x=>f_W 0 1 2 x
 n2:=3
def uwU(T:TD):Tabs:=⟨fun f=>match f with
 |428=>some ((agS T).spec)
 |300=>some ((rpS T).spec)
 |342=>some ((wsS T).spec)
 |332=>some ((wrS T).spec)
 |_=>none,fun _=>none⟩
def uwD(T:TD)(l:By)(W:Nat->Nat)(w nA:Nat):LoopD where
 J:=Nat
 side:=fun k=>k<=w
 μ:=fun k=>w-k
 fn:=64
 p:=1
 s:=fun k=>[(0,.sp (cv 9) 0),(1,.ifc 160 (.ptr 0 0)),(2,.fam (fun _=>.str []) nA),(12,.fam (fun i=>.lit (.int .i64 (W i:Nat))) w),(13,.lit (.int .i64 (w:Nat))),(14,.lit (.int .i64 (k:Nat)))]
 b:=fun k=>f_W 0 1 2 (l++undT T.pad W k)
 n:=3
 ros:=[]
 st:=a_f T
 ways:=[{e:=.exit 0,X:=Unit,c:=fun _=>True,s:=fun _=>[],b:=fun _=>f_W 0 1 2 (l++undT T.pad W w),n:=3}]
def Q.TaOk(T:TD)(rn:Nat->Nat)(rc:Nat->Nat->By)(m c nA:Nat)(l0:By):Prop:=b_C rn rc m c/\1<=m/\nA<=1000/\l0.length<=103079215210/\(T.pad=h_g\/T.pad=k_C\/T.pad=m_v)
def Q.taL(T:TD)(rn:Nat->Nat)(rc:Nat->Nat->By)(m:Nat):By:=[10,10]++rowT T.pad (wd (cnt rn rc m)) (fc rn rc 0) (cnt rn rc m).length++[10]++undT T.pad (wd (cnt rn rc m)) (cnt rn rc m).length++[10]
def tAS(T:TD):GenS where
 A:=Unit
 st:=a_f T
 dec:=fun args _=>match args with
  |_::_::_:: .sp ⟨2,_,_⟩ 0::_=>some ()
  |_=>none
 dom:=fun _=>T.Ok/\noT T=false
 args1:=fun _=>[.sp (cv 9) 0,d_n 1,.ifc 160 (.ptr 0 0),.sp tbl 0]
 blks1:=fun _=>l_o 0++[(1,c_8)]
 next1:=2
 ros1:=[]
 p1:=2
 X:=By
 G:=fun _ x=>x=tabF T
 val:=fun _=>.lit (.int .i64 1)
 out:=fun x=>e_A 0 1 2 3 x
 n2:=4
def tAU(T:TD):Tabs:=⟨fun f=>match f with
 |413=>some ((ktS T).spec)
 |414=>some ((mwS T).spec)
 |415=>some ((fuS T).spec)
 |416=>some ((owS T).spec)
 |417=>some ((uwS T).spec)
 |342=>some ((orS (wnS T) (wsS T).spec))
 |_=>none,fun _=>none⟩
def tAD(T:TD)(rn:Nat->Nat)(rc:Nat->Nat->By)(m c nA:Nat)(l0:By):LoopD where
 J:=Nat
 side:=fun k=>k<=m-1
 μ:=fun k=>m-k
 fn:=94
 p:=2
 s:=fun k=>[(0,.sp (cv 9) 0),(2,.ifc 160 (.ptr 0 0)),(9,.ptr 4 0),(10,.fam (fun i=>.lit (.int .i64 ((wd (cnt rn rc m)) i:Nat))) (cnt rn rc m).length),(62,.slc 5 1 (m-1) (.n (c-1))),(63,.lit (.int .i64 (m-1:Nat))),(64,.lit (.int .i64 (k:Nat)))]
 b:=fun k=>e_A 0 1 2 3 (l0++bdyT T.pad (wd (cnt rn rc m)) (cnt rn rc m).length (fc rn rc) k)++[(4,.row [.fam (fun _=>.str []) nA,.slc 5 0 m (.n c),ns] 443 (.n 3)),(5,.fam (fun i=>.fam (fun c=>.by_ (fc rn rc i c)) (cnt rn rc m).length) m [] [] 365 (.n c))]
 n:=6
 ros:=[]
 st:=a_f T
 ways:=[{e:=.exit 0,X:=Unit,c:=fun _=>True,s:=fun _=>[(2,.ifc 160 (.ptr 0 0)),(9,.ptr 4 0)],b:=fun _=>e_A 0 1 2 3 (l0++bdyT T.pad (wd (cnt rn rc m)) (cnt rn rc m).length (fc rn rc) (m-1))++[(4,.row [.fam (fun _=>.str []) nA,.slc 5 0 m (.n c),ns] 443 (.n 3)),(5,.fam (fun i=>.fam (fun c=>.by_ (fc rn rc i c)) (cnt rn rc m).length) m [] [] 365 (.n c))],n:=6}]
def zTS(T:TD):GenS where
 A:=Unit
 st:=a_f T
 dec:=fun args _=>match args with
  |_::_::_:: .sp ⟨2,_,_⟩ 0::_=>some ()
  |_=>none
 dom:=fun _=>T.Ok/\noT T=false
 args1:=fun _=>[.sp (cv 0) 0,d_n 1,.ifc 160 (.ptr 0 0),.sp tbl 0]
 blks1:=fun _=>l_o 0++[(1,c_8)]
 next1:=2
 ros1:=[]
 p1:=2
 X:=By
 G:=fun _ x=>x=tabF T
 val:=fun _=>.lit (.int .i64 1)
 out:=fun x=>e_A 0 1 2 3 x
 n2:=4
def zTU(T:TD):Tabs:=⟨fun f=>match f with
 |49=>some ((ghS T).spec)
 |411=>some ((tAS T).spec)
 |_=>none,fun _=>none⟩
def yDS(T:TD):GenS where
 A:=Unit
 st:=a_f T
 dec:=fun args _=>match args with
  |_::_::_:: .sp ⟨1,_,_⟩ 0::_=>some ()
  |_=>none
 dom:=fun _=>T.Ok
 args1:=fun _=>[.sp (cv 0) 0,d_n 1,.ifc 160 (.ptr 0 0),.sp doc 0]
 blks1:=fun _=>l_o 0++[(1,c_8)]
 next1:=2
 ros1:=[]
 p1:=2
 X:=By
 G:=fun _ x=>x=docF T
 val:=fun _=>.lit (.int .i64 1)
 out:=fun x=>e_A 0 1 2 3 x
 n2:=4
def yDU(T:TD):Tabs:=⟨fun f=>match f with
 |49=>some ((ghS T).spec)
 |59=>some ((o_I (yTS T) (fun _=>noT T) (yTS T).spec (zTS T).spec))
 |_=>none,fun _=>none⟩
def tcS(T:TD):GenS where
 A:=By
 st:=a_f T
 dec:=fun args _=>match args with
  | .by_ l::_=>some l
  |_=>none
 dom:=fun l=>(∀b∈l,b.toNat<128)/\l.length<=a_i
 args1:=fun l=>[.by_ l]
 blks1:=fun _=>[]
 next1:=0
 ros1:=[]
 p1:=0
 X:=By
 G:=fun a x=>x=tcF a
 val:=fun x=>.by_ x
 out:=fun _=>[]
 n2:=0
def tcD(T:TD)(l:By):LoopD where
 J:=Nat×Nat×By
 side:=fun j=>tcI l j.1 j.2.1 j.2.2 []
 μ:=fun j=>l.length-j.1
 fn:=67
 p:=0
 s:=fun j=>[(0,.by_ l),(4,.lit (.int .i64 (j.2.1:Nat))),(6,.lit (.int .i64 (j.1:Nat))),(3,ns),(5,.slc 0 0 j.2.2.length (.u 1 0))]
 b:=fun j=>[(0,.bytes j.2.2 5 (.u 1 1))]
 n:=2
 ros:=[]
 st:=a_f T
 ways:=[{e:=.exit 0,X:=By,c:=fun x=>x=tcF l/\x.length<=l.length,s:=fun x=>[(3,ns),(5,.by_ x)],b:=fun _=>[],n:=0},{e:=.exit 0,X:=By×By,c:=fun x=>x.1++x.2=tcF l/\x.1.length+x.2.length<=l.length,s:=fun x=>[(3,.slc 0 0 x.1.length (.u 1 0)),(5,.by_ x.2)],b:=fun x=>[(0,.bytes x.1 5 (.u 1 1))],n:=2}]
def H_k(T:TD)(l:By):LoopD where
 J:=Nat×Nat×By×By
 side:=fun j=>tcI l j.1 j.2.1 j.2.2.1 j.2.2.2
 μ:=fun j=>l.length-j.1
 fn:=67
 p:=0
 s:=fun j=>[(0,.by_ l),(4,.lit (.int .i64 (j.2.1:Nat))),(6,.lit (.int .i64 (j.1:Nat))),(3,.slc 1 0 j.2.2.2.length (.u 2 0)),(5,.slc 0 0 j.2.2.1.length (.u 3 0))]
 b:=fun j=>[(0,.bytes j.2.2.1 5 (.u 3 1)),(1,.bytes j.2.2.2 5 (.u 2 1))]
 n:=4
 ros:=[]
 st:=a_f T
 ways:=[]
def Q.post(l:By):By:=rpF (rpF (rpF (rpF (tcF (trim l)) [32,32,10,10] [10,10]) [32,32,10,32,32,10] [10,10]) [32,32,10,32,10] [10,10]) [239,128,130] [10]
def vAS(T:TD):GenS where
 A:=Unit
 st:=a_f T
 dec:=fun _ _=>some ()
 dom:=fun _=>T.Ok
 args1:=fun _=>[.sp (cv 0) 0,.sp doc 0,ns]
 blks1:=fun _=>[]
 next1:=0
 ros1:=[]
 p1:=0
 X:=By
 G:=fun _ x=>x=post (docF T)
 val:=fun x=>.tup [.by_ x,.lit .nilIface]
 out:=fun _=>[]
 n2:=0
def vAU(T:TD):Tabs:=⟨fun f=>match f with
 |49=>some ((ghS T).spec)
 |58=>some ((gpS T).spec)
 |61=>some ((goS T).spec)
 |144=>some ((hrS T).spec)
 |194=>some ((hrS T).spec)
 |145=>some ((hrS T).spec)
 |196=>some ((reS T).spec)
 |59=>some ((yDS T).spec)
 |162=>some ((trS T).spec)
 |163=>some ((tcS T).spec)
 |174=>some ((rtS T).spec)
 |256=>some ((rtS T).spec)
 |479=>some ((ueS T).spec)
 |_=>none,fun _=>none⟩
end Tk

