/- Lemmas of this claim; the last text says what is proved. -/
import Derived.Test.YtblencgndjjleaaGreatDoorK15
set_option linter.all false
namespace Tk
open Go Go.Sx Go.Proofs
variable [Syms]
def leD(T:TD):LoopD where
 J:=SId×Bool
 side:=T.SdE
 μ:=T.mu
 fn:=18
 p:=0
 s:=fun j=>[(4,b_S j)]
 b:=fun _=>[]
 n:=0
 ros:=[]
 st:=a_f T
 ways:=[{e:=.exit 0,X:=Unit,c:=fun _=>True,s:=fun _=>[],b:=fun _=>[],n:=0}]
end Tk
namespace Tk
open Go Go.Sx Go.Proofs
open Q
variable [Syms]
def f3S(T:TD):GenS where
 A:=Unit
 st:=a_f T
 dec:=fun args _=>match args with
  | .sp ⟨2,0,0⟩ 0:: .fn (.func 430) _ _::_=>some ()
  |_=>none
 dom:=fun _=>T.Ok
 args1:=fun _=>[.sp tbl 0,.fn (.func 430) [] []]
 blks1:=fun _=>[]
 next1:=0
 ros1:=[]
 p1:=0
 X:=Unit
 G:=fun _ _=>True
 val:=fun _=>np
 out:=fun _=>[]
 n2:=0
def f3D(T:TD):LoopD where
 J:=SId×Bool
 side:=T.SdT
 μ:=T.mu
 fn:=22
 p:=0
 s:=fun j=>[(1,.fn (.func 430) [] []),(5,.fn (.func 330) [] [.ptr 0 0,.ptr 1 0,.ptr 2 0]),(6,b_S j)]
 b:=fun _=>[(0,.row [.fn (.func 320) [] []] 314 (.n 1)),(1,.row [.fn (.func 319) [] []] 314 (.n 1)),(2,.row [.fn (.func 445) [] [.ptr 3 0]] 304 (.n 1)),(3,.row [.sp tbl 0] 75 (.n 1))]
 n:=4
 ros:=[]
 st:=a_f T
 ways:=[{e:=.exit 0,X:=Unit,c:=fun _=>True,s:=fun _=>[],b:=fun _=>[],n:=0}]
def f5S(T:TD):GenS where
 A:=Unit
 st:=a_f T
 dec:=fun args _=>match args with
  | .sp ⟨2,0,0⟩ 0:: .fn (.func 432) _ _::_=>some ()
  |_=>none
 dom:=fun _=>T.Ok
 args1:=fun _=>[.sp tbl 0,.fn (.func 432) [] []]
 blks1:=fun _=>[]
 next1:=0
 ros1:=[]
 p1:=0
 X:=Unit
 G:=fun _ _=>True
 val:=fun _=>np
 out:=fun _=>[]
 n2:=0
def f5D(T:TD):LoopD where
 J:=SId×Bool
 side:=T.SdT
 μ:=T.mu
 fn:=22
 p:=0
 s:=fun j=>[(1,.fn (.func 432) [] []),(5,.fn (.func 330) [] [.ptr 0 0,.ptr 1 0,.ptr 2 0]),(6,b_S j)]
 b:=fun _=>[(0,.row [.fn (.func 320) [] []] 314 (.n 1)),(1,.row [.fn (.func 319) [] []] 314 (.n 1)),(2,.row [.fn (.func 445) [] [.ptr 3 0]] 304 (.n 1)),(3,.row [.sp tbl 0] 75 (.n 1))]
 n:=4
 ros:=[]
 st:=a_f T
 ways:=[{e:=.exit 0,X:=Unit,c:=fun _=>True,s:=fun _=>[],b:=fun _=>[],n:=0}]
def f7S(T:TD):GenS where
 A:=Unit
 st:=a_f T
 dec:=fun args _=>match args with
  | .sp ⟨2,0,0⟩ 0:: .fn (.func 434) _ _::_=>some ()
  |_=>none
 dom:=fun _=>T.Ok/\T.hd=false
 args1:=fun _=>[.sp tbl 0,.fn (.func 434) [] []]
 blks1:=fun _=>[]
 next1:=0
 ros1:=[]
 p1:=0
 X:=Unit
 G:=fun _ _=>True
 val:=fun _=>np
 out:=fun _=>[]
 n2:=0
def f7D(T:TD):LoopD where
 J:=SId×Bool
 side:=T.SdT
 μ:=T.mu
 fn:=22
 p:=0
 s:=fun j=>[(1,.fn (.func 434) [] []),(5,.fn (.func 330) [] [.ptr 0 0,.ptr 1 0,.ptr 2 0]),(6,b_S j)]
 b:=fun _=>[(0,.row [.fn (.func 320) [] []] 314 (.n 1)),(1,.row [.fn (.func 319) [] []] 314 (.n 1)),(2,.row [.fn (.func 445) [] [.ptr 3 0]] 304 (.n 1)),(3,.row [.sp tbl 0] 75 (.n 1))]
 n:=4
 ros:=[]
 st:=a_f T
 ways:=[{e:=.exit 0,X:=Unit,c:=fun _=>True,s:=fun _=>[],b:=fun _=>[],n:=0}]
def f8S(T:TD):GenS where
 A:=Unit
 st:=a_f T
 dec:=fun args _=>match args with
  | .sp ⟨2,0,0⟩ 0:: .fn (.func 434) _ _::_=>some ()
  |_=>none
 dom:=fun _=>T.hd=true
 args1:=fun _=>[.sp tbl 0,.fn (.func 434) [] []]
 blks1:=fun _=>[]
 next1:=0
 ros1:=[]
 p1:=0
 X:=Unit
 G:=fun _ _=>True
 val:=fun _=>tdP 0 0
 out:=fun _=>[]
 n2:=0
def shS(T:TD):GenS where
 A:=Unit
 st:=a_f T
 dec:=fun args _=>match args with
  | .sp ⟨2,0,0⟩ 0::_=>some ()
  |_=>none
 dom:=fun _=>T.Ok
 args1:=fun _=>[.sp tbl 0]
 blks1:=fun _=>[]
 next1:=0
 ros1:=[]
 p1:=0
 X:=Unit
 G:=fun _ _=>True
 val:=fun _=>.ite T.hd (trP 0) np
 out:=fun _=>[]
 n2:=0
def shU(T:TD):Tabs:=⟨fun f=>match f with
 |429=>some ((orS (f3S T) (orS (f5S T) (o_I (f7S T) (fun _=>T.hd) (f8S T).spec (f7S T).spec))))
 |_=>none,fun _=>none⟩
def ntS(T:TD):GenS where
 A:=Nat×Nat
 st:=a_f T
 dec:=fun args _=>match args with
  | .sp ⟨5,i,j⟩ 0::_=>some (i,j)
  |_=>none
 dom:=fun _=>True
 args1:=fun a=>[tdP a.1 a.2,.ptr 1 0,.ptr 2 0,.ptr 0 0]
 blks1:=fun _=>[(0,.row [.fn (.func 435) [] [.ptr 1 0,.ptr 2 0,.ptr 0 0]] 176 (.n 1))]
 next1:=3
 ros1:=[0]
 p1:=1
 X:=Unit
 G:=fun _ _=>True
 val:=fun _=>b_n
 out:=fun _=>[]
 n2:=1
def nuS(T:TD):GenS where
 A:=Unit
 st:=a_f T
 dec:=fun args H=>match args with
  | .sp ⟨4,i,_⟩ 0::_:: .ptr b _::_=>match H.get b with
    |some (.row [.lit (.slice none 0 0)] _ _)=>cond (Nat.beq i 0&&T.hd) (some ()) none
    |_=>none
  |_=>none
 dom:=fun _=>T.hd=true/\0<T.C 0
 args1:=fun _=>[trP 0,.ptr 0 0,.ptr 2 0,.ptr 1 0]
 blks1:=fun _=>[(0,.row [.ite T.hd (trP 0) np] 75 (.n 1)),(1,.row [.fn (.func 435) [] [.ptr 0 0,.ptr 2 0,.ptr 1 0]] 176 (.n 1))]
 next1:=3
 ros1:=[0,1]
 p1:=2
 X:=Unit
 G:=fun _ _=>True
 val:=fun _=>b_n
 out:=fun _=>[]
 n2:=2
def nuU(T:TD):Tabs:=⟨fun f=>match f with
 |435=>some ((ntS T).spec)
 |_=>none,fun _=>none⟩
def nuD(T:TD)(i:Nat):LoopD where
 J:=Nat
 side:=fun k=>k<=T.C i
 μ:=fun k=>T.C i-k
 fn:=33
 p:=2
 s:=fun k=>[(3,.ptr 1 0),(6,.ite (Nat.blt k (T.C i)) (tdP i k) np)]
 b:=fun _=>[(0,.row [.ite T.hd (trP 0) np] 75 (.n 1)),(1,.row [.fn (.func 435) [] [.ptr 0 0,.ptr 2 0,.ptr 1 0]] 176 (.n 1))]
 n:=3
 ros:=[0,1]
 st:=a_f T
 ways:=[{e:=.exit 0,X:=Unit,c:=fun _=>True,s:=fun _=>[],b:=fun _=>[(0,.row [.ite T.hd (trP 0) np] 75 (.n 1)),(1,.row [.fn (.func 435) [] [.ptr 0 0,.ptr 2 0,.ptr 1 0]] 176 (.n 1))],n:=3}]
def nvS(T:TD):GenS where
 A:=Unit
 st:=a_f T
 dec:=fun args H=>match args with
  | .sp ⟨4,_,_⟩ 0::_:: .ptr b _::_=>match H.get b with
    |some (.row [.lit (.slice none 0 0)] _ _)=>some ()
    |_=>none
  |_=>none
 dom:=fun _=>0<T.C (hN T)
 args1:=fun _=>[trP (hN T),.ptr 0 0,.ptr 1 0,.ptr 2 0]
 blks1:=fun _=>[(0,.row [.ite T.hd (trP 0) np] 75 (.n 1)),(1,.row [ns] 349 (.n 1)),(2,.row [.fn (.func 435) [] [.ptr 0 0,.ptr 1 0,.ptr 2 0]] 176 (.n 1))]
 next1:=3
 ros1:=[0,2]
 p1:=3
 X:=Unit
 G:=fun _ _=>True
 val:=fun _=>b_n
 out:=fun _=>[(1,.row [.slc 3 0 1 (.u 4 0)] 349 (.n 1)),(3,.fam (fun q=>trP (q+hN T)) 1 [] [] 75 (.u 4 1))]
 n2:=5
def nvD(T:TD)(i:Nat):LoopD where
 J:=Nat
 side:=fun k=>k<=T.C i
 μ:=fun k=>T.C i-k
 fn:=33
 p:=3
 s:=fun k=>[(3,.ptr 2 0),(6,.ite (Nat.blt k (T.C i)) (tdP i k) np)]
 b:=fun _=>[(0,.row [.ite T.hd (trP 0) np] 75 (.n 1)),(1,.row [.slc 3 0 1 (.u 4 0)] 349 (.n 1)),(2,.row [.fn (.func 435) [] [.ptr 0 0,.ptr 1 0,.ptr 2 0]] 176 (.n 1)),(3,.fam (fun q=>trP (q+hN T)) 1 [] [] 75 (.u 4 1))]
 n:=5
 ros:=[0,2]
 st:=a_f T
 ways:=[{e:=.exit 0,X:=Unit,c:=fun _=>True,s:=fun _=>[],b:=fun _=>[(0,.row [.ite T.hd (trP 0) np] 75 (.n 1)),(1,.row [.slc 3 0 1 (.u 4 0)] 349 (.n 1)),(2,.row [.fn (.func 435) [] [.ptr 0 0,.ptr 1 0,.ptr 2 0]] 176 (.n 1)),(3,.fam (fun q=>trP (q+hN T)) 1 [] [] 75 (.u 4 1))],n:=5}]
def nwS(T:TD):GenS where
 A:=Nat
 st:=a_f T
 dec:=fun args _=>match args with
  | .sp ⟨4,i,_⟩ 0::_=>some (i-hN T)
  |_=>none
 dom:=fun c=>0<c/\c<=13/\0<T.C (c+hN T)
 args1:=fun c=>[trP (c+hN T),.ptr 0 0,.ptr 1 0,.ptr 2 0]
 blks1:=fun c=>[(0,.row [.ite T.hd (trP 0) np] 75 (.n 1)),(1,.row [.slc 3 0 c (.u 4 0)] 349 (.n 1)),(2,.row [.fn (.func 435) [] [.ptr 0 0,.ptr 1 0,.ptr 2 0]] 176 (.n 1)),(3,.fam (fun q=>trP (q+hN T)) c [] [] 75 (.u 4 1))]
 next1:=5
 ros1:=[0,2]
 p1:=3
 X:=Nat
 G:=fun c x=>x=c+1
 val:=fun _=>b_n
 out:=fun x=>[(1,.row [.slc 3 0 x (.u 4 0)] 349 (.n 1)),(3,.fam (fun q=>trP (q+hN T)) x [] [] 75 (.u 4 1))]
 n2:=5
def nwD(T:TD)(i n:Nat):LoopD where
 J:=Nat
 side:=fun k=>k<=T.C i
 μ:=fun k=>T.C i-k
 fn:=33
 p:=3
 s:=fun k=>[(3,.ptr 2 0),(6,.ite (Nat.blt k (T.C i)) (tdP i k) np)]
 b:=fun _=>[(0,.row [.ite T.hd (trP 0) np] 75 (.n 1)),(1,.row [.slc 3 0 n (.u 4 0)] 349 (.n 1)),(2,.row [.fn (.func 435) [] [.ptr 0 0,.ptr 1 0,.ptr 2 0]] 176 (.n 1)),(3,.fam (fun q=>trP (q+hN T)) n [] [] 75 (.u 4 1))]
 n:=5
 ros:=[0,2]
 st:=a_f T
 ways:=[{e:=.exit 0,X:=Unit,c:=fun _=>True,s:=fun _=>[],b:=fun _=>[(0,.row [.ite T.hd (trP 0) np] 75 (.n 1)),(1,.row [.slc 3 0 n (.u 4 0)] 349 (.n 1)),(2,.row [.fn (.func 435) [] [.ptr 0 0,.ptr 1 0,.ptr 2 0]] 176 (.n 1)),(3,.fam (fun q=>trP (q+hN T)) n [] [] 75 (.u 4 1))],n:=5}]
def nyS(T:TD):GenS where
 A:=Unit
 st:=a_f T
 dec:=fun args _=>match args with
  | .sp ⟨3,_,_⟩ 0::_=>some ()
  |_=>none
 dom:=fun _=>T.Ok
 args1:=fun _=>[.sp tbd 0,.ptr 0 0,.ptr 1 0,.ptr 2 0]
 blks1:=fun _=>[(0,.row [.ite T.hd (trP 0) np] 75 (.n 1)),(1,.row [ns] 349 (.n 1)),(2,.row [.fn (.func 435) [] [.ptr 0 0,.ptr 1 0,.ptr 2 0]] 176 (.n 1))]
 next1:=3
 ros1:=[0,2]
 p1:=3
 X:=Unit
 G:=fun _ _=>True
 val:=fun _=>b_n
 out:=fun _=>[(1,.row [.fam (fun q=>trP (q+hN T)) (T.R-hN T)] 349 (.n 1))]
 n2:=3
def nyU(T:TD):Tabs:=⟨fun f=>match f with
 |435=>some ((orS (nuS T) (orS (nvS T) (orS (nwS T) (ntS T).spec))))
 |_=>none,fun _=>none⟩
def nyD(T:TD):LoopD where
 J:=Unit
 side:=fun _=>True
 μ:=fun _=>T.R+2
 fn:=33
 p:=3
 s:=fun _=>[(3,.ptr 2 0),(6,trP 0)]
 b:=fun _=>[(0,.row [.ite T.hd (trP 0) np] 75 (.n 1)),(1,.row [ns] 349 (.n 1)),(2,.row [.fn (.func 435) [] [.ptr 0 0,.ptr 1 0,.ptr 2 0]] 176 (.n 1))]
 n:=3
 ros:=[0,2]
 st:=a_f T
 ways:=[{e:=.exit 0,X:=Unit,c:=fun _=>True,s:=fun _=>[],b:=fun _=>[(0,.row [.ite T.hd (trP 0) np] 75 (.n 1)),(1,.row [.fam (fun q=>trP (q+hN T)) (T.R-hN T)] 349 (.n 1)),(2,.row [.fn (.func 435) [] [.ptr 0 0,.ptr 1 0,.ptr 2 0]] 176 (.n 1))],n:=3}]
def G_5(T:TD):LoopD where
 J:=Unit
 side:=fun _=>T.hd=true
 μ:=fun _=>T.R+1
 fn:=33
 p:=3
 s:=fun _=>[(3,.ptr 2 0),(6,.ite (Nat.blt 1 T.R) (trP 1) np)]
 b:=fun _=>[(0,.row [.ite T.hd (trP 0) np] 75 (.n 1)),(1,.row [ns] 349 (.n 1)),(2,.row [.fn (.func 435) [] [.ptr 0 0,.ptr 1 0,.ptr 2 0]] 176 (.n 1))]
 n:=3
 ros:=[0,2]
 st:=a_f T
 ways:=[]
def G_6(T:TD):LoopD where
 J:=Nat
 side:=fun c=>0<c/\c+hN T<=T.R
 μ:=fun c=>T.R-c
 fn:=33
 p:=3
 s:=fun c=>[(3,.ptr 2 0),(6,.ite (Nat.blt (c+hN T) T.R) (trP (c+hN T)) np)]
 b:=fun c=>[(0,.row [.ite T.hd (trP 0) np] 75 (.n 1)),(1,.row [.slc 3 0 c (.u 4 0)] 349 (.n 1)),(2,.row [.fn (.func 435) [] [.ptr 0 0,.ptr 1 0,.ptr 2 0]] 176 (.n 1)),(3,.fam (fun q=>trP (q+hN T)) c [] [] 75 (.u 4 1))]
 n:=5
 ros:=[0,2]
 st:=a_f T
 ways:=[]
def G_7(T:TD):List LoopD:=[nyD T,G_5 T,G_6 T]
def nzS(T:TD):GenS where
 A:=Unit
 st:=a_f T
 dec:=fun args _=>match args with
  | .sp ⟨2,_,_⟩ 0::_=>some ()
  |_=>none
 dom:=fun _=>T.Ok
 args1:=fun _=>[.sp tbl 0,.ptr 0 0,.ptr 1 0,.ptr 2 0]
 blks1:=fun _=>[(0,.row [.ite T.hd (trP 0) np] 75 (.n 1)),(1,.row [ns] 349 (.n 1)),(2,.row [.fn (.func 435) [] [.ptr 0 0,.ptr 1 0,.ptr 2 0]] 176 (.n 1))]
 next1:=3
 ros1:=[0,2]
 p1:=3
 X:=Unit
 G:=fun _ _=>True
 val:=fun _=>b_n
 out:=fun _=>[(1,.row [.fam (fun q=>trP (q+hN T)) (T.R-hN T)] 349 (.n 1))]
 n2:=3
def nzU(T:TD):Tabs:=⟨fun f=>match f with
 |435=>some ((nyS T).spec)
 |_=>none,fun _=>none⟩
def nrS(T:TD):GenS where
 A:=Unit
 st:=a_f T
 dec:=fun args _=>match args with
  | .sp ⟨2,_,_⟩ 0::_=>some ()
  |_=>none
 dom:=fun _=>T.Ok
 args1:=fun _=>[.sp tbl 0,.ite T.hd (trP 0) np]
 blks1:=fun _=>[]
 next1:=0
 ros1:=[]
 p1:=0
 X:=Unit
 G:=fun _ _=>True
 val:=fun _=>.fam (fun q=>trP (q+hN T)) (T.R-hN T)
 out:=fun _=>[]
 n2:=0
def nrU(T:TD):Tabs:=⟨fun f=>match f with
 |435=>some ((nzS T).spec)
 |_=>none,fun _=>none⟩
def faS(T:TD):GenS where
 A:=Nat
 st:=a_f T
 dec:=fun args _=>match args with
  | .sp ⟨4,i,0⟩ 0::_=>some i
  |_=>none
 dom:=fun i=>i<T.R/\0<T.C i/\T.C i<=12
 args1:=fun i=>[.sp (tr i) 0,.fn (.func 446) [] []]
 blks1:=fun _=>[]
 next1:=0
 ros1:=[]
 p1:=0
 X:=Nat
 G:=fun a x=>x=a
 val:=fun i=>.fam (fun q=>tdP i q) (T.C i)
 out:=fun _=>[]
 n2:=0
def faD(T:TD)(i:Nat):LoopD where
 J:=Unit
 side:=fun _=>True
 μ:=fun _=>2*T.C i
 fn:=26
 p:=0
 s:=fun _=>[(1,.fn (.func 446) [] []),(5,.fn (.func 330) [] [.ptr 0 0,.ptr 1 0,.ptr 2 0]),(6,tdP i 0),(4,ns)]
 b:=fun _=>[(0,.row [.fn (.func 320) [] []] 314 (.n 1)),(1,.row [.fn (.func 319) [] []] 314 (.n 1)),(2,.row [.fn (.func 456) [] [.ptr 3 0]] 304 (.n 1)),(3,.row [.sp (tr i) 0] 75 (.n 1))]
 n:=4
 ros:=[]
 st:=a_f T
 ways:=[{e:=.exit 0,X:=Unit,c:=fun _=>True,s:=fun _=>[(4,.fam (fun q=>tdP i q) (T.C i))],b:=fun _=>[],n:=0}]
def G_8(T:TD)(i:Nat):LoopD where
 J:=Nat
 side:=fun j=>0<j/\j<T.C i
 μ:=fun j=>2*(T.C i-j)
 fn:=26
 p:=0
 s:=fun j=>[(1,.fn (.func 446) [] []),(5,.fn (.func 330) [] [.ptr 0 0,.ptr 1 0,.ptr 2 0]),(6,tdP i j),(4,.slc 4 0 j (.u 5 0))]
 b:=fun j=>[(0,.row [.fn (.func 320) [] []] 314 (.n 1)),(1,.row [.fn (.func 319) [] []] 314 (.n 1)),(2,.row [.fn (.func 456) [] [.ptr 3 0]] 304 (.n 1)),(3,.row [.sp (tr i) 0] 75 (.n 1)),(4,.fam (fun q=>tdP i q) j [] [] 75 (.u 5 1))]
 n:=6
 ros:=[]
 st:=a_f T
 ways:=[]
def G_9(T:TD)(i:Nat):LoopD where
 J:=Nat
 side:=fun j=>j<T.C i
 μ:=fun j=>2*(T.C i-j)-1
 fn:=26
 p:=0
 s:=fun j=>[(1,.fn (.func 446) [] []),(5,.fn (.func 330) [] [.ptr 0 0,.ptr 1 0,.ptr 2 0]),(6,txP i j),(4,.slc 4 0 (j+1) (.u 5 0))]
 b:=fun j=>[(0,.row [.fn (.func 320) [] []] 314 (.n 1)),(1,.row [.fn (.func 319) [] []] 314 (.n 1)),(2,.row [.fn (.func 456) [] [.ptr 3 0]] 304 (.n 1)),(3,.row [.sp (tr i) 0] 75 (.n 1)),(4,.fam (fun q=>tdP i q) (j+1) [] [] 75 (.u 5 1))]
 n:=6
 ros:=[]
 st:=a_f T
 ways:=[]
def H_a(T:TD)(i:Nat):LoopD where
 J:=Unit
 side:=fun _=>True
 μ:=fun _=>0
 fn:=26
 p:=0
 s:=fun _=>[(1,.fn (.func 446) [] []),(5,.fn (.func 330) [] [.ptr 0 0,.ptr 1 0,.ptr 2 0]),(6,np),(4,.slc 4 0 (T.C i) (.u 5 0))]
 b:=fun _=>[(0,.row [.fn (.func 320) [] []] 314 (.n 1)),(1,.row [.fn (.func 319) [] []] 314 (.n 1)),(2,.row [.fn (.func 456) [] [.ptr 3 0]] 304 (.n 1)),(3,.row [.sp (tr i) 0] 75 (.n 1)),(4,.fam (fun q=>tdP i q) (T.C i) [] [] 75 (.u 5 1))]
 n:=6
 ros:=[]
 st:=a_f T
 ways:=[]
def H_b(T:TD)(i:Nat):List LoopD:=[faD T i,G_8 T i,G_9 T i,H_a T i]
def gtS(T:TD):GenS where
 A:=Unit
 st:=a_f T
 dec:=fun _ _=>some ()
 dom:=fun _=>True
 args1:=fun _=>[.sp (cv 0) 0]
 blks1:=fun _=>[]
 next1:=0
 ros1:=[]
 p1:=0
 X:=Unit
 G:=fun _ _=>True
 val:=fun _=>.slc 0 0 2 (.n 2)
 out:=fun _=>[(0,.row [.fn (.func 147) [.sp (cv 10) 0] [],pr 500,.fn (.func 190) [.agg cmR] [],pr 1000] 223 (.n 4))]
 n2:=1
def zeS(T:TD):GenS where
 A:=By
 st:=a_f T
 dec:=fun args _=>match args with
  | .str l::_=>some l
  |_=>none
 dom:=fun l=>(∀b∈l,b.toNat≠60/\b.toNat≠62)/\l.length<=a_i
 args1:=fun l=>[.str l]
 blks1:=fun _=>[]
 next1:=0
 ros1:=[]
 p1:=0
 X:=By
 G:=fun a x=>x=a
 val:=fun x=>.str x
 out:=fun _=>[]
 n2:=0
def zeD(T:TD)(l:By):LoopD where
 J:=Nat
 side:=fun i=>i<=l.length
 μ:=fun i=>l.length-i
 fn:=33
 p:=0
 s:=fun i=>[(0,.str l),(3,.slc 0 0 i (.u 1 0)),(4,.lit (.int .i64 (i:Nat)))]
 b:=fun i=>[(0,.bytes (l.take i) 5 (.u 1 1))]
 n:=2
 ros:=[]
 st:=a_f T
 ways:=[{e:=.exit 0,X:=Unit,c:=fun _=>True,s:=fun _=>[(3,.by_ l)],b:=fun _=>[],n:=0}]
def drS(T:TD):GenS where
 A:=By×UInt8
 st:=a_f T
 dec:=fun args _=>match args with
  | .by_ l::_=>some (l,l.getD 0 0)
  |_=>none
 dom:=fun a=>0<a.1.length/\a.2=a.1.getD 0 0/\a.2.toNat<128/\a.1.length<=a_i
 args1:=fun a=>[.by_ a.1]
 blks1:=fun _=>[]
 next1:=0
 ros1:=[]
 p1:=0
 X:=UInt8
 G:=fun a x=>x=a.2
 val:=fun x=>.tup [.lit (.int .i32 x.toNat),.lit (.int .i64 1)]
 out:=fun _=>[]
 n2:=0
def drU(T:TD):Tabs:=⟨fun f=>match f with
 |183=>some (noS)
 |_=>none,fun _=>none⟩
def esS(T:TD):GenS where
 A:=By
 st:=a_f T
 dec:=fun args H=>match args with
  |_:: .by_ l::_=>some l
  |_:: .slc k 0 _ _::_=>match H.get k with
   |some (.bytes l _ _)=>some l
   |_=>none
  |_=>none
 dom:=fun l=>WT l/\l.length<=a_i
 args1:=fun l=>[.sp (cv 0) 0,.by_ l]
 blks1:=fun _=>[]
 next1:=0
 ros1:=[]
 p1:=0
 X:=By
 G:=fun a x=>x=a
 val:=fun x=>.by_ x
 out:=fun _=>[]
 n2:=0
def esU(T:TD):Tabs:=⟨fun f=>match f with
 |173=>some ((drS T).spec)
 |_=>none,fun _=>none⟩
def esD(T:TD)(l:By):LoopD where
 J:=Nat
 side:=fun i=>i<=l.length
 μ:=fun i=>l.length-i
 fn:=60
 p:=0
 s:=fun i=>[(0,.sp (cv 0) 0),(1,.by_ l),(5,.slc 0 0 i (.u 1 0)),(6,.lit (.int .i64 (i:Nat)))]
 b:=fun i=>[(0,.bytes (l.take i) 5 (.u 1 1))]
 n:=2
 ros:=[]
 st:=a_f T
 ways:=[{e:=.exit 0,X:=Unit,c:=fun _=>True,s:=fun _=>[(5,.by_ l)],b:=fun _=>[],n:=0}]
def wnS(T:TD):GenS where
 A:=By
 st:=a_f T
 dec:=fun args H=>match args with
  | .ptr b 0:: .str p::_=>match H.get b with
    |some (.row (.lit (.slice none 0 0)::_) _ _)=>some p
    |_=>none
  |_=>none
 dom:=fun p=>0<p.length/\p.length<=a_i
 args1:=fun p=>[.ptr 0 0,.str p]
 blks1:=fun _=>l_o 0
 next1:=1
 ros1:=[]
 p1:=1
 X:=By
 G:=fun a x=>x=a
 val:=fun _=>.top
 out:=fun x=>f_W 0 1 2 x
 n2:=3
def wnU(T:TD):Tabs:=⟨fun _=>none,fun f=>match f with
 |385=>some (m_t)
 |_=>none⟩
def xtS(T:TD):GenS where
 A:=Nat×Nat
 st:=a_f T
 dec:=fun args _=>match args with
  |_::_::_:: .sp ⟨6,i,j⟩ 0::_=>some (i,j)
  |_=>none
 dom:=fun a=>WT (T.tx a.1 a.2)/\0<(T.tx a.1 a.2).length/\(T.tx a.1 a.2).length<=2147483647
 args1:=fun a=>[.sp (cv 0) 0,d_n 1,.ifc 160 (.ptr 0 0),.sp (tx a.1 a.2) 0]
 blks1:=fun _=>l_o 0++[(1,c_8)]
 next1:=2
 ros1:=[]
 p1:=2
 X:=By
 G:=fun a x=>x=T.tx a.1 a.2
 val:=fun _=>.lit (.int .i64 1)
 out:=fun x=>e_A 0 1 2 3 x
 n2:=4
def xtU(T:TD):Tabs:=⟨fun f=>match f with
 |88=>some ((gtS T).spec)
 |160=>some ((zeS T).spec)
 |476=>some ((esS T).spec)
 |342=>some ((wnS T).spec)
 |_=>none,fun _=>none⟩
def xdS(T:TD):GenS where
 A:=Nat×Nat
 st:=a_f T
 dec:=fun args _=>match args with
  |_::_::_:: .sp ⟨5,i,j⟩ 0::_=>some (i,j)
  |_=>none
 dom:=fun a=>T.hasT a.1 a.2=true/\WT (T.tx a.1 a.2)/\0<(T.tx a.1 a.2).length/\(T.tx a.1 a.2).length<=2147483647
 args1:=fun a=>[.sp (cv 0) 0,d_n 1,.ifc 160 (.ptr 0 0),.sp (td a.1 a.2) 0]
 blks1:=fun _=>l_o 0++[(1,c_8)]
 next1:=2
 ros1:=[]
 p1:=2
 X:=By
 G:=fun a x=>x=T.tx a.1 a.2
 val:=fun _=>.lit (.int .i64 1)
 out:=fun x=>e_A 0 1 2 3 x
 n2:=4
def xdU(T:TD):Tabs:=⟨fun f=>match f with
 |49=>some ((ghS T).spec)
 |81=>some ((xtS T).spec)
 |_=>none,fun _=>none⟩
def xeS(T:TD):GenS where
 A:=Nat×Nat
 st:=a_f T
 dec:=fun args _=>match args with
  |_::_::_:: .sp ⟨5,i,j⟩ 0::_=>some (i,j)
  |_=>none
 dom:=fun a=>T.hasT a.1 a.2=false
 args1:=fun a=>[.sp (cv 0) 0,d_n 1,.ifc 160 (.ptr 0 0),.sp (td a.1 a.2) 0]
 blks1:=fun _=>l_o 0++[(1,c_8)]
 next1:=2
 ros1:=[]
 p1:=2
 X:=Unit
 G:=fun _ _=>True
 val:=fun _=>.lit (.int .i64 1)
 out:=fun _=>l_o 0++[(1,c_8)]
 n2:=2
def xeU(T:TD):Tabs:=⟨fun f=>match f with
 |49=>some ((ghS T).spec)
 |_=>none,fun _=>none⟩
def trS(T:TD):GenS where
 A:=By
 st:=a_f T
 dec:=fun args H=>match args with
  | .by_ l::_=>some l
  | .lit (.slice none 0 0)::_=>some []
  | .slc k 0 _ _::_=>match H.get k with
    |some (.bytes l _ _)=>some l
    |_=>none
  |_=>none
 dom:=fun l=>(∀b∈l,b.toNat<128)/\l.length<=a_i/\T.Ok
 args1:=fun l=>[.by_ l]
 blks1:=fun _=>[]
 next1:=0
 ros1:=[]
 p1:=0
 X:=By
 G:=fun a x=>x=trim a
 val:=fun x=>.by_ x
 out:=fun _=>[]
 n2:=0
def trU(T:TD):Tabs:=⟨fun f=>match f with
 |172=>some (noS)
 |_=>none,fun _=>none⟩
def trD(T:TD)(l:By):LoopD where
 J:=Nat
 side:=fun i=>trK l i
 μ:=fun i=>l.length-i
 fn:=54
 p:=0
 s:=fun i=>[(0,.by_ l),(7,.by_ l),(8,.lit (.int .i64 (l.length:Nat))),(9,.lit (.int .i64 (i:Nat)))]
 b:=fun _=>[]
 n:=0
 ros:=[]
 st:=a_f T
 ways:=[{e:=.exit 0,X:=Unit,c:=fun _=>trim l=[],s:=fun _=>[],b:=fun _=>[],n:=0},{e:=.ret,X:=By,c:=fun x=>x=trim l,s:=fun x=>[(2,.by_ x)],b:=fun _=>[],n:=0}]
def trI(T:TD)(m:By):LoopD where
 J:=Nat
 side:=fun k=>trJ m k
 μ:=fun k=>k
 fn:=54
 p:=0
 s:=fun k=>[(0,.by_ m),(5,.lit (.int .i64 ((k:Int)-1)))]
 b:=fun _=>[]
 n:=0
 ros:=[]
 st:=a_f T
 ways:=[{e:=.ret,X:=By,c:=fun x=>x=trim m,s:=fun x=>[(2,.by_ x)],b:=fun _=>[],n:=0},{e:=.exit 2,X:=Unit,c:=fun _=>False,s:=fun _=>[],b:=fun _=>[],n:=0}]
def rtS(T:TD):GenS where
 A:=By×By×UInt8×By
 st:=a_f T
 dec:=fun args _=>match args with
  | .by_ l:: .str old:: .str (c::r)::_=>some (l,old,c,r)
  |_=>none
 dom:=fun a=>0<a.2.1.length/\a.1.length<=a_i/\a.2.1.length<=a_i/\(a.2.2.1::a.2.2.2).length<=a.2.1.length
 args1:=fun a=>[.by_ a.1,.str a.2.1,.str (a.2.2.1::a.2.2.2)]
 blks1:=fun _=>[]
 next1:=0
 ros1:=[]
 p1:=0
 X:=By
 G:=fun a x=>x=rpF a.1 a.2.1 (a.2.2.1::a.2.2.2)
 val:=fun x=>.by_ x
 out:=fun _=>[]
 n2:=0
def rtD(T:TD)(l old:By)(c:UInt8)(r:By):LoopD where
 J:=Unit
 side:=fun _=>True
 μ:=fun _=>l.length+1
 fn:=49
 p:=0
 s:=fun _=>[(0,.by_ l),(1,.str old),(2,.str (c::r)),(7,ns),(8,.lit (.int .i64 (0:Nat)))]
 b:=fun _=>[]
 n:=0
 ros:=[]
 st:=a_f T
 ways:=[{e:=.exit 0,X:=Unit,c:=fun _=>True,s:=fun _=>[(7,.by_ (rpF l old (c::r)))],b:=fun _=>[],n:=0}]
def z_o(T:TD)(l old:By)(c:UInt8)(r:By):LoopD where
 J:=Nat×By
 side:=fun j=>rpI l old (c::r) j.1 j.2
 μ:=fun j=>l.length-j.1
 fn:=49
 p:=0
 s:=fun j=>[(0,.by_ l),(1,.str old),(2,.str (c::r)),(7,.slc 0 0 j.2.length (.u 1 0)),(8,.lit (.int .i64 (j.1:Nat)))]
 b:=fun j=>[(0,.bytes j.2 5 (.u 1 1))]
 n:=2
 ros:=[]
 st:=a_f T
 ways:=[]
def ueS(T:TD):GenS where
 A:=By
 st:=a_f T
 dec:=fun args H=>match args with
  |_:: .by_ l::_=>some l
  |_:: .slc k 0 _ _::_=>match H.get k with
   |some (.bytes l _ _)=>some l
   |_=>none
  |_=>none
 dom:=fun l=>(∀b∈l,b.toNat≠7)/\l.length<=a_i
 args1:=fun l=>[.sp (cv 0) 0,.by_ l]
 blks1:=fun _=>[]
 next1:=0
 ros1:=[]
 p1:=0
 X:=By
 G:=fun a x=>x=a
 val:=fun x=>.by_ x
 out:=fun _=>[]
 n2:=0
def ueU(T:TD):Tabs:=⟨fun f=>match f with
 |483=>some (noS)
 |_=>none,fun _=>none⟩
def ueD(T:TD)(l:By):LoopD where
 J:=Nat
 side:=fun i=>i<=l.length
 μ:=fun i=>l.length-i
 fn:=77
 p:=0
 s:=fun i=>[(3,.ptr 0 0),(7,.lit (.int .i64 (i:Nat)))]
 b:=fun i=>[(0,.row [.by_ l] 70 (.n 1))]
 n:=1
 ros:=[]
 st:=a_f T
 ways:=[{e:=.exit 0,X:=Unit,c:=fun _=>True,s:=fun _=>[(3,.ptr 0 0)],b:=fun _=>[(0,.row [.by_ l] 70 (.n 1))],n:=1}]
def ueE(T:TD)(l:By):LoopD where
 J:=Nat
 side:=fun i=>i<=l.length
 μ:=fun i=>l.length-i
 fn:=77
 p:=0
 s:=fun i=>[(54,.by_ l),(55,.lit (.int .i64 (l.length:Nat))),(56,.lit (.int .i64 (i:Nat))),(9,.slc 0 0 i (.u 1 0))]
 b:=fun i=>[(0,.bytes (l.take i) 5 (.u 1 1))]
 n:=2
 ros:=[]
 st:=a_f T
 ways:=[{e:=.exit 2,X:=Unit,c:=fun _=>True,s:=fun _=>[(9,.by_ l)],b:=fun _=>[],n:=0}]
def ccS(T:TD):GenS where
 A:=Nat
 st:=a_f T
 dec:=fun args _=>match args with
  |_::_::_:: .sp ⟨4,i,0⟩ 0::_=>some i
  |_=>none
 dom:=fun i=>i<T.R/\T.Ok
 args1:=fun i=>[.sp (cv 9) 0,d_n 0,.top,.sp (tr i) 0]
 blks1:=fun _=>[(0,c_8)]
 next1:=1
 ros1:=[]
 p1:=1
 X:=Nat
 G:=fun a x=>x=a
 val:=fun i=>.tup [.famx (fun q=>.by_ (ct T i q)) (T.C i),.e0]
 out:=fun _=>[(0,c_8)]
 n2:=1
def ccU(T:TD):Tabs:=⟨fun f=>match f with
 |442=>some ((faS T).spec)
 |59=>some ((o_I (xdS T) (fun a=>T.hasT a.1 a.2) (xdS T).spec (xeS T).spec))
 |162=>some ((trS T).spec)
 |424=>some ((rtS T).spec)
 |479=>some ((ueS T).spec)
 |_=>none,fun _=>none⟩
def ccD(T:TD)(i:Nat):LoopD where
 J:=Nat
 side:=fun j=>j<=T.C i
 μ:=fun j=>T.C i-j
 fn:=69
 p:=1
 s:=fun j=>[(0,.sp (cv 9) 0),(1,d_n 0),(2,.top),(26,.fam (fun q=>tdP i q) (T.C i)),(27,.lit (.int .i64 (T.C i:Nat))),(28,.lit (.int .i64 (j:Nat))),(11,.slc 1 0 j (.n (T.C i))),(12,.e0)]
 b:=fun j=>[(0,c_8),(1,.fam (fun q=>.by_ (ct T i q)) j [] [] 70 (.n (T.C i)))]
 n:=2
 ros:=[]
 st:=a_f T
 ways:=[{e:=.exit 0,X:=Unit,c:=fun _=>True,s:=fun _=>[(11,.famx (fun q=>.by_ (ct T i q)) (T.C i)),(12,.e0)],b:=fun _=>[(0,c_8)],n:=1}]
def rvS(T:TD):GenS where
 A:=Nat
 st:=a_f T
 dec:=fun args _=>match args with
  | .slc _ _ n _::_=>some n
  |_=>none
 dom:=fun n=>n<=100
 args1:=fun n=>[.slc 0 0 n (.u 1 0)]
 blks1:=fun n=>[(0,.fam (fun _=>.e0) n [] [] 455 (.u 1 1))]
 next1:=2
 ros1:=[]
 p1:=1
 X:=Nat
 G:=fun a x=>x=a
 val:=fun _=>b_n
 out:=fun n=>[(0,.fam (fun _=>.e0) n [] [] 455 (.u 1 1))]
 n2:=2
def rvD(T:TD)(n:Nat):LoopD where
 J:=Nat×Nat
 side:=fun j=>j.1<=n/\j.2<=n
 μ:=fun j=>n+1+j.2-j.1
 fn:=28
 p:=1
 s:=fun j=>[(0,.slc 0 0 n (.u 1 0)),(2,.lit (.int .i64 (j.1:Nat))),(3,.lit (.int .i64 ((j.2:Int)-1)))]
 b:=fun _=>[(0,.fam (fun _=>.e0) n [] [] 455 (.u 1 1))]
 n:=2
 ros:=[]
 st:=a_f T
 ways:=[{e:=.exit 0,X:=Unit,c:=fun _=>True,s:=fun _=>[],b:=fun _=>[(0,.fam (fun _=>.e0) n [] [] 455 (.u 1 1))],n:=2}]
def gmS(T:TD):GenS where
 A:=(Nat->AVal)×Nat×Nat×Nat
 st:=a_f T
 dec:=fun args H=>match args with
  | .slc b _ n (.n c):: .slc _ _ m _::_=>match H.get b with
    |some (.fam f _ _ _ _ _)=>some (f,n,m,c)
    |_=>none
  |_=>none
 dom:=fun a=>(∀i,SubA 0 (a.1 i) (a.1 i))/\a.2.2.1<=100/\a.2.1<=a.2.2.2
 args1:=fun a=>[.slc 0 0 a.2.1 (.n a.2.2.2),.slc 1 0 a.2.2.1 (.u 2 0)]
 blks1:=fun a=>[(0,.fam a.1 a.2.1 [] [] 365 (.n a.2.2.2)),(1,.fam (fun _=>.e0) a.2.2.1 [] [] 455 (.u 2 1))]
 next1:=3
 ros1:=[]
 p1:=1
 X:=(Nat->AVal)×Nat×Nat×Nat
 G:=fun a x=>x=a
 val:=fun x=>.slc 0 0 x.2.1 (.n x.2.2.2)
 out:=fun a=>[(0,.fam a.1 a.2.1 [] [] 365 (.n a.2.2.2))]
 n2:=1
def gmU(T:TD):Tabs:=⟨fun f=>match f with
 |450=>some ((rvS T).spec)
 |_=>none,fun _=>none⟩
def gmD(T:TD)(f:Nat->AVal)(n m c:Nat):LoopD where
 J:=Nat
 side:=fun k=>k<=m
 μ:=fun k=>m-k
 fn:=20
 p:=1
 s:=fun k=>[(0,.slc 0 0 n (.n c)),(9,.slc 1 0 m (.u 2 0)),(10,.lit (.int .i64 (m:Nat))),(11,.lit (.int .i64 (k:Nat)))]
 b:=fun k=>[(0,.fam f n [] [] 365 (.n c)),(1,.fam (fun _=>.e0) m [] [] 455 (.u 3 1))]
 n:=4
 ros:=[]
 st:=a_f T
 ways:=[{e:=.exit 0,X:=Unit,c:=fun _=>True,s:=fun _=>[(0,.slc 0 0 n (.n c))],b:=fun _=>[(0,.fam f n [] [] 365 (.n c))],n:=1}]
def ieS(T:TD):GenS where
 A:=(Nat->By)×Nat
 st:=a_f T
 dec:=fun args _=>match args with
  | .famx f n::_=>some (fun c=>h_P (f c),n)
  |_=>none
 dom:=fun a=>a.2<=1000
 args1:=fun a=>[.famx (fun c=>.by_ (a.1 c)) a.2]
 blks1:=fun _=>[]
 next1:=0
 ros1:=[]
 p1:=0
 X:=Bool
 G:=fun a x=>x=rowE a.1 a.2
 val:=fun x=>.lit (.bool x)
 out:=fun _=>[]
 n2:=0
def ieD(T:TD)(g:Nat->By)(n:Nat):LoopD where
 J:=Nat
 side:=fun k=>k<=n/\rowI g k
 μ:=fun k=>n-k
 fn:=15
 p:=0
 s:=fun k=>[(5,.famx (fun c=>.by_ (g c)) n),(6,.lit (.int .i64 (n:Nat))),(7,.lit (.int .i64 (k:Nat)))]
 b:=fun _=>[]
 n:=0
 ros:=[]
 st:=a_f T
 ways:=[{e:=.exit 0,X:=Unit,c:=fun _=>rowE g n=true,s:=fun _=>[],b:=fun _=>[],n:=0},{e:=.ret,X:=Unit,c:=fun _=>rowE g n=false,s:=fun _=>[(2,.lit (.bool false))],b:=fun _=>[],n:=0}]
def xfS(T:TD):GenS where
 A:=(Nat->Nat)×(Nat->Nat->By)×Nat×Nat
 st:=a_f T
 dec:=fun args H=>match args with
  | .slc b _ n (.n c)::_=>match H.get b with
    |some (.fam f _ _ _ _ _)=>some (rowsN f,rowsC f,n,c)
    |_=>none
  |_=>none
 dom:=fun a=>(∀q,a.1 q<=1000)/\1<=a.2.2.1/\a.2.2.1<=100/\a.2.2.1<=a.2.2.2
 args1:=fun a=>[.slc 0 0 a.2.2.1 (.n a.2.2.2),.fn (.func 453) [] [.ptr 1 0]]
 blks1:=fun a=>[(0,.fam (fun q=>.famx (fun k=>.by_ (a.2.1 q k)) (a.1 q)) a.2.2.1 [] [] 365 (.n a.2.2.2)),(1,.row [.lit (.int .i64 (0:Nat))] 3 (.n 1))]
 next1:=2
 ros1:=[0]
 p1:=2
 X:=Nat×Nat×Bool
 G:=fun a x=>x.1=fS (eR a.1 a.2.1) a.2.2.1/\(x.2.2=true->x.2.1=x.1+1)/\x.2.2=Nat.blt x.1 a.2.2.1
 val:=fun x=>.ite x.2.2 (.lit (.int .i64 (x.1:Nat))) (.lit (.int .i64 (-1)))
 out:=fun x=>[(1,.row [.lit (.int .i64 (x.2.1:Nat))] 3 (.n 1))]
 n2:=2
def xfU(T:TD):Tabs:=⟨fun f=>match f with
 |454=>some ((ieS T).spec)
 |_=>none,fun _=>none⟩
def xfD(T:TD)(rn:Nat->Nat)(rc:Nat->Nat->By)(n c:Nat):LoopD where
 J:=Nat
 side:=fun k=>k<=n/\fI (eR rn rc) k
 μ:=fun k=>n-k
 fn:=19
 p:=2
 s:=fun k=>[(0,.slc 0 0 n (.n c)),(1,.fn (.func 453) [] [.ptr 1 0]),(7,.lit (.int .i64 (n:Nat))),(8,.lit (.int .i64 (k:Nat)))]
 b:=fun k=>[(0,.fam (fun q=>.famx (fun k=>.by_ (rc q k)) (rn q)) n [] [] 365 (.n c)),(1,.row [.lit (.int .i64 (k:Nat))] 3 (.n 1))]
 n:=2
 ros:=[0]
 st:=a_f T
 ways:=[{e:=.exit 0,X:=Unit,c:=fun _=>fS (eR rn rc) n=n,s:=fun _=>[],b:=fun _=>[(0,.fam (fun q=>.famx (fun k=>.by_ (rc q k)) (rn q)) n [] [] 365 (.n c)),(1,.row [.lit (.int .i64 (n:Nat))] 3 (.n 1))],n:=2},{e:=.ret,X:=Nat×Nat,c:=fun x=>x.1=fS (eR rn rc) n/\x.1<n/\x.2=x.1+1,s:=fun x=>[(4,.lit (.int .i64 (x.1:Nat)))],b:=fun x=>[(0,.fam (fun q=>.famx (fun k=>.by_ (rc q k)) (rn q)) n [] [] 365 (.n c)),(1,.row [.lit (.int .i64 (x.2:Nat))] 3 (.n 1))],n:=2}]
def dfS(T:TD):GenS where
 A:=(Nat->Nat)×(Nat->Nat->By)×Nat×Nat
 st:=a_f T
 dec:=fun args H=>match args with
  | .slc b _ n (.n c)::_=>match H.get b with
    |some (.fam f _ _ _ _ _)=>some (rowsN f,rowsC f,n,c)
    |_=>none
  |_=>none
 dom:=fun a=>(∀q,a.1 q<=1000)/\1<=a.2.2.1/\a.2.2.1<=100/\a.2.2.1<=a.2.2.2
 args1:=fun a=>[.slc 0 0 a.2.2.1 (.n a.2.2.2),.fn (.func 453) [] [.ptr 1 0]]
 blks1:=fun a=>[(0,.fam (fun q=>.famx (fun k=>.by_ (a.2.1 q k)) (a.1 q)) a.2.2.1 [] [] 365 (.n a.2.2.2)),(1,.row [.lit (.int .i64 (0:Nat))] 3 (.n 1))]
 next1:=2
 ros1:=[]
 p1:=1
 X:=(Nat->Nat)×(Nat->Nat->By)×Nat×Nat
 G:=fun a x=>x=(fun q=>a.1 (at0 (kp (eR a.1 a.2.1) a.2.2.1) q),fun q=>a.2.1 (at0 (kp (eR a.1 a.2.1) a.2.2.1) q),(kp (eR a.1 a.2.1) a.2.2.1).length,a.2.2.2)
 val:=fun x=>.slc 0 0 x.2.2.1 (.n x.2.2.2)
 out:=fun x=>[(0,.fam (fun q=>.famx (fun k=>.by_ (x.2.1 q k)) (x.1 q)) x.2.2.1 [] [] 365 (.n x.2.2.2))]
 n2:=1
def dfU(T:TD):Tabs:=⟨fun f=>match f with
 |454=>some ((ieS T).spec)
 |461=>some ((xfS T).spec)
 |_=>none,fun _=>none⟩
def dfD(T:TD)(rn:Nat->Nat)(rc:Nat->Nat->By)(n c:Nat):LoopD where
 J:=Nat×Nat×List Nat
 side:=fun j=>dI (eR rn rc) n j.1 j.2.1 j.2.2
 μ:=fun j=>n-j.2.1
 fn:=42
 p:=1
 s:=fun j=>[(0,.slc 0 0 n (.n c)),(1,.fn (.func 453) [] [.ptr 1 0]),(5,.lit (.int .i64 (j.1:Nat))),(6,.lit (.int .i64 (j.2.1:Nat)))]
 b:=fun j=>[(0,.fam (fun q=>.famx (fun k=>.by_ (rc (at0 j.2.2 q) k)) (rn (at0 j.2.2 q))) n [] [] 365 (.n c)),(1,.row [.lit (.int .i64 (j.2.1:Nat))] 3 (.n 1))]
 n:=2
 ros:=[]
 st:=a_f T
 ways:=[{e:=.exit 0,X:=Nat×List Nat,c:=fun x=>x.1=(kp (eR rn rc) n).length/\x.1<=n/\x.2.take x.1=kp (eR rn rc) n,s:=fun x=>[(0,.slc 0 0 n (.n c)),(5,.lit (.int .i64 (x.1:Nat)))],b:=fun x=>[(0,.fam (fun q=>.famx (fun k=>.by_ (rc (at0 x.2 q) k)) (rn (at0 x.2 q))) n [] [] 365 (.n c))],n:=1}]
def ezS(T:TD):GenS where
 A:=(Nat->Nat)×(Nat->Nat->By)×Nat×Nat
 st:=a_f T
 dec:=fun args H=>match args with
  | .slc b _ n (.n c)::_=>match H.get b with
    |some (.fam f _ _ _ _ _)=>some (rowsN f,rowsC f,n,c)
    |_=>none
  |_=>none
 dom:=fun a=>((∀q,a.1 q<=1000)/\1<=a.2.2.1/\a.2.2.1<=100/\a.2.2.1<=a.2.2.2)/\allE a.1 a.2.1 a.2.2.1=true
 args1:=fun a=>[.slc 0 0 a.2.2.1 (.n a.2.2.2)]
 blks1:=fun a=>[(0,.fam (fun q=>.famx (fun k=>.by_ (a.2.1 q k)) (a.1 q)) a.2.2.1 [] [] 365 (.n a.2.2.2))]
 next1:=1
 ros1:=[]
 p1:=0
 X:=Unit
 G:=fun _ _=>True
 val:=fun _=>ns
 out:=fun _=>[]
 n2:=0
def ezU(T:TD):Tabs:=⟨fun f=>match f with
 |454=>some ((ieS T).spec)
 |452=>some ((dfS T).spec)
 |_=>none,fun _=>none⟩
def erS(T:TD):GenS where
 A:=(Nat->Nat)×(Nat->Nat->By)×Nat×Nat
 st:=a_f T
 dec:=fun args H=>match args with
  | .slc b _ n (.n c)::_=>match H.get b with
    |some (.fam f _ _ _ _ _)=>some (rowsN f,rowsC f,n,c)
    |_=>none
  |_=>none
 dom:=fun a=>((∀q,a.1 q<=1000)/\1<=a.2.2.1/\a.2.2.1<=100/\a.2.2.1<=a.2.2.2)/\allE a.1 a.2.1 a.2.2.1=false
 args1:=fun a=>[.slc 0 0 a.2.2.1 (.n a.2.2.2)]
 blks1:=fun a=>[(0,.fam (fun q=>.famx (fun k=>.by_ (a.2.1 q k)) (a.1 q)) a.2.2.1 [] [] 365 (.n a.2.2.2))]
 next1:=1
 ros1:=[]
 p1:=1
 X:=(Nat->Nat)×(Nat->Nat->By)×Nat×Nat
 G:=fun a x=>x=(fun q=>a.1 (at0 (kp (eR a.1 a.2.1) a.2.2.1) q),fun q=>a.2.1 (at0 (kp (eR a.1 a.2.1) a.2.2.1) q),(kp (eR a.1 a.2.1) a.2.2.1).length,a.2.2.2)
 val:=fun x=>.slc 0 0 x.2.2.1 (.n x.2.2.2)
 out:=fun x=>[(0,.fam (fun q=>.famx (fun k=>.by_ (x.2.1 q k)) (x.1 q)) x.2.2.1 [] [] 365 (.n x.2.2.2))]
 n2:=1
def rfS(T:TD):GenS where
 A:=(Nat->Nat)×(Nat->Nat->By)×Nat×Nat
 st:=a_f T
 dec:=fun args H=>match args with
  | .slc b _ n (.n c)::_=>match H.get b with
    |some (.fam f _ _ _ _ _)=>some (rowsN f,rowsC f,n,c)
    |_=>none
  |_=>none
 dom:=fun a=>((∀q,a.1 q<=1000)/\1<=a.2.2.1/\a.2.2.1<=100/\a.2.2.1<=a.2.2.2)/\a.2.2.2<=1000
 args1:=fun a=>[.slc 0 0 a.2.2.1 (.n a.2.2.2)]
 blks1:=fun a=>[(0,.fam (fun q=>.famx (fun k=>.by_ (a.2.1 q k)) (a.1 q)) a.2.2.1 [] [] 365 (.n a.2.2.2))]
 next1:=1
 ros1:=[]
 p1:=1
 X:=(Nat->Nat)×(Nat->Nat->By)×Nat×Nat
 G:=fun a x=>x=(fun q=>a.1 (q+b1 a.1 a.2.1),fun q=>a.2.1 (q+b1 a.1 a.2.1),a.2.2.1-b1 a.1 a.2.1,a.2.2.2)
 val:=fun x=>.slc 0 0 x.2.2.1 (.n x.2.2.2)
 out:=fun x=>[(0,.fam (fun q=>.famx (fun k=>.by_ (x.2.1 q k)) (x.1 q)) x.2.2.1 [] [] 365 (.n x.2.2.2))]
 n2:=1
def rgS(T:TD):GenS where
 A:=Unit
 st:=a_f T
 dec:=fun args _=>match args with
  | .lit (.slice none 0 0)::_=>some ()
  |_=>none
 dom:=fun _=>True
 args1:=fun _=>[ns]
 blks1:=fun _=>[]
 next1:=0
 ros1:=[]
 p1:=0
 X:=Unit
 G:=fun _ _=>True
 val:=fun _=>ns
 out:=fun _=>[]
 n2:=0
def rgU(T:TD):Tabs:=⟨fun f=>match f with
 |454=>some (noS)
 |_=>none,fun _=>none⟩
def czS(T:TD):GenS where
 A:=Unit
 st:=a_f T
 dec:=fun _ _=>some ()
 dom:=fun _=>T.Ok/\(T.skip&&allE (rn T) (rc T) (nR T))=true
 args1:=fun _=>[.sp (cv 9) 0,d_n 0,.ite T.hd (trP 0) np,.fam (fun q=>trP (q+hN T)) (T.R-hN T)]
 blks1:=fun _=>[(0,c_8)]
 next1:=1
 ros1:=[]
 p1:=1
 X:=Unit
 G:=fun _ _=>True
 val:=fun _=>ns
 out:=fun _=>[(0,c_8)]
 n2:=1
def czU(T:TD):Tabs:=⟨fun f=>match f with
 |436=>some ((ccS T).spec)
 |437=>some ((gmS T).spec)
 |438=>some ((o_I (erS T) (fun a=>allE a.1 a.2.1 a.2.2.1) (ezS T).spec (erS T).spec))
 |439=>some ((orS (rfS T) (rgS T).spec))
 |_=>none,fun _=>none⟩
def czD(T:TD):LoopD where
 J:=Nat
 side:=fun k=>k<=T.R-hN T
 μ:=fun k=>T.R-hN T-k
 fn:=84
 p:=1
 s:=fun k=>[(0,.sp (cv 9) 0),(1,d_n 0),(43,.fam (fun q=>trP (q+hN T)) (T.R-hN T)),(44,.lit (.int .i64 (T.R-hN T:Nat))),(45,.lit (.int .i64 (k:Nat))),(9,.slc 1 0 (k+1) (.n (nR T))),(10,.slc 2 0 (k+hN T) (.u 3 0))]
 b:=fun k=>[(0,c_8),(1,.fam (fun q=>.famx (fun c=>.by_ (rc T q c)) (rn T q)) (k+1) [] [] 365 (.n (nR T))),(2,.fam (fun _=>.e0) (k+hN T) [] [] 455 (.u 3 1))]
 n:=4
 ros:=[]
 st:=a_f T
 ways:=[{e:=.exit 0,X:=Unit,c:=fun _=>True,s:=fun _=>[(0,.sp (cv 9) 0),(9,.slc 1 0 (T.R-hN T+1) (.n (nR T))),(10,.slc 2 0 (T.R-hN T+hN T) (.u 3 0))],b:=fun _=>[(0,c_8),(1,.fam (fun q=>.famx (fun c=>.by_ (rc T q c)) (rn T q)) ((T.R-hN T)+1) [] [] 365 (.n (nR T))),(2,.fam (fun _=>.e0) ((T.R-hN T)+hN T) [] [] 455 (.u 3 1))],n:=4}]
def crS(T:TD):GenS where
 A:=Unit
 st:=a_f T
 dec:=fun _ _=>some ()
 dom:=fun _=>T.Ok/\(T.skip&&allE (rn T) (rc T) (nR T))=false
 args1:=fun _=>[.sp (cv 9) 0,d_n 0,.ite T.hd (trP 0) np,.fam (fun q=>trP (q+hN T)) (T.R-hN T)]
 blks1:=fun _=>[(0,c_8)]
 next1:=1
 ros1:=[]
 p1:=1
 X:=(Nat->Nat)×(Nat->Nat->By)×Nat×Nat
 G:=fun _ x=>x=finR T
 val:=fun x=>.slc 1 0 x.2.2.1 (.n x.2.2.2)
 out:=fun x=>[(0,c_8),(1,.fam (fun q=>.famx (fun k=>.by_ (x.2.1 q k)) (x.1 q)) x.2.2.1 [] [] 365 (.n x.2.2.2))]
 n2:=2
def cqS(T:TD):GenS where
 A:=Unit
 st:=a_f T
 dec:=fun _ _=>some ()
 dom:=fun _=>T.Ok/\T.skip=false/\nilR T=true
 args1:=fun _=>[.sp (cv 9) 0,d_n 0,.ite T.hd (trP 0) np,.fam (fun q=>trP (q+hN T)) (T.R-hN T)]
 blks1:=fun _=>[(0,c_8)]
 next1:=1
 ros1:=[]
 p1:=1
 X:=Unit
 G:=fun _ _=>True
 val:=fun _=>.slc 1 0 0 (.n (nR T))
 out:=fun _=>[(0,c_8),(1,.fam (fun _=>ns) 0 [] [] 365 (.n (nR T)))]
 n2:=2
def zhS(T:TD):GenS where
 A:=By×Nat
 st:=a_f T
 dec:=fun args _=>match args with
  | .by_ l:: .lit (.int _ (Int.ofNat c))::_=>some (l,c)
  |_=>none
 dom:=fun a=>(∀b∈a.1,b.toNat≠a.2)/\a.1.length<=a_i/\a.2<256
 args1:=fun a=>[.by_ a.1,.lit (.int .u8 a.2)]
 blks1:=fun _=>[]
 next1:=0
 ros1:=[]
 p1:=0
 X:=Unit
 G:=fun a x=>True
 val:=fun x=>.lit (.bool false)
 out:=fun _=>[]
 n2:=0
def zhD(T:TD)(l:By)(c:Nat):LoopD where
 J:=Nat
 side:=fun i=>i<=l.length
 μ:=fun i=>l.length-i
 fn:=18
 p:=0
 s:=fun i=>[(0,.by_ l),(1,.lit (.int .u8 c)),(5,.lit (.int .i64 (i:Nat)))]
 b:=fun _=>[]
 n:=0
 ros:=[]
 st:=a_f T
 ways:=[{e:=.exit 0,X:=Unit,c:=fun _=>True,s:=fun _=>[],b:=fun _=>[],n:=0}]
end Tk

