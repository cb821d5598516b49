/- Lemmas of this claim; the last text says what is proved. -/
import Derived.Test.YtjkgmpkgfhhaiaaGreatK15
import Derived.Test.YtjkgmpkgfhhaiaaGreatK20
import Derived.Test.YtjkgmpkgfhhaiaaGreatK18
set_option linter.all false
namespace Tk
open Go Go.Sx Go.Proofs
variable [Syms]
def lbBlks:List (Nat×ABlk):=[(0,.row [.top] 115 (.n 1)),(1,.row [.fn (.func 272) [] [.ptr 0 0,.ptr 1 0]] 346 (.n 1))]
def lbArgs (x:AVal):List AVal:=[x,.lit (.bool false),.lit (.bool false),.ptr 0 0,.ptr 1 0]
def lbTd (T:TD):GenS where
 A:=Nat×Nat
 st:=domB T
 dec:=fun args _=>match args with
  | .sp ⟨5,i,j⟩ 0::_=>some (i,j)
  |_=>none
 dom:=fun _=>True
 args1:=fun a=>lbArgs (tdP a.1 a.2)
 blks1:=fun _=>lbBlks
 next1:=2
 ros1:=[0,1]
 p1:=2
 X:=Unit
 G:=fun _ _=>True
 val:=fun _=>undA
 out:=fun _=>[]
 n2:=2
def lbTabs1 (T:TD):Tabs:=⟨fun _=>none,fun f=>match f with
 |272=>some (lbTd T).spec
 |_=>none⟩
def lbTrD (T:TD) (i:Nat):LoopD where
 J:=Nat
 side:=fun k=>k<=T.C i
 μ:=fun k=>T.C i-k
 fn:=60
 p:=2
 s:=fun k=>[(1,.lit (.bool false)),(2,.lit (.bool false)),(4,.ptr 1 0),(12,.ite (Nat.blt k (T.C i)) (tdP i k) np)]
 b:=fun _=>lbBlks
 d:=fun k=>[.fam 272 (fun j=>lbArgs (tdP i j)) k]
 n:=2
 ros:=[0,1]
 st:=domB T
 ways:=[{e:=.exit 0,X:=Unit,c:=fun _=>True,s:=fun _=>[],b:=fun _=>lbBlks,d:=fun _=>[.fam 272 (fun j=>lbArgs (tdP i j)) (T.C i)],n:=2}]
def lbTr (T:TD):GenS where
 A:=Nat
 st:=domB T
 dec:=fun args _=>match args with
  | .sp ⟨4,i,_⟩ 0::_=>some i
  |_=>none
 dom:=fun i=>0<T.C i
 args1:=fun i=>lbArgs (trP i)
 blks1:=fun _=>lbBlks
 next1:=2
 ros1:=[0,1]
 p1:=2
 X:=Unit
 G:=fun _ _=>True
 val:=fun _=>undA
 out:=fun _=>[]
 n2:=2
def lbTabs2 (T:TD):Tabs:=⟨fun _=>none,fun f=>match f with
 |272=>some (lbTr T).spec
 |_=>none⟩
def lbTbD (T:TD):LoopD where
 J:=Nat
 side:=fun k=>k<=T.R
 μ:=fun k=>T.R-k
 fn:=60
 p:=2
 s:=fun k=>[(1,.lit (.bool false)),(2,.lit (.bool false)),(4,.ptr 1 0),(12,.ite (Nat.blt k (T.R)) (trP k) np)]
 b:=fun _=>lbBlks
 d:=fun k=>[.fam 272 (fun j=>lbArgs (trP j)) k]
 n:=2
 ros:=[0,1]
 st:=domB T
 ways:=[{e:=.exit 0,X:=Unit,c:=fun _=>True,s:=fun _=>[],b:=fun _=>lbBlks,d:=fun _=>[.fam 272 (fun j=>lbArgs (trP j)) (T.R)],n:=2}]
def lbTb (T:TD):GenS where
 A:=Unit
 st:=domB T
 dec:=fun args _=>match args with
  | .sp ⟨3,_,_⟩ 0::_=>some ()
  |_=>none
 dom:=fun _=>T.Ok
 args1:=fun _=>lbArgs (.sp tbd 0)
 blks1:=fun _=>lbBlks
 next1:=2
 ros1:=[0,1]
 p1:=2
 X:=Unit
 G:=fun _ _=>True
 val:=fun _=>undA
 out:=fun _=>[]
 n2:=2
def lbTabs3 (T:TD):Tabs:=⟨fun _=>none,fun f=>match f with
 |272=>some (lbTb T).spec
 |_=>none⟩
def lbTl (T:TD):GenS where
 A:=Unit
 st:=domB T
 dec:=fun args _=>match args with
  | .sp ⟨2,_,_⟩ 0::_=>some ()
  |_=>none
 dom:=fun _=>T.Ok
 args1:=fun _=>lbArgs (.sp tbl 0)
 blks1:=fun _=>lbBlks
 next1:=2
 ros1:=[0,1]
 p1:=2
 X:=Unit
 G:=fun _ _=>True
 val:=fun _=>undA
 out:=fun _=>[]
 n2:=2
def lbTabs4 (T:TD):Tabs:=⟨fun _=>none,fun f=>match f with
 |272=>some (lbTl T).spec
 |_=>none⟩
def lbTo (T:TD):GenS where
 A:=Unit
 st:=domB T
 dec:=fun args _=>match args with
  | .sp ⟨1,_,_⟩ 0::_=>some ()
  |_=>none
 dom:=fun _=>T.Ok
 args1:=fun _=>lbArgs (.sp doc 0)
 blks1:=fun _=>lbBlks
 next1:=2
 ros1:=[0,1]
 p1:=2
 X:=Unit
 G:=fun _ _=>True
 val:=fun _=>undA
 out:=fun _=>[]
 n2:=2
def lbTabs5 (T:TD):Tabs:=⟨fun _=>none,fun f=>match f with
 |272=>some (lbTo T).spec
 |_=>none⟩
def mlBlks:List (Nat×ABlk):=[]
def mlArgs (x:AVal):List AVal:=[.top,x]
def mlTd (T:TD):GenS where
 A:=Nat×Nat
 st:=domB T
 dec:=fun args _=>match args with
  |_:: .sp ⟨5,i,j⟩ 0::_=>some (i,j)
  |_=>none
 dom:=fun _=>True
 args1:=fun a=>mlArgs (tdP a.1 a.2)
 blks1:=fun _=>mlBlks
 next1:=0
 ros1:=[]
 p1:=0
 X:=Unit
 G:=fun _ _=>True
 val:=fun _=>undA
 out:=fun _=>[]
 n2:=0
def mlTabs1 (T:TD):Tabs:=⟨fun f=>match f with
 |223=>some (mlTd T).spec
 |_=>none,fun _=>none⟩
def mlTrD (T:TD) (i:Nat):LoopD where
 J:=Nat
 side:=fun k=>k<=T.C i
 μ:=fun k=>T.C i-k
 fn:=90
 p:=0
 s:=fun k=>[(9,.ite (Nat.blt k (T.C i)) (tdP i k) np)]
 b:=fun _=>mlBlks
 n:=0
 ros:=[]
 st:=domB T
 ways:=[{e:=.exit 2,X:=Unit,c:=fun _=>True,s:=fun _=>[],b:=fun _=>mlBlks,n:=0}]
def mlTr (T:TD):GenS where
 A:=Nat
 st:=domB T
 dec:=fun args _=>match args with
  |_:: .sp ⟨4,i,_⟩ 0::_=>some i
  |_=>none
 dom:=fun i=>0<T.C i
 args1:=fun i=>mlArgs (trP i)
 blks1:=fun _=>mlBlks
 next1:=0
 ros1:=[]
 p1:=0
 X:=Unit
 G:=fun _ _=>True
 val:=fun _=>undA
 out:=fun _=>[]
 n2:=0
def mlTabs2 (T:TD):Tabs:=⟨fun f=>match f with
 |223=>some (mlTr T).spec
 |_=>none,fun _=>none⟩
def mlTbD (T:TD):LoopD where
 J:=Nat
 side:=fun k=>k<=T.R
 μ:=fun k=>T.R-k
 fn:=90
 p:=0
 s:=fun k=>[(9,.ite (Nat.blt k (T.R)) (trP k) np)]
 b:=fun _=>mlBlks
 n:=0
 ros:=[]
 st:=domB T
 ways:=[{e:=.exit 2,X:=Unit,c:=fun _=>True,s:=fun _=>[],b:=fun _=>mlBlks,n:=0}]
def mlTb (T:TD):GenS where
 A:=Unit
 st:=domB T
 dec:=fun args _=>match args with
  |_:: .sp ⟨3,_,_⟩ 0::_=>some ()
  |_=>none
 dom:=fun _=>T.Ok
 args1:=fun _=>mlArgs (.sp tbd 0)
 blks1:=fun _=>mlBlks
 next1:=0
 ros1:=[]
 p1:=0
 X:=Unit
 G:=fun _ _=>True
 val:=fun _=>undA
 out:=fun _=>[]
 n2:=0
def mlTabs3 (T:TD):Tabs:=⟨fun f=>match f with
 |223=>some (mlTb T).spec
 |_=>none,fun _=>none⟩
def mlTl (T:TD):GenS where
 A:=Unit
 st:=domB T
 dec:=fun args _=>match args with
  |_:: .sp ⟨2,_,_⟩ 0::_=>some ()
  |_=>none
 dom:=fun _=>T.Ok
 args1:=fun _=>mlArgs (.sp tbl 0)
 blks1:=fun _=>mlBlks
 next1:=0
 ros1:=[]
 p1:=0
 X:=Unit
 G:=fun _ _=>True
 val:=fun _=>undA
 out:=fun _=>[]
 n2:=0
def mlTabs4 (T:TD):Tabs:=⟨fun f=>match f with
 |223=>some (mlTl T).spec
 |_=>none,fun _=>none⟩
def mlTo (T:TD):GenS where
 A:=Unit
 st:=domB T
 dec:=fun args _=>match args with
  |_:: .sp ⟨1,_,_⟩ 0::_=>some ()
  |_=>none
 dom:=fun _=>T.Ok
 args1:=fun _=>mlArgs (.sp doc 0)
 blks1:=fun _=>mlBlks
 next1:=0
 ros1:=[]
 p1:=0
 X:=Unit
 G:=fun _ _=>True
 val:=fun _=>undA
 out:=fun _=>[]
 n2:=0
def mlTabs5 (T:TD):Tabs:=⟨fun f=>match f with
 |223=>some (mlTo T).spec
 |_=>none,fun _=>none⟩
def kcTabs (T:TD):Tabs:=⟨fun f=>match f with
 |187=>some (hrS T).spec
 |_=>none,fun _=>none⟩
def kcU (T:TD):Tabs:=⟨fun f=>match f with
 |251=>some ((fsTo T).spec)
 |210=>some (orS (rrS T) (rsS T).spec)
 |212=>some (orS (maS T) (mbS T).spec)
 |214=>some ((reS T).spec)
 |215=>some (orS (wcS T) (orS (wbS T) (wlS T).spec))
 |218=>some ((asS T).spec)
 |272=>some ((lbTo T).spec)
 |223=>some ((mlTo T).spec)
 |_=>none,fun _=>none⟩
def rwS (T:TD):GenS where
 A:=List UInt8
 st:=domB T
 dec:=fun args _=>match args with
  | .str l::_=>some l
  |_=>none
 dom:=fun l=>Words l/\l.length<=2147483647
 args1:=fun l=>[.str l]
 blks1:=fun _=>[]
 next1:=0
 ros1:=[]
 p1:=0
 X:=List UInt8
 G:=fun a x=>x=a
 val:=fun x=>.str x
 out:=fun _=>[]
 n2:=0
def rwTabs (T:TD):Tabs:=⟨fun f=>match f with
 |157=>some (rwS T).spec
 |_=>none,fun _=>none⟩
def rwD (T:TD) (l:List UInt8):LoopD where
 J:=Nat×Bool
 side:=fun j=>j.1<=l.length/\j.2=blankAt l j.1
 μ:=fun j=>l.length-j.1
 fn:=124
 p:=0
 s:=fun j=>[(1,.ptr 0 0),(3,.ptr 1 0),(4,.fn (.func 168) [] [.ptr 1 0,.ptr 0 0]),(5,.lit (.int .i64 (0:Nat))),(6,.lit (.int .i64 (cond j.2 ((j.1-1:Nat):Int) (-1)))),(7,.lit (.int .i64 (j.1:Nat)))]
 b:=fun _=>[(0,.row [.str l] 9 (.n 1)),(1,.row [ns] 57 (.n 1))]
 n:=2
 ros:=[]
 st:=domB T
 ways:=[{e:=.exit 0,X:=Unit,c:=fun _=>True,s:=fun _=>[(1,.ptr 0 0),(3,.ptr 1 0),(4,.fn (.func 168) [] [.ptr 1 0,.ptr 0 0]),(5,.lit (.int .i64 (0:Nat))),(6,.lit (.int .i64 (-1)))],b:=fun _=>[(0,.row [.str l] 9 (.n 1)),(1,.row [ns] 57 (.n 1))],n:=2}]
def hsS (T:TD):GenS where
 A:=List UInt8
 st:=domB T
 dec:=fun args _=>match args with
  | .str l:: .str _::_=>some l
  |_=>none
 dom:=fun l=>Words l/\l≠[]/\l.length<=2147483647
 args1:=fun l=>[.str l,.str [32]]
 blks1:=fun _=>[]
 next1:=0
 ros1:=[]
 p1:=0
 X:=List UInt8
 G:=fun a x=>x=a
 val:=fun _=>.lit (.bool false)
 out:=fun _=>[]
 n2:=0
def hsTabs (T:TD):Tabs:=⟨fun f=>match f with
 |158=>some (hsS T).spec
 |_=>none,fun _=>none⟩
def tsS (T:TD):GenS where
 A:=List UInt8
 st:=domB T
 dec:=fun args _=>match args with
  | .str l:: .str _::_=>some l
  |_=>none
 dom:=fun l=>Words l/\l≠[]/\l.length<=2147483647
 args1:=fun l=>[.str l,.str [32]]
 blks1:=fun _=>[]
 next1:=0
 ros1:=[]
 p1:=0
 X:=List UInt8
 G:=fun a x=>x=a
 val:=fun x=>.str x
 out:=fun _=>[]
 n2:=0
def tsTabs (T:TD):Tabs:=⟨fun f=>match f with
 |160=>some (tsS T).spec
 |_=>none,fun _=>none⟩
def coB:List (Nat×ABlk):=[(0,.row [.fn (.func 146) [] [.ptr 1 0],.fn (.func 166) [] [],.fn (.func 167) [] []] 279 (.n 3)),(1,.row [ctxA 2] 131 (.n 1)),(2,ctxB)]
def coB0:List (Nat×ABlk):=[(0,.row [.fn (.func 146) [] [.ptr 1 0],.lit .nilFunc,.lit .nilFunc] 279 (.n 3)),(1,.row [ctxA 2] 131 (.n 1)),(2,ctxB)]
def coS (T:TD):GenS where
 A:=Unit
 st:=domB T
 dec:=fun args _=>match args with
  | .sp ⟨1,0,0⟩ 0::_=>some ()
  |_=>none
 dom:=fun _=>T.Ok
 args1:=fun _=>[.sp doc 0,.ptr 0 0]
 blks1:=fun _=>coB0
 next1:=3
 ros1:=[1,2]
 p1:=3
 X:=Unit
 G:=fun _ _=>True
 val:=fun _=>undA
 out:=fun _=>[(0,.row [.fn (.func 146) [] [.ptr 1 0],.fn (.func 166) [] [],.fn (.func 167) [] []] 279 (.n 3))]
 n2:=3
def coTabs (T:TD):Tabs:=⟨fun f=>match f with
 |145=>some (coS T).spec
 |_=>none,fun _=>none⟩
def coU (T:TD):Tabs:=⟨fun f=>match f with
 |157=>some ((rwS T).spec)
 |158=>some ((hsS T).spec)
 |160=>some ((tsS T).spec)
 |_=>none,fun _=>none⟩
def coD (T:TD):LoopD where
 J:=CJ
 side:=coSd T
 μ:=coMu T
 fn:=152
 p:=3
 s:=fun j=>[(0,.sp doc 0),(1,.ptr 0 0),(4,.ite j.tn np (.sp j.t 0)),(5,.lit (.bool false)),(6,.ite j.pn np (.sp j.p 0)),(7,.sp j.n 0)]
 b:=fun _=>coB
 n:=3
 ros:=[1,2]
 st:=domB T
 ways:=[{e:=.exit 0,X:=Unit,c:=fun _=>True,s:=fun _=>[(0,.sp doc 0),(1,.ptr 0 0),(4,np),(5,.lit (.bool false))],b:=fun _=>coB,n:=3}]
def hcTabs (T:TD):Tabs:=⟨fun f=>match f with
 |134=>some (hrS T).spec
 |_=>none,fun _=>none⟩
def hcU (T:TD):Tabs:=⟨fun f=>match f with
 |145=>some ((coS T).spec)
 |_=>none,fun _=>none⟩
def leD (T:TD):LoopD where
 J:=SId×Bool
 side:=T.SdE
 μ:=T.mu
 fn:=18
 p:=0
 s:=fun j=>[(4,nodeV j)]
 b:=fun _=>[]
 n:=0
 ros:=[]
 st:=domB T
 ways:=[{e:=.exit 0,X:=Unit,c:=fun _=>True,s:=fun _=>[],b:=fun _=>[],n:=0}]
end Tk
namespace Tk
open Go Go.Sx Go.Proofs
open Q
variable [Syms]
def f3S (T:TD):GenS where
 A:=Unit
 st:=domB T
 dec:=fun args _=>match args with
  | .sp ⟨2,0,0⟩ 0:: .fn (.func 423) _ _::_=>some ()
  |_=>none
 dom:=fun _=>T.Ok
 args1:=fun _=>[.sp tbl 0,.fn (.func 423) [] []]
 blks1:=fun _=>[]
 next1:=0
 ros1:=[]
 p1:=0
 X:=Unit
 G:=fun _ _=>True
 val:=fun _=>np
 out:=fun _=>[]
 n2:=0
def f3D (T:TD):LoopD where
 J:=SId×Bool
 side:=T.SdT
 μ:=T.mu
 fn:=22
 p:=0
 s:=fun j=>[(1,.fn (.func 423) [] []),(5,.fn (.func 323) [] [.ptr 0 0,.ptr 1 0,.ptr 2 0]),(6,nodeV j)]
 b:=fun _=>[(0,.row [.fn (.func 313) [] []] 287 (.n 1)),(1,.row [.fn (.func 312) [] []] 287 (.n 1)),(2,.row [.fn (.func 438) [] [.ptr 3 0]] 277 (.n 1)),(3,.row [.sp tbl 0] 62 (.n 1))]
 n:=4
 ros:=[]
 st:=domB T
 ways:=[{e:=.exit 0,X:=Unit,c:=fun _=>True,s:=fun _=>[],b:=fun _=>[],n:=0}]
def f5S (T:TD):GenS where
 A:=Unit
 st:=domB T
 dec:=fun args _=>match args with
  | .sp ⟨2,0,0⟩ 0:: .fn (.func 425) _ _::_=>some ()
  |_=>none
 dom:=fun _=>T.Ok
 args1:=fun _=>[.sp tbl 0,.fn (.func 425) [] []]
 blks1:=fun _=>[]
 next1:=0
 ros1:=[]
 p1:=0
 X:=Unit
 G:=fun _ _=>True
 val:=fun _=>np
 out:=fun _=>[]
 n2:=0
def f5D (T:TD):LoopD where
 J:=SId×Bool
 side:=T.SdT
 μ:=T.mu
 fn:=22
 p:=0
 s:=fun j=>[(1,.fn (.func 425) [] []),(5,.fn (.func 323) [] [.ptr 0 0,.ptr 1 0,.ptr 2 0]),(6,nodeV j)]
 b:=fun _=>[(0,.row [.fn (.func 313) [] []] 287 (.n 1)),(1,.row [.fn (.func 312) [] []] 287 (.n 1)),(2,.row [.fn (.func 438) [] [.ptr 3 0]] 277 (.n 1)),(3,.row [.sp tbl 0] 62 (.n 1))]
 n:=4
 ros:=[]
 st:=domB T
 ways:=[{e:=.exit 0,X:=Unit,c:=fun _=>True,s:=fun _=>[],b:=fun _=>[],n:=0}]
def f7S (T:TD):GenS where
 A:=Unit
 st:=domB T
 dec:=fun args _=>match args with
  | .sp ⟨2,0,0⟩ 0:: .fn (.func 427) _ _::_=>some ()
  |_=>none
 dom:=fun _=>T.Ok/\T.hd=false
 args1:=fun _=>[.sp tbl 0,.fn (.func 427) [] []]
 blks1:=fun _=>[]
 next1:=0
 ros1:=[]
 p1:=0
 X:=Unit
 G:=fun _ _=>True
 val:=fun _=>np
 out:=fun _=>[]
 n2:=0
def f7D (T:TD):LoopD where
 J:=SId×Bool
 side:=T.SdT
 μ:=T.mu
 fn:=22
 p:=0
 s:=fun j=>[(1,.fn (.func 427) [] []),(5,.fn (.func 323) [] [.ptr 0 0,.ptr 1 0,.ptr 2 0]),(6,nodeV j)]
 b:=fun _=>[(0,.row [.fn (.func 313) [] []] 287 (.n 1)),(1,.row [.fn (.func 312) [] []] 287 (.n 1)),(2,.row [.fn (.func 438) [] [.ptr 3 0]] 277 (.n 1)),(3,.row [.sp tbl 0] 62 (.n 1))]
 n:=4
 ros:=[]
 st:=domB T
 ways:=[{e:=.exit 0,X:=Unit,c:=fun _=>True,s:=fun _=>[],b:=fun _=>[],n:=0}]
def f8S (T:TD):GenS where
 A:=Unit
 st:=domB T
 dec:=fun args _=>match args with
  | .sp ⟨2,0,0⟩ 0:: .fn (.func 427) _ _::_=>some ()
  |_=>none
 dom:=fun _=>T.hd=true
 args1:=fun _=>[.sp tbl 0,.fn (.func 427) [] []]
 blks1:=fun _=>[]
 next1:=0
 ros1:=[]
 p1:=0
 X:=Unit
 G:=fun _ _=>True
 val:=fun _=>tdP 0 0
 out:=fun _=>[]
 n2:=0
def shS (T:TD):GenS where
 A:=Unit
 st:=domB T
 dec:=fun args _=>match args with
  | .sp ⟨2,0,0⟩ 0::_=>some ()
  |_=>none
 dom:=fun _=>T.Ok
 args1:=fun _=>[.sp tbl 0]
 blks1:=fun _=>[]
 next1:=0
 ros1:=[]
 p1:=0
 X:=Unit
 G:=fun _ _=>True
 val:=fun _=>.ite T.hd (trP 0) np
 out:=fun _=>[]
 n2:=0
def shU (T:TD):Tabs:=⟨fun f=>match f with
 |422=>some ((orS (f3S T) (orS (f5S T) (iteS (f7S T) (fun _=>T.hd) (f8S T).spec (f7S T).spec))))
 |_=>none,fun _=>none⟩
def ntS (T:TD):GenS where
 A:=Nat×Nat
 st:=domB T
 dec:=fun args _=>match args with
  | .sp ⟨5,i,j⟩ 0::_=>some (i,j)
  |_=>none
 dom:=fun _=>True
 args1:=fun a=>[tdP a.1 a.2,.ptr 1 0,.ptr 2 0,.ptr 0 0]
 blks1:=fun _=>[(0,.row [.fn (.func 428) [] [.ptr 1 0,.ptr 2 0,.ptr 0 0]] 162 (.n 1))]
 next1:=3
 ros1:=[0]
 p1:=1
 X:=Unit
 G:=fun _ _=>True
 val:=fun _=>undA
 out:=fun _=>[]
 n2:=1
def nuS (T:TD):GenS where
 A:=Unit
 st:=domB T
 dec:=fun args H=>match args with
  | .sp ⟨4,i,_⟩ 0::_:: .ptr b _::_=>match H.get b with
    |some (.row [.lit (.slice none 0 0)] _ _)=>cond (Nat.beq i 0&&T.hd) (some ()) none
    |_=>none
  |_=>none
 dom:=fun _=>T.hd=true/\0<T.C 0
 args1:=fun _=>[trP 0,.ptr 0 0,.ptr 2 0,.ptr 1 0]
 blks1:=fun _=>[(0,.row [.ite T.hd (trP 0) np] 62 (.n 1)),(1,.row [.fn (.func 428) [] [.ptr 0 0,.ptr 2 0,.ptr 1 0]] 162 (.n 1))]
 next1:=3
 ros1:=[0,1]
 p1:=2
 X:=Unit
 G:=fun _ _=>True
 val:=fun _=>undA
 out:=fun _=>[]
 n2:=2
def nuU (T:TD):Tabs:=⟨fun f=>match f with
 |428=>some ((ntS T).spec)
 |_=>none,fun _=>none⟩
def nuD (T:TD) (i:Nat):LoopD where
 J:=Nat
 side:=fun k=>k<=T.C i
 μ:=fun k=>T.C i-k
 fn:=33
 p:=2
 s:=fun k=>[(3,.ptr 1 0),(6,.ite (Nat.blt k (T.C i)) (tdP i k) np)]
 b:=fun _=>[(0,.row [.ite T.hd (trP 0) np] 62 (.n 1)),(1,.row [.fn (.func 428) [] [.ptr 0 0,.ptr 2 0,.ptr 1 0]] 162 (.n 1))]
 n:=3
 ros:=[0,1]
 st:=domB T
 ways:=[{e:=.exit 0,X:=Unit,c:=fun _=>True,s:=fun _=>[],b:=fun _=>[(0,.row [.ite T.hd (trP 0) np] 62 (.n 1)),(1,.row [.fn (.func 428) [] [.ptr 0 0,.ptr 2 0,.ptr 1 0]] 162 (.n 1))],n:=3}]
def nvS (T:TD):GenS where
 A:=Unit
 st:=domB T
 dec:=fun args H=>match args with
  | .sp ⟨4,_,_⟩ 0::_:: .ptr b _::_=>match H.get b with
    |some (.row [.lit (.slice none 0 0)] _ _)=>some ()
    |_=>none
  |_=>none
 dom:=fun _=>0<T.C (hN T)
 args1:=fun _=>[trP (hN T),.ptr 0 0,.ptr 1 0,.ptr 2 0]
 blks1:=fun _=>[(0,.row [.ite T.hd (trP 0) np] 62 (.n 1)),(1,.row [ns] 338 (.n 1)),(2,.row [.fn (.func 428) [] [.ptr 0 0,.ptr 1 0,.ptr 2 0]] 162 (.n 1))]
 next1:=3
 ros1:=[0,2]
 p1:=3
 X:=Unit
 G:=fun _ _=>True
 val:=fun _=>undA
 out:=fun _=>[(1,.row [.slc 3 0 1 (.u 4 0)] 338 (.n 1)),(3,.fam (fun q=>trP (q+hN T)) 1 [] [] 62 (.u 4 1))]
 n2:=5
def nvD (T:TD) (i:Nat):LoopD where
 J:=Nat
 side:=fun k=>k<=T.C i
 μ:=fun k=>T.C i-k
 fn:=33
 p:=3
 s:=fun k=>[(3,.ptr 2 0),(6,.ite (Nat.blt k (T.C i)) (tdP i k) np)]
 b:=fun _=>[(0,.row [.ite T.hd (trP 0) np] 62 (.n 1)),(1,.row [.slc 3 0 1 (.u 4 0)] 338 (.n 1)),(2,.row [.fn (.func 428) [] [.ptr 0 0,.ptr 1 0,.ptr 2 0]] 162 (.n 1)),(3,.fam (fun q=>trP (q+hN T)) 1 [] [] 62 (.u 4 1))]
 n:=5
 ros:=[0,2]
 st:=domB T
 ways:=[{e:=.exit 0,X:=Unit,c:=fun _=>True,s:=fun _=>[],b:=fun _=>[(0,.row [.ite T.hd (trP 0) np] 62 (.n 1)),(1,.row [.slc 3 0 1 (.u 4 0)] 338 (.n 1)),(2,.row [.fn (.func 428) [] [.ptr 0 0,.ptr 1 0,.ptr 2 0]] 162 (.n 1)),(3,.fam (fun q=>trP (q+hN T)) 1 [] [] 62 (.u 4 1))],n:=5}]
def nwS (T:TD):GenS where
 A:=Nat
 st:=domB T
 dec:=fun args _=>match args with
  | .sp ⟨4,i,_⟩ 0::_=>some (i-hN T)
  |_=>none
 dom:=fun c=>0<c/\c<=13/\0<T.C (c+hN T)
 args1:=fun c=>[trP (c+hN T),.ptr 0 0,.ptr 1 0,.ptr 2 0]
 blks1:=fun c=>[(0,.row [.ite T.hd (trP 0) np] 62 (.n 1)),(1,.row [.slc 3 0 c (.u 4 0)] 338 (.n 1)),(2,.row [.fn (.func 428) [] [.ptr 0 0,.ptr 1 0,.ptr 2 0]] 162 (.n 1)),(3,.fam (fun q=>trP (q+hN T)) c [] [] 62 (.u 4 1))]
 next1:=5
 ros1:=[0,2]
 p1:=3
 X:=Nat
 G:=fun c x=>x=c+1
 val:=fun _=>undA
 out:=fun x=>[(1,.row [.slc 3 0 x (.u 4 0)] 338 (.n 1)),(3,.fam (fun q=>trP (q+hN T)) x [] [] 62 (.u 4 1))]
 n2:=5
def nwD (T:TD) (i n:Nat):LoopD where
 J:=Nat
 side:=fun k=>k<=T.C i
 μ:=fun k=>T.C i-k
 fn:=33
 p:=3
 s:=fun k=>[(3,.ptr 2 0),(6,.ite (Nat.blt k (T.C i)) (tdP i k) np)]
 b:=fun _=>[(0,.row [.ite T.hd (trP 0) np] 62 (.n 1)),(1,.row [.slc 3 0 n (.u 4 0)] 338 (.n 1)),(2,.row [.fn (.func 428) [] [.ptr 0 0,.ptr 1 0,.ptr 2 0]] 162 (.n 1)),(3,.fam (fun q=>trP (q+hN T)) n [] [] 62 (.u 4 1))]
 n:=5
 ros:=[0,2]
 st:=domB T
 ways:=[{e:=.exit 0,X:=Unit,c:=fun _=>True,s:=fun _=>[],b:=fun _=>[(0,.row [.ite T.hd (trP 0) np] 62 (.n 1)),(1,.row [.slc 3 0 n (.u 4 0)] 338 (.n 1)),(2,.row [.fn (.func 428) [] [.ptr 0 0,.ptr 1 0,.ptr 2 0]] 162 (.n 1)),(3,.fam (fun q=>trP (q+hN T)) n [] [] 62 (.u 4 1))],n:=5}]
def nyS (T:TD):GenS where
 A:=Unit
 st:=domB T
 dec:=fun args _=>match args with
  | .sp ⟨3,_,_⟩ 0::_=>some ()
  |_=>none
 dom:=fun _=>T.Ok
 args1:=fun _=>[.sp tbd 0,.ptr 0 0,.ptr 1 0,.ptr 2 0]
 blks1:=fun _=>[(0,.row [.ite T.hd (trP 0) np] 62 (.n 1)),(1,.row [ns] 338 (.n 1)),(2,.row [.fn (.func 428) [] [.ptr 0 0,.ptr 1 0,.ptr 2 0]] 162 (.n 1))]
 next1:=3
 ros1:=[0,2]
 p1:=3
 X:=Unit
 G:=fun _ _=>True
 val:=fun _=>undA
 out:=fun _=>[(1,.row [.fam (fun q=>trP (q+hN T)) (T.R-hN T)] 338 (.n 1))]
 n2:=3
def nyU (T:TD):Tabs:=⟨fun f=>match f with
 |428=>some ((orS (nuS T) (orS (nvS T) (orS (nwS T) (ntS T).spec))))
 |_=>none,fun _=>none⟩
def nyD (T:TD):LoopD where
 J:=Unit
 side:=fun _=>True
 μ:=fun _=>T.R+2
 fn:=33
 p:=3
 s:=fun _=>[(3,.ptr 2 0),(6,trP 0)]
 b:=fun _=>[(0,.row [.ite T.hd (trP 0) np] 62 (.n 1)),(1,.row [ns] 338 (.n 1)),(2,.row [.fn (.func 428) [] [.ptr 0 0,.ptr 1 0,.ptr 2 0]] 162 (.n 1))]
 n:=3
 ros:=[0,2]
 st:=domB T
 ways:=[{e:=.exit 0,X:=Unit,c:=fun _=>True,s:=fun _=>[],b:=fun _=>[(0,.row [.ite T.hd (trP 0) np] 62 (.n 1)),(1,.row [.fam (fun q=>trP (q+hN T)) (T.R-hN T)] 338 (.n 1)),(2,.row [.fn (.func 428) [] [.ptr 0 0,.ptr 1 0,.ptr 2 0]] 162 (.n 1))],n:=3}]
def nyDA (T:TD):LoopD where
 J:=Unit
 side:=fun _=>T.hd=true
 μ:=fun _=>T.R+1
 fn:=33
 p:=3
 s:=fun _=>[(3,.ptr 2 0),(6,.ite (Nat.blt 1 T.R) (trP 1) np)]
 b:=fun _=>[(0,.row [.ite T.hd (trP 0) np] 62 (.n 1)),(1,.row [ns] 338 (.n 1)),(2,.row [.fn (.func 428) [] [.ptr 0 0,.ptr 1 0,.ptr 2 0]] 162 (.n 1))]
 n:=3
 ros:=[0,2]
 st:=domB T
 ways:=[]
def nyDB (T:TD):LoopD where
 J:=Nat
 side:=fun c=>0<c/\c+hN T<=T.R
 μ:=fun c=>T.R-c
 fn:=33
 p:=3
 s:=fun c=>[(3,.ptr 2 0),(6,.ite (Nat.blt (c+hN T) T.R) (trP (c+hN T)) np)]
 b:=fun c=>[(0,.row [.ite T.hd (trP 0) np] 62 (.n 1)),(1,.row [.slc 3 0 c (.u 4 0)] 338 (.n 1)),(2,.row [.fn (.func 428) [] [.ptr 0 0,.ptr 1 0,.ptr 2 0]] 162 (.n 1)),(3,.fam (fun q=>trP (q+hN T)) c [] [] 62 (.u 4 1))]
 n:=5
 ros:=[0,2]
 st:=domB T
 ways:=[]
def nyDL (T:TD):List LoopD:=[nyD T,nyDA T,nyDB T]
def nzS (T:TD):GenS where
 A:=Unit
 st:=domB T
 dec:=fun args _=>match args with
  | .sp ⟨2,_,_⟩ 0::_=>some ()
  |_=>none
 dom:=fun _=>T.Ok
 args1:=fun _=>[.sp tbl 0,.ptr 0 0,.ptr 1 0,.ptr 2 0]
 blks1:=fun _=>[(0,.row [.ite T.hd (trP 0) np] 62 (.n 1)),(1,.row [ns] 338 (.n 1)),(2,.row [.fn (.func 428) [] [.ptr 0 0,.ptr 1 0,.ptr 2 0]] 162 (.n 1))]
 next1:=3
 ros1:=[0,2]
 p1:=3
 X:=Unit
 G:=fun _ _=>True
 val:=fun _=>undA
 out:=fun _=>[(1,.row [.fam (fun q=>trP (q+hN T)) (T.R-hN T)] 338 (.n 1))]
 n2:=3
def nzU (T:TD):Tabs:=⟨fun f=>match f with
 |428=>some ((nyS T).spec)
 |_=>none,fun _=>none⟩
def nrS (T:TD):GenS where
 A:=Unit
 st:=domB T
 dec:=fun args _=>match args with
  | .sp ⟨2,_,_⟩ 0::_=>some ()
  |_=>none
 dom:=fun _=>T.Ok
 args1:=fun _=>[.sp tbl 0,.ite T.hd (trP 0) np]
 blks1:=fun _=>[]
 next1:=0
 ros1:=[]
 p1:=0
 X:=Unit
 G:=fun _ _=>True
 val:=fun _=>.fam (fun q=>trP (q+hN T)) (T.R-hN T)
 out:=fun _=>[]
 n2:=0
def nrU (T:TD):Tabs:=⟨fun f=>match f with
 |428=>some ((nzS T).spec)
 |_=>none,fun _=>none⟩
def faS (T:TD):GenS where
 A:=Nat
 st:=domB T
 dec:=fun args _=>match args with
  | .sp ⟨4,i,0⟩ 0::_=>some i
  |_=>none
 dom:=fun i=>i<T.R/\0<T.C i/\T.C i<=12
 args1:=fun i=>[.sp (tr i) 0,.fn (.func 439) [] []]
 blks1:=fun _=>[]
 next1:=0
 ros1:=[]
 p1:=0
 X:=Nat
 G:=fun a x=>x=a
 val:=fun i=>.fam (fun q=>tdP i q) (T.C i)
 out:=fun _=>[]
 n2:=0
def faD (T:TD) (i:Nat):LoopD where
 J:=Unit
 side:=fun _=>True
 μ:=fun _=>2*T.C i
 fn:=26
 p:=0
 s:=fun _=>[(1,.fn (.func 439) [] []),(5,.fn (.func 323) [] [.ptr 0 0,.ptr 1 0,.ptr 2 0]),(6,tdP i 0),(4,ns)]
 b:=fun _=>[(0,.row [.fn (.func 313) [] []] 287 (.n 1)),(1,.row [.fn (.func 312) [] []] 287 (.n 1)),(2,.row [.fn (.func 449) [] [.ptr 3 0]] 277 (.n 1)),(3,.row [.sp (tr i) 0] 62 (.n 1))]
 n:=4
 ros:=[]
 st:=domB T
 ways:=[{e:=.exit 0,X:=Unit,c:=fun _=>True,s:=fun _=>[(4,.fam (fun q=>tdP i q) (T.C i))],b:=fun _=>[],n:=0}]
def faDA (T:TD) (i:Nat):LoopD where
 J:=Nat
 side:=fun j=>0<j/\j<T.C i
 μ:=fun j=>2*(T.C i-j)
 fn:=26
 p:=0
 s:=fun j=>[(1,.fn (.func 439) [] []),(5,.fn (.func 323) [] [.ptr 0 0,.ptr 1 0,.ptr 2 0]),(6,tdP i j),(4,.slc 4 0 j (.u 5 0))]
 b:=fun j=>[(0,.row [.fn (.func 313) [] []] 287 (.n 1)),(1,.row [.fn (.func 312) [] []] 287 (.n 1)),(2,.row [.fn (.func 449) [] [.ptr 3 0]] 277 (.n 1)),(3,.row [.sp (tr i) 0] 62 (.n 1)),(4,.fam (fun q=>tdP i q) j [] [] 62 (.u 5 1))]
 n:=6
 ros:=[]
 st:=domB T
 ways:=[]
def faDB (T:TD) (i:Nat):LoopD where
 J:=Nat
 side:=fun j=>j<T.C i
 μ:=fun j=>2*(T.C i-j)-1
 fn:=26
 p:=0
 s:=fun j=>[(1,.fn (.func 439) [] []),(5,.fn (.func 323) [] [.ptr 0 0,.ptr 1 0,.ptr 2 0]),(6,txP i j),(4,.slc 4 0 (j+1) (.u 5 0))]
 b:=fun j=>[(0,.row [.fn (.func 313) [] []] 287 (.n 1)),(1,.row [.fn (.func 312) [] []] 287 (.n 1)),(2,.row [.fn (.func 449) [] [.ptr 3 0]] 277 (.n 1)),(3,.row [.sp (tr i) 0] 62 (.n 1)),(4,.fam (fun q=>tdP i q) (j+1) [] [] 62 (.u 5 1))]
 n:=6
 ros:=[]
 st:=domB T
 ways:=[]
def faDZ (T:TD) (i:Nat):LoopD where
 J:=Unit
 side:=fun _=>True
 μ:=fun _=>0
 fn:=26
 p:=0
 s:=fun _=>[(1,.fn (.func 439) [] []),(5,.fn (.func 323) [] [.ptr 0 0,.ptr 1 0,.ptr 2 0]),(6,np),(4,.slc 4 0 (T.C i) (.u 5 0))]
 b:=fun _=>[(0,.row [.fn (.func 313) [] []] 287 (.n 1)),(1,.row [.fn (.func 312) [] []] 287 (.n 1)),(2,.row [.fn (.func 449) [] [.ptr 3 0]] 277 (.n 1)),(3,.row [.sp (tr i) 0] 62 (.n 1)),(4,.fam (fun q=>tdP i q) (T.C i) [] [] 62 (.u 5 1))]
 n:=6
 ros:=[]
 st:=domB T
 ways:=[]
def faDL (T:TD) (i:Nat):List LoopD:=[faD T i,faDA T i,faDB T i,faDZ T i]
def gtS (T:TD):GenS where
 A:=Unit
 st:=domB T
 dec:=fun _ _=>some ()
 dom:=fun _=>True
 args1:=fun _=>[.sp (cv 0) 0]
 blks1:=fun _=>[]
 next1:=0
 ros1:=[]
 p1:=0
 X:=Unit
 G:=fun _ _=>True
 val:=fun _=>.slc 0 0 2 (.n 2)
 out:=fun _=>[(0,.row [.fn (.func 136) [.sp (cv 10) 0] [],pr 500,.fn (.func 183) [.agg cmR] [],pr 1000] 207 (.n 4))]
 n2:=1
def zeS (T:TD):GenS where
 A:=By
 st:=domB T
 dec:=fun args _=>match args with
  | .str l::_=>some l
  |_=>none
 dom:=fun l=>(∀b∈l,b.toNat≠60/\b.toNat≠62)/\l.length<=bufMax
 args1:=fun l=>[.str l]
 blks1:=fun _=>[]
 next1:=0
 ros1:=[]
 p1:=0
 X:=By
 G:=fun a x=>x=a
 val:=fun x=>.str x
 out:=fun _=>[]
 n2:=0
def zeD (T:TD) (l:By):LoopD where
 J:=Nat
 side:=fun i=>i<=l.length
 μ:=fun i=>l.length-i
 fn:=33
 p:=0
 s:=fun i=>[(0,.str l),(3,.slc 0 0 i (.u 1 0)),(4,.lit (.int .i64 (i:Nat)))]
 b:=fun i=>[(0,.bytes (l.take i) 5 (.u 1 1))]
 n:=2
 ros:=[]
 st:=domB T
 ways:=[{e:=.exit 0,X:=Unit,c:=fun _=>True,s:=fun _=>[(3,.by_ l)],b:=fun _=>[],n:=0}]
def drS (T:TD):GenS where
 A:=By×UInt8
 st:=domB T
 dec:=fun args _=>match args with
  | .by_ l::_=>some (l,l.getD 0 0)
  |_=>none
 dom:=fun a=>0<a.1.length/\a.2=a.1.getD 0 0/\a.2.toNat<128/\a.1.length<=bufMax
 args1:=fun a=>[.by_ a.1]
 blks1:=fun _=>[]
 next1:=0
 ros1:=[]
 p1:=0
 X:=UInt8
 G:=fun a x=>x=a.2
 val:=fun x=>.tup [.lit (.int .i32 x.toNat),.lit (.int .i64 1)]
 out:=fun _=>[]
 n2:=0
def drU (T:TD):Tabs:=⟨fun f=>match f with
 |174=>some (noS)
 |_=>none,fun _=>none⟩
def esS (T:TD):GenS where
 A:=By
 st:=domB T
 dec:=fun args H=>match args with
  |_:: .by_ l::_=>some l
  |_:: .slc k 0 _ _::_=>match H.get k with
   |some (.bytes l _ _)=>some l
   |_=>none
  |_=>none
 dom:=fun l=>WT l/\l.length<=bufMax
 args1:=fun l=>[.sp (cv 0) 0,.by_ l]
 blks1:=fun _=>[]
 next1:=0
 ros1:=[]
 p1:=0
 X:=By
 G:=fun a x=>x=a
 val:=fun x=>.by_ x
 out:=fun _=>[]
 n2:=0
def esU (T:TD):Tabs:=⟨fun f=>match f with
 |163=>some ((drS T).spec)
 |_=>none,fun _=>none⟩
def esD (T:TD) (l:By):LoopD where
 J:=Nat
 side:=fun i=>i<=l.length
 μ:=fun i=>l.length-i
 fn:=60
 p:=0
 s:=fun i=>[(0,.sp (cv 0) 0),(1,.by_ l),(5,.slc 0 0 i (.u 1 0)),(6,.lit (.int .i64 (i:Nat)))]
 b:=fun i=>[(0,.bytes (l.take i) 5 (.u 1 1))]
 n:=2
 ros:=[]
 st:=domB T
 ways:=[{e:=.exit 0,X:=Unit,c:=fun _=>True,s:=fun _=>[(5,.by_ l)],b:=fun _=>[],n:=0}]
def wnS (T:TD):GenS where
 A:=By
 st:=domB T
 dec:=fun args H=>match args with
  | .ptr b 0:: .str p::_=>match H.get b with
    |some (.row (.lit (.slice none 0 0)::_) _ _)=>some p
    |_=>none
  |_=>none
 dom:=fun p=>0<p.length/\p.length<=bufMax
 args1:=fun p=>[.ptr 0 0,.str p]
 blks1:=fun _=>bufN 0
 next1:=1
 ros1:=[]
 p1:=1
 X:=By
 G:=fun a x=>x=a
 val:=fun _=>.top
 out:=fun x=>bufB 0 1 2 x
 n2:=3
def wnU (T:TD):Tabs:=⟨fun _=>none,fun f=>match f with
 |378=>some (recA0)
 |_=>none⟩
def xtS (T:TD):GenS where
 A:=Nat×Nat
 st:=domB T
 dec:=fun args _=>match args with
  |_::_::_:: .sp ⟨6,i,j⟩ 0::_=>some (i,j)
  |_=>none
 dom:=fun a=>WT (T.tx a.1 a.2)/\0<(T.tx a.1 a.2).length/\(T.tx a.1 a.2).length<=2147483647
 args1:=fun a=>[.sp (cv 0) 0,ctxA 1,.ifc 144 (.ptr 0 0),.sp (tx a.1 a.2) 0]
 blks1:=fun _=>bufN 0++[(1,ctxB)]
 next1:=2
 ros1:=[]
 p1:=2
 X:=By
 G:=fun a x=>x=T.tx a.1 a.2
 val:=fun _=>.lit (.int .i64 1)
 out:=fun x=>bufC 0 1 2 3 x
 n2:=4
def xtU (T:TD):Tabs:=⟨fun f=>match f with
 |79=>some ((gtS T).spec)
 |149=>some ((zeS T).spec)
 |469=>some ((esS T).spec)
 |335=>some ((wnS T).spec)
 |_=>none,fun _=>none⟩
def xdS (T:TD):GenS where
 A:=Nat×Nat
 st:=domB T
 dec:=fun args _=>match args with
  |_::_::_:: .sp ⟨5,i,j⟩ 0::_=>some (i,j)
  |_=>none
 dom:=fun a=>T.hasT a.1 a.2=true/\WT (T.tx a.1 a.2)/\0<(T.tx a.1 a.2).length/\(T.tx a.1 a.2).length<=2147483647
 args1:=fun a=>[.sp (cv 0) 0,ctxA 1,.ifc 144 (.ptr 0 0),.sp (td a.1 a.2) 0]
 blks1:=fun _=>bufN 0++[(1,ctxB)]
 next1:=2
 ros1:=[]
 p1:=2
 X:=By
 G:=fun a x=>x=T.tx a.1 a.2
 val:=fun _=>.lit (.int .i64 1)
 out:=fun x=>bufC 0 1 2 3 x
 n2:=4
def xdU (T:TD):Tabs:=⟨fun f=>match f with
 |41=>some ((ghS T).spec)
 |73=>some ((xtS T).spec)
 |_=>none,fun _=>none⟩
def xeS (T:TD):GenS where
 A:=Nat×Nat
 st:=domB T
 dec:=fun args _=>match args with
  |_::_::_:: .sp ⟨5,i,j⟩ 0::_=>some (i,j)
  |_=>none
 dom:=fun a=>T.hasT a.1 a.2=false
 args1:=fun a=>[.sp (cv 0) 0,ctxA 1,.ifc 144 (.ptr 0 0),.sp (td a.1 a.2) 0]
 blks1:=fun _=>bufN 0++[(1,ctxB)]
 next1:=2
 ros1:=[]
 p1:=2
 X:=Unit
 G:=fun _ _=>True
 val:=fun _=>.lit (.int .i64 1)
 out:=fun _=>bufN 0++[(1,ctxB)]
 n2:=2
def xeU (T:TD):Tabs:=⟨fun f=>match f with
 |41=>some ((ghS T).spec)
 |_=>none,fun _=>none⟩
def trS (T:TD):GenS where
 A:=By
 st:=domB T
 dec:=fun args H=>match args with
  | .by_ l::_=>some l
  | .lit (.slice none 0 0)::_=>some []
  | .slc k 0 _ _::_=>match H.get k with
    |some (.bytes l _ _)=>some l
    |_=>none
  |_=>none
 dom:=fun l=>(∀b∈l,b.toNat<128)/\l.length<=bufMax/\T.Ok
 args1:=fun l=>[.by_ l]
 blks1:=fun _=>[]
 next1:=0
 ros1:=[]
 p1:=0
 X:=By
 G:=fun a x=>x=trim a
 val:=fun x=>.by_ x
 out:=fun _=>[]
 n2:=0
def trU (T:TD):Tabs:=⟨fun f=>match f with
 |161=>some (noS)
 |_=>none,fun _=>none⟩
def trD (T:TD) (l:By):LoopD where
 J:=Nat
 side:=fun i=>trK l i
 μ:=fun i=>l.length-i
 fn:=54
 p:=0
 s:=fun i=>[(0,.by_ l),(7,.by_ l),(8,.lit (.int .i64 (l.length:Nat))),(9,.lit (.int .i64 (i:Nat)))]
 b:=fun _=>[]
 n:=0
 ros:=[]
 st:=domB T
 ways:=[{e:=.exit 0,X:=Unit,c:=fun _=>trim l=[],s:=fun _=>[],b:=fun _=>[],n:=0},{e:=.ret,X:=By,c:=fun x=>x=trim l,s:=fun x=>[(2,.by_ x)],b:=fun _=>[],n:=0}]
def trI (T:TD) (m:By):LoopD where
 J:=Nat
 side:=fun k=>trJ m k
 μ:=fun k=>k
 fn:=54
 p:=0
 s:=fun k=>[(0,.by_ m),(5,.lit (.int .i64 ((k:Int)-1)))]
 b:=fun _=>[]
 n:=0
 ros:=[]
 st:=domB T
 ways:=[{e:=.ret,X:=By,c:=fun x=>x=trim m,s:=fun x=>[(2,.by_ x)],b:=fun _=>[],n:=0},{e:=.exit 2,X:=Unit,c:=fun _=>False,s:=fun _=>[],b:=fun _=>[],n:=0}]
def rtS (T:TD):GenS where
 A:=By×By×UInt8×By
 st:=domB T
 dec:=fun args _=>match args with
  | .by_ l:: .str old:: .str (c::r)::_=>some (l,old,c,r)
  |_=>none
 dom:=fun a=>0<a.2.1.length/\a.1.length<=bufMax/\a.2.1.length<=bufMax/\(a.2.2.1::a.2.2.2).length<=a.2.1.length
 args1:=fun a=>[.by_ a.1,.str a.2.1,.str (a.2.2.1::a.2.2.2)]
 blks1:=fun _=>[]
 next1:=0
 ros1:=[]
 p1:=0
 X:=By
 G:=fun a x=>x=rpF a.1 a.2.1 (a.2.2.1::a.2.2.2)
 val:=fun x=>.by_ x
 out:=fun _=>[]
 n2:=0
def rtD (T:TD) (l old:By) (c:UInt8) (r:By):LoopD where
 J:=Unit
 side:=fun _=>True
 μ:=fun _=>l.length+1
 fn:=49
 p:=0
 s:=fun _=>[(0,.by_ l),(1,.str old),(2,.str (c::r)),(7,ns),(8,.lit (.int .i64 (0:Nat)))]
 b:=fun _=>[]
 n:=0
 ros:=[]
 st:=domB T
 ways:=[{e:=.exit 0,X:=Unit,c:=fun _=>True,s:=fun _=>[(7,.by_ (rpF l old (c::r)))],b:=fun _=>[],n:=0}]
def rtDE (T:TD) (l old:By) (c:UInt8) (r:By):LoopD where
 J:=Nat×By
 side:=fun j=>rpI l old (c::r) j.1 j.2
 μ:=fun j=>l.length-j.1
 fn:=49
 p:=0
 s:=fun j=>[(0,.by_ l),(1,.str old),(2,.str (c::r)),(7,.slc 0 0 j.2.length (.u 1 0)),(8,.lit (.int .i64 (j.1:Nat)))]
 b:=fun j=>[(0,.bytes j.2 5 (.u 1 1))]
 n:=2
 ros:=[]
 st:=domB T
 ways:=[]
end Tk
