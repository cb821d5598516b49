/- Lemmas of this claim; the last text says what is proved. -/
import Derived.Test.YtjkgmpkgfhhaiaaGreatK18
import Derived.Test.YtjkgmpkgfhhaiaaGreatK15
set_option linter.all false
namespace Tk
open Go Go.Sx Go.Proofs
open Q
variable [Syms]
def gpS (T:TD):GenS where
 A:=Unit
 st:=domB T
 dec:=fun _ _=>some ()
 dom:=fun _=>True
 args1:=fun _=>[.sp (cv 0) 0]
 blks1:=fun _=>[]
 next1:=0
 ros1:=[]
 p1:=0
 X:=Unit
 G:=fun _ _=>True
 val:=fun _=>.slc 0 0 4 (.n 4)
 out:=fun _=>[(0,.row [.fn (.func 133) [.sp (cv 10) 0] [],pr 100,.fn (.func 187) [.sp (cv 11) 0] [],pr 500,.fn (.func 134) [.sp (cv 10) 0] [],pr 1000,.fn (.func 188) [] [.sp (cv 12) 0],pr 1100] 137 (.n 8))]
 n2:=1
def goS (T:TD):GenS where
 A:=Unit
 st:=domB T
 dec:=fun _ _=>some ()
 dom:=fun _=>True
 args1:=fun _=>[.sp (cv 0) 0]
 blks1:=fun _=>[]
 next1:=0
 ros1:=[]
 p1:=0
 X:=Unit
 G:=fun _ _=>True
 val:=fun _=>.slc 0 0 3 (.n 3)
 out:=fun _=>[(0,.row [.fn (.func 138) [.sp (cv 10) 0] [],pr 500,.fn (.func 139) [.sp (cv 10) 0] [],pr 520,.fn (.func 205) [.agg cmR] [],pr 1000] 150 (.n 6))]
 n2:=1
def ghS (T:TD):GenS where
 A:=Unit
 st:=domB T
 dec:=fun _ _=>some ()
 dom:=fun _=>True
 args1:=fun _=>[.sp (cv 0) 0]
 blks1:=fun _=>[]
 next1:=0
 ros1:=[]
 p1:=0
 X:=Unit
 G:=fun _ _=>True
 val:=fun _=>.slc 0 0 2 (.n 2)
 out:=fun _=>[(0,.row [.fn (.func 204) [.sp (cv 11) 0] [],pr 500,.fn (.func 403) [.sp (cv 9) 0] [],pr 500] 194 (.n 4))]
 n2:=1
end Tk
namespace Tk
open Go Go.Sx Go.Proofs
variable [Syms]
def rmBlks:List (Nat×ABlk):=[(0,.row [ctxA 2] 131 (.n 1)),(1,.row [.fn (.func 142) [] [.ptr 0 0,.ptr 1 0]] 162 (.n 1)),(2,ctxB)]
def rmArgs (x:AVal):List AVal:=[x,.ptr 0 0,.ptr 1 0]
def rmTd (T:TD):GenS where
 A:=Nat×Nat
 st:=domB T
 dec:=fun args _=>match args with
  | .sp ⟨5,i,j⟩ 0::_=>some (i,j)
  |_=>none
 dom:=fun _=>True
 args1:=fun a=>rmArgs (tdP a.1 a.2)
 blks1:=fun _=>rmBlks
 next1:=3
 ros1:=[0,1,2]
 p1:=3
 X:=Unit
 G:=fun _ _=>True
 val:=fun _=>undA
 out:=fun _=>[]
 n2:=3
def rmTabs1 (T:TD):Tabs:=⟨fun _=>none,fun f=>match f with
 |142=>some (rmTd T).spec
 |_=>none⟩
def rmTrD (T:TD) (i:Nat):LoopD where
 J:=Nat
 side:=fun k=>k<=T.C i
 μ:=fun k=>T.C i-k
 fn:=32
 p:=3
 s:=fun k=>[(2,.ptr 1 0),(7,.ite (Nat.blt k (T.C i)) (tdP i k) np)]
 b:=fun _=>rmBlks
 d:=fun k=>[.fam 142 (fun j=>rmArgs (tdP i j)) k]
 n:=3
 ros:=[0,1,2]
 st:=domB T
 ways:=[{e:=.exit 0,X:=Unit,c:=fun _=>True,s:=fun _=>[],b:=fun _=>rmBlks,d:=fun _=>[.fam 142 (fun j=>rmArgs (tdP i j)) (T.C i)],n:=3}]
def rmTr (T:TD):GenS where
 A:=Nat
 st:=domB T
 dec:=fun args _=>match args with
  | .sp ⟨4,i,_⟩ 0::_=>some i
  |_=>none
 dom:=fun i=>0<T.C i
 args1:=fun i=>rmArgs (trP i)
 blks1:=fun _=>rmBlks
 next1:=3
 ros1:=[0,1,2]
 p1:=3
 X:=Unit
 G:=fun _ _=>True
 val:=fun _=>undA
 out:=fun _=>[]
 n2:=3
def rmTabs2 (T:TD):Tabs:=⟨fun _=>none,fun f=>match f with
 |142=>some (rmTr T).spec
 |_=>none⟩
def rmTbD (T:TD):LoopD where
 J:=Nat
 side:=fun k=>k<=T.R
 μ:=fun k=>T.R-k
 fn:=32
 p:=3
 s:=fun k=>[(2,.ptr 1 0),(7,.ite (Nat.blt k (T.R)) (trP k) np)]
 b:=fun _=>rmBlks
 d:=fun k=>[.fam 142 (fun j=>rmArgs (trP j)) k]
 n:=3
 ros:=[0,1,2]
 st:=domB T
 ways:=[{e:=.exit 0,X:=Unit,c:=fun _=>True,s:=fun _=>[],b:=fun _=>rmBlks,d:=fun _=>[.fam 142 (fun j=>rmArgs (trP j)) (T.R)],n:=3}]
def rmTb (T:TD):GenS where
 A:=Unit
 st:=domB T
 dec:=fun args _=>match args with
  | .sp ⟨3,_,_⟩ 0::_=>some ()
  |_=>none
 dom:=fun _=>T.Ok
 args1:=fun _=>rmArgs (.sp tbd 0)
 blks1:=fun _=>rmBlks
 next1:=3
 ros1:=[0,1,2]
 p1:=3
 X:=Unit
 G:=fun _ _=>True
 val:=fun _=>undA
 out:=fun _=>[]
 n2:=3
def rmTabs3 (T:TD):Tabs:=⟨fun _=>none,fun f=>match f with
 |142=>some (rmTb T).spec
 |_=>none⟩
def rmTl (T:TD):GenS where
 A:=Unit
 st:=domB T
 dec:=fun args _=>match args with
  | .sp ⟨2,_,_⟩ 0::_=>some ()
  |_=>none
 dom:=fun _=>T.Ok
 args1:=fun _=>rmArgs (.sp tbl 0)
 blks1:=fun _=>rmBlks
 next1:=3
 ros1:=[0,1,2]
 p1:=3
 X:=Unit
 G:=fun _ _=>True
 val:=fun _=>undA
 out:=fun _=>[]
 n2:=3
def rmTabs4 (T:TD):Tabs:=⟨fun _=>none,fun f=>match f with
 |142=>some (rmTl T).spec
 |_=>none⟩
def rmTo (T:TD):GenS where
 A:=Unit
 st:=domB T
 dec:=fun args _=>match args with
  | .sp ⟨1,_,_⟩ 0::_=>some ()
  |_=>none
 dom:=fun _=>T.Ok
 args1:=fun _=>rmArgs (.sp doc 0)
 blks1:=fun _=>rmBlks
 next1:=3
 ros1:=[0,1,2]
 p1:=3
 X:=Unit
 G:=fun _ _=>True
 val:=fun _=>undA
 out:=fun _=>[]
 n2:=3
def rmTabs5 (T:TD):Tabs:=⟨fun _=>none,fun f=>match f with
 |142=>some (rmTo T).spec
 |_=>none⟩
def mtBlks:List (Nat×ABlk):=[]
def mtArgs (x:AVal):List AVal:=[x]
def mtTd (T:TD):GenS where
 A:=Nat×Nat
 st:=domB T
 dec:=fun args _=>match args with
  | .sp ⟨5,i,j⟩ 0::_=>some (i,j)
  |_=>none
 dom:=fun _=>True
 args1:=fun a=>mtArgs (tdP a.1 a.2)
 blks1:=fun _=>mtBlks
 next1:=0
 ros1:=[]
 p1:=0
 X:=Unit
 G:=fun _ _=>True
 val:=fun _=>undA
 out:=fun _=>[]
 n2:=0
def mtTabs1 (T:TD):Tabs:=⟨fun f=>match f with
 |144=>some (mtTd T).spec
 |_=>none,fun _=>none⟩
def mtTrD (T:TD) (i:Nat):LoopD where
 J:=Nat
 side:=fun k=>k<=T.C i
 μ:=fun k=>T.C i-k
 fn:=51
 p:=0
 s:=fun k=>[(3,.ite (Nat.blt k (T.C i)) (tdP i k) np)]
 b:=fun _=>mtBlks
 n:=0
 ros:=[]
 st:=domB T
 ways:=[{e:=.exit 0,X:=Unit,c:=fun _=>True,s:=fun _=>[],b:=fun _=>mtBlks,n:=0}]
def mtTr (T:TD):GenS where
 A:=Nat
 st:=domB T
 dec:=fun args _=>match args with
  | .sp ⟨4,i,_⟩ 0::_=>some i
  |_=>none
 dom:=fun i=>0<T.C i
 args1:=fun i=>mtArgs (trP i)
 blks1:=fun _=>mtBlks
 next1:=0
 ros1:=[]
 p1:=0
 X:=Unit
 G:=fun _ _=>True
 val:=fun _=>undA
 out:=fun _=>[]
 n2:=0
def mtTabs2 (T:TD):Tabs:=⟨fun f=>match f with
 |144=>some (mtTr T).spec
 |_=>none,fun _=>none⟩
def mtTbD (T:TD):LoopD where
 J:=Nat
 side:=fun k=>k<=T.R
 μ:=fun k=>T.R-k
 fn:=51
 p:=0
 s:=fun k=>[(3,.ite (Nat.blt k (T.R)) (trP k) np)]
 b:=fun _=>mtBlks
 n:=0
 ros:=[]
 st:=domB T
 ways:=[{e:=.exit 0,X:=Unit,c:=fun _=>True,s:=fun _=>[],b:=fun _=>mtBlks,n:=0}]
def mtTb (T:TD):GenS where
 A:=Unit
 st:=domB T
 dec:=fun args _=>match args with
  | .sp ⟨3,_,_⟩ 0::_=>some ()
  |_=>none
 dom:=fun _=>T.Ok
 args1:=fun _=>mtArgs (.sp tbd 0)
 blks1:=fun _=>mtBlks
 next1:=0
 ros1:=[]
 p1:=0
 X:=Unit
 G:=fun _ _=>True
 val:=fun _=>undA
 out:=fun _=>[]
 n2:=0
def mtTabs3 (T:TD):Tabs:=⟨fun f=>match f with
 |144=>some (mtTb T).spec
 |_=>none,fun _=>none⟩
def mtTl (T:TD):GenS where
 A:=Unit
 st:=domB T
 dec:=fun args _=>match args with
  | .sp ⟨2,_,_⟩ 0::_=>some ()
  |_=>none
 dom:=fun _=>T.Ok
 args1:=fun _=>mtArgs (.sp tbl 0)
 blks1:=fun _=>mtBlks
 next1:=0
 ros1:=[]
 p1:=0
 X:=Unit
 G:=fun _ _=>True
 val:=fun _=>undA
 out:=fun _=>[]
 n2:=0
def mtTabs4 (T:TD):Tabs:=⟨fun f=>match f with
 |144=>some (mtTl T).spec
 |_=>none,fun _=>none⟩
def mtTo (T:TD):GenS where
 A:=Unit
 st:=domB T
 dec:=fun args _=>match args with
  | .sp ⟨1,_,_⟩ 0::_=>some ()
  |_=>none
 dom:=fun _=>T.Ok
 args1:=fun _=>mtArgs (.sp doc 0)
 blks1:=fun _=>mtBlks
 next1:=0
 ros1:=[]
 p1:=0
 X:=Unit
 G:=fun _ _=>True
 val:=fun _=>undA
 out:=fun _=>[]
 n2:=0
def mtTabs5 (T:TD):Tabs:=⟨fun f=>match f with
 |144=>some (mtTo T).spec
 |_=>none,fun _=>none⟩
def hrS (T:TD):GenS where
 A:=Unit
 st:=domB T
 dec:=fun args _=>match args with
  |_::_:: .sp ⟨1,0,0⟩ 0::_=>some ()
  |_=>none
 dom:=fun _=>T.Ok
 args1:=fun _=>[.top,ctxA 0,.sp doc 0]
 blks1:=fun _=>[(0,ctxB)]
 next1:=1
 ros1:=[0]
 p1:=1
 X:=Unit
 G:=fun _ _=>True
 val:=fun _=>undA
 out:=fun _=>[]
 n2:=1
def hrTabs (T:TD):Tabs:=⟨fun f=>match f with
 |133=>some (hrS T).spec
 |_=>none,fun _=>none⟩
def hrU (T:TD):Tabs:=⟨fun f=>match f with
 |142=>some ((rmTo T).spec)
 |144=>some ((mtTo T).spec)
 |_=>none,fun _=>none⟩
def fsBlks:List (Nat×ABlk):=[(0,.row [.fn (.func 251) [] [.ptr 0 0]] 162 (.n 1))]
def fsArgs (x:AVal):List AVal:=[x,.ptr 0 0]
def fsTd (T:TD):GenS where
 A:=Nat×Nat
 st:=domB T
 dec:=fun args _=>match args with
  | .sp ⟨5,i,j⟩ 0::_=>some (i,j)
  |_=>none
 dom:=fun _=>True
 args1:=fun a=>fsArgs (tdP a.1 a.2)
 blks1:=fun _=>fsBlks
 next1:=1
 ros1:=[0]
 p1:=1
 X:=Unit
 G:=fun _ _=>True
 val:=fun _=>undA
 out:=fun _=>[]
 n2:=1
def fsTabs1 (T:TD):Tabs:=⟨fun f=>match f with
 |251=>some (fsTd T).spec
 |_=>none,fun _=>none⟩
def fsTrD (T:TD) (i:Nat):LoopD where
 J:=Nat
 side:=fun k=>k<=T.C i
 μ:=fun k=>T.C i-k
 fn:=22
 p:=1
 s:=fun k=>[(1,.ptr 0 0),(3,.ite (Nat.blt k (T.C i)) (tdP i k) np)]
 b:=fun _=>fsBlks
 n:=1
 ros:=[0]
 st:=domB T
 ways:=[{e:=.exit 0,X:=Unit,c:=fun _=>True,s:=fun _=>[],b:=fun _=>fsBlks,n:=1}]
def fsTr (T:TD):GenS where
 A:=Nat
 st:=domB T
 dec:=fun args _=>match args with
  | .sp ⟨4,i,_⟩ 0::_=>some i
  |_=>none
 dom:=fun i=>0<T.C i
 args1:=fun i=>fsArgs (trP i)
 blks1:=fun _=>fsBlks
 next1:=1
 ros1:=[0]
 p1:=1
 X:=Unit
 G:=fun _ _=>True
 val:=fun _=>undA
 out:=fun _=>[]
 n2:=1
def fsTabs2 (T:TD):Tabs:=⟨fun f=>match f with
 |251=>some (fsTr T).spec
 |_=>none,fun _=>none⟩
def fsTbD (T:TD):LoopD where
 J:=Nat
 side:=fun k=>k<=T.R
 μ:=fun k=>T.R-k
 fn:=22
 p:=1
 s:=fun k=>[(1,.ptr 0 0),(3,.ite (Nat.blt k (T.R)) (trP k) np)]
 b:=fun _=>fsBlks
 n:=1
 ros:=[0]
 st:=domB T
 ways:=[{e:=.exit 0,X:=Unit,c:=fun _=>True,s:=fun _=>[],b:=fun _=>fsBlks,n:=1}]
def fsTb (T:TD):GenS where
 A:=Unit
 st:=domB T
 dec:=fun args _=>match args with
  | .sp ⟨3,_,_⟩ 0::_=>some ()
  |_=>none
 dom:=fun _=>T.Ok
 args1:=fun _=>fsArgs (.sp tbd 0)
 blks1:=fun _=>fsBlks
 next1:=1
 ros1:=[0]
 p1:=1
 X:=Unit
 G:=fun _ _=>True
 val:=fun _=>undA
 out:=fun _=>[]
 n2:=1
def fsTabs3 (T:TD):Tabs:=⟨fun f=>match f with
 |251=>some (fsTb T).spec
 |_=>none,fun _=>none⟩
def fsTl (T:TD):GenS where
 A:=Unit
 st:=domB T
 dec:=fun args _=>match args with
  | .sp ⟨2,_,_⟩ 0::_=>some ()
  |_=>none
 dom:=fun _=>T.Ok
 args1:=fun _=>fsArgs (.sp tbl 0)
 blks1:=fun _=>fsBlks
 next1:=1
 ros1:=[0]
 p1:=1
 X:=Unit
 G:=fun _ _=>True
 val:=fun _=>undA
 out:=fun _=>[]
 n2:=1
def fsTabs4 (T:TD):Tabs:=⟨fun f=>match f with
 |251=>some (fsTl T).spec
 |_=>none,fun _=>none⟩
def fsTo (T:TD):GenS where
 A:=Unit
 st:=domB T
 dec:=fun args _=>match args with
  | .sp ⟨1,_,_⟩ 0::_=>some ()
  |_=>none
 dom:=fun _=>T.Ok
 args1:=fun _=>fsArgs (.sp doc 0)
 blks1:=fun _=>fsBlks
 next1:=1
 ros1:=[0]
 p1:=1
 X:=Unit
 G:=fun _ _=>True
 val:=fun _=>undA
 out:=fun _=>[]
 n2:=1
def fsTabs5 (T:TD):Tabs:=⟨fun f=>match f with
 |251=>some (fsTo T).spec
 |_=>none,fun _=>none⟩
def anBlks (T:TD) (c:Nat):List (Nat×ABlk):=[(0,.row [.slc 2 0 c (.u 3 0)] 338 (.n 1)),(1,.row [.fn (.func 309) [] [.ptr 0 0,.ptr 1 0]] 162 (.n 1)),(2,.fam (nfA T) c [] [] 62 (.u 3 1))]
def anTd (T:TD):GenS where
 A:=Nat×Nat
 st:=domB T
 dec:=fun args _=>match args with
  | .sp ⟨5,i,j⟩ 0::_=>some (i,j)
  |_=>none
 dom:=fun a=>a.1<T.R/\a.2<T.C a.1/\T.Ok
 args1:=fun a=>rmArgs (tdP a.1 a.2)
 blks1:=fun a=>anBlks T (ixD T a.1 a.2)
 next1:=4
 ros1:=[1]
 p1:=2
 X:=Nat
 G:=fun a x=>x=ixD T a.1 (a.2+1)
 val:=fun _=>undA
 out:=fun x=>[(0,.row [.slc 2 0 x (.u 3 0)] 338 (.n 1)),(2,.fam (nfA T) x [] [] 62 (.u 3 1))]
 n2:=4
def anTabs1 (T:TD):Tabs:=⟨fun f=>match f with
 |309=>some (anTd T).spec
 |_=>none,fun _=>none⟩
def anTrD (T:TD) (i:Nat):LoopD where
 J:=Nat
 side:=fun k=>k<=T.C i
 μ:=fun k=>T.C i-k
 fn:=22
 p:=2
 s:=fun k=>[(1,.ptr 0 0),(2,.ptr 1 0),(4,.ite (Nat.blt k (T.C i)) (tdP i k) np)]
 b:=fun k=>anBlks T (ixD T i k)
 n:=4
 ros:=[1]
 st:=domB T
 ways:=[{e:=.exit 0,X:=Unit,c:=fun _=>True,s:=fun _=>[],b:=fun _=>anBlks T (ixD T i (T.C i)),n:=4}]
def anTr (T:TD):GenS where
 A:=Nat
 st:=domB T
 dec:=fun args _=>match args with
  | .sp ⟨4,i,_⟩ 0::_=>some i
  |_=>none
 dom:=fun i=>i<T.R/\T.Ok
 args1:=fun i=>rmArgs (trP i)
 blks1:=fun a=>anBlks T (ixR T a)
 next1:=4
 ros1:=[1]
 p1:=2
 X:=Nat
 G:=fun a x=>x=ixR T (a+1)
 val:=fun _=>undA
 out:=fun x=>[(0,.row [.slc 2 0 x (.u 3 0)] 338 (.n 1)),(2,.fam (nfA T) x [] [] 62 (.u 3 1))]
 n2:=4
def anTabs2 (T:TD):Tabs:=⟨fun f=>match f with
 |309=>some (anTr T).spec
 |_=>none,fun _=>none⟩
def anTbD (T:TD):LoopD where
 J:=Nat
 side:=fun k=>k<=T.R
 μ:=fun k=>T.R-k
 fn:=22
 p:=2
 s:=fun k=>[(1,.ptr 0 0),(2,.ptr 1 0),(4,.ite (Nat.blt k (T.R)) (trP k) np)]
 b:=fun k=>anBlks T (ixR T k)
 n:=4
 ros:=[1]
 st:=domB T
 ways:=[{e:=.exit 0,X:=Unit,c:=fun _=>True,s:=fun _=>[],b:=fun _=>anBlks T (ixR T T.R),n:=4}]
def anTb (T:TD):GenS where
 A:=Unit
 st:=domB T
 dec:=fun args _=>match args with
  | .sp ⟨3,_,_⟩ 0::_=>some ()
  |_=>none
 dom:=fun _=>T.Ok
 args1:=fun _=>rmArgs (.sp tbd 0)
 blks1:=fun a=>anBlks T (2)
 next1:=4
 ros1:=[1]
 p1:=2
 X:=Nat
 G:=fun a x=>x=nN T
 val:=fun _=>undA
 out:=fun x=>[(0,.row [.slc 2 0 x (.u 3 0)] 338 (.n 1)),(2,.fam (nfA T) x [] [] 62 (.u 3 1))]
 n2:=4
def anTabs3 (T:TD):Tabs:=⟨fun f=>match f with
 |309=>some (anTb T).spec
 |_=>none,fun _=>none⟩
def anTl (T:TD):GenS where
 A:=Unit
 st:=domB T
 dec:=fun args _=>match args with
  | .sp ⟨2,_,_⟩ 0::_=>some ()
  |_=>none
 dom:=fun _=>T.Ok
 args1:=fun _=>rmArgs (.sp tbl 0)
 blks1:=fun a=>anBlks T (1)
 next1:=4
 ros1:=[1]
 p1:=2
 X:=Nat
 G:=fun a x=>x=nN T
 val:=fun _=>undA
 out:=fun x=>[(0,.row [.slc 2 0 x (.u 3 0)] 338 (.n 1)),(2,.fam (nfA T) x [] [] 62 (.u 3 1))]
 n2:=4
def anTabs4 (T:TD):Tabs:=⟨fun f=>match f with
 |309=>some (anTl T).spec
 |_=>none,fun _=>none⟩
def anTo (T:TD):GenS where
 A:=Unit
 st:=domB T
 dec:=fun args _=>match args with
  | .sp ⟨1,_,_⟩ 0::_=>some ()
  |_=>none
 dom:=fun _=>T.Ok
 args1:=fun _=>rmArgs (.sp doc 0)
 blks1:=fun a=>[(0,.row [ns] 338 (.n 1)),(1,.row [.fn (.func 309) [] [.ptr 0 0,.ptr 1 0]] 162 (.n 1))]
 next1:=2
 ros1:=[1]
 p1:=2
 X:=Nat
 G:=fun a x=>x=nN T
 val:=fun _=>undA
 out:=fun x=>[(0,.row [.slc 2 0 x (.u 3 0)] 338 (.n 1)),(2,.fam (nfA T) x [] [] 62 (.u 3 1))]
 n2:=4
def anTabs5 (T:TD):Tabs:=⟨fun f=>match f with
 |309=>some (anTo T).spec
 |_=>none,fun _=>none⟩
def alS (T:TD):GenS where
 A:=Unit
 st:=domB T
 dec:=fun args _=>match args with
  | .sp ⟨1,0,0⟩ 0::_=>some ()
  |_=>none
 dom:=fun _=>T.Ok
 args1:=fun _=>[.sp doc 0]
 blks1:=fun _=>[]
 next1:=0
 ros1:=[]
 p1:=0
 X:=Unit
 G:=fun _ _=>True
 val:=fun _=>.fam (nfA T) (nN T)
 out:=fun _=>[]
 n2:=0
def alTabs (T:TD):Tabs:=⟨fun f=>match f with
 |253=>some (alS T).spec
 |_=>none,fun _=>none⟩
def haS (T:TD):GenS where
 A:=SId
 st:=domB T
 dec:=fun args _=>match args with
  | .sp x 0:: .fn (.func 211) [] []::_=>some x
  |_=>none
 dom:=T.Val
 args1:=fun x=>[.sp x 0,.fn (.func 211) [] []]
 blks1:=fun _=>[]
 next1:=0
 ros1:=[]
 p1:=0
 X:=Unit
 G:=fun _ _=>True
 val:=fun _=>.lit (.bool false)
 out:=fun _=>[]
 n2:=0
def haTabs (T:TD):Tabs:=⟨fun f=>match f with
 |254=>some (haS T).spec
 |_=>none,fun _=>none⟩
def rrS (T:TD):GenS where
 A:=Unit
 st:=domB T
 dec:=fun args _=>match args with
  | .sp ⟨1,0,0⟩ 0:: .fn (.func 211) [] []::_=>some ()
  |_=>none
 dom:=fun _=>T.Ok
 args1:=fun _=>[.sp doc 0,.fn (.func 211) [] []]
 blks1:=fun _=>[]
 next1:=0
 ros1:=[]
 p1:=0
 X:=Unit
 G:=fun _ _=>True
 val:=fun _=>undA
 out:=fun _=>[]
 n2:=0
def rrTabs (T:TD):Tabs:=⟨fun f=>match f with
 |210=>some (rrS T).spec
 |_=>none,fun _=>none⟩
def rrU (T:TD):Tabs:=⟨fun f=>match f with
 |253=>some ((alS T).spec)
 |254=>some ((haS T).spec)
 |_=>none,fun _=>none⟩
def rrD (T:TD):LoopD where
 J:=Nat
 side:=fun k=>k<=nN T
 μ:=fun k=>nN T-k
 fn:=19
 p:=0
 s:=fun k=>[(1,.fn (.func 211) [] []),(7,.fam (nfA T) (nN T)),(8,.lit (.int .i64 (nN T:Nat))),(9,.lit (.int .i64 (k:Nat)))]
 b:=fun _=>[]
 n:=0
 ros:=[]
 st:=domB T
 ways:=[{e:=.exit 0,X:=Unit,c:=fun _=>True,s:=fun _=>[],b:=fun _=>[],n:=0}]
def hbS (T:TD):GenS where
 A:=SId
 st:=domB T
 dec:=fun args _=>match args with
  | .sp x 0:: .fn (.func 219) [] []::_=>some x
  |_=>none
 dom:=T.Val
 args1:=fun x=>[.sp x 0,.fn (.func 219) [] []]
 blks1:=fun _=>[]
 next1:=0
 ros1:=[]
 p1:=0
 X:=Unit
 G:=fun _ _=>True
 val:=fun _=>.lit (.bool false)
 out:=fun _=>[]
 n2:=0
def hbTabs (T:TD):Tabs:=⟨fun f=>match f with
 |254=>some (hbS T).spec
 |_=>none,fun _=>none⟩
def rsS (T:TD):GenS where
 A:=Unit
 st:=domB T
 dec:=fun args _=>match args with
  | .sp ⟨1,0,0⟩ 0:: .fn (.func 219) [] []::_=>some ()
  |_=>none
 dom:=fun _=>T.Ok
 args1:=fun _=>[.sp doc 0,.fn (.func 219) [] []]
 blks1:=fun _=>[]
 next1:=0
 ros1:=[]
 p1:=0
 X:=Unit
 G:=fun _ _=>True
 val:=fun _=>undA
 out:=fun _=>[]
 n2:=0
def rsTabs (T:TD):Tabs:=⟨fun f=>match f with
 |210=>some (rsS T).spec
 |_=>none,fun _=>none⟩
def rsU (T:TD):Tabs:=⟨fun f=>match f with
 |253=>some ((alS T).spec)
 |254=>some ((hbS T).spec)
 |_=>none,fun _=>none⟩
def rsD (T:TD):LoopD where
 J:=Nat
 side:=fun k=>k<=nN T
 μ:=fun k=>nN T-k
 fn:=19
 p:=0
 s:=fun k=>[(1,.fn (.func 219) [] []),(7,.fam (nfA T) (nN T)),(8,.lit (.int .i64 (nN T:Nat))),(9,.lit (.int .i64 (k:Nat)))]
 b:=fun _=>[]
 n:=0
 ros:=[]
 st:=domB T
 ways:=[{e:=.exit 0,X:=Unit,c:=fun _=>True,s:=fun _=>[],b:=fun _=>[],n:=0}]
def maD (T:TD):LoopD where
 J:=SId×Bool
 side:=T.SdE
 μ:=T.mu
 fn:=20
 p:=0
 s:=fun j=>[(1,.fn (.func 213) [] []),(4,nodeV j)]
 b:=fun _=>[]
 n:=0
 ros:=[]
 st:=domB T
 ways:=[{e:=.exit 0,X:=Unit,c:=fun _=>True,s:=fun _=>[],b:=fun _=>[],n:=0}]
def maS (T:TD):GenS where
 A:=Unit
 st:=domB T
 dec:=fun args _=>match args with
  | .sp ⟨1,0,0⟩ 0:: .fn (.func 213) [] []::_=>some ()
  |_=>none
 dom:=fun _=>True
 args1:=fun _=>[.sp doc 0,.fn (.func 213) [] []]
 blks1:=fun _=>[]
 next1:=0
 ros1:=[]
 p1:=0
 X:=Unit
 G:=fun _ _=>True
 val:=fun _=>undA
 out:=fun _=>[]
 n2:=0
def mbD (T:TD):LoopD where
 J:=SId×Bool
 side:=T.SdE
 μ:=T.mu
 fn:=20
 p:=0
 s:=fun j=>[(1,.fn (.func 216) [] []),(4,nodeV j)]
 b:=fun _=>[]
 n:=0
 ros:=[]
 st:=domB T
 ways:=[{e:=.exit 0,X:=Unit,c:=fun _=>True,s:=fun _=>[],b:=fun _=>[],n:=0}]
def mbS (T:TD):GenS where
 A:=Unit
 st:=domB T
 dec:=fun args _=>match args with
  | .sp ⟨1,0,0⟩ 0:: .fn (.func 216) [] []::_=>some ()
  |_=>none
 dom:=fun _=>True
 args1:=fun _=>[.sp doc 0,.fn (.func 216) [] []]
 blks1:=fun _=>[]
 next1:=0
 ros1:=[]
 p1:=0
 X:=Unit
 G:=fun _ _=>True
 val:=fun _=>undA
 out:=fun _=>[]
 n2:=0
def reD (T:TD):LoopD where
 J:=SId×Bool
 side:=T.Sd
 μ:=T.mu
 fn:=24
 p:=0
 s:=fun j=>[(4,nodeV j)]
 b:=fun _=>[]
 n:=0
 ros:=[]
 st:=domB T
 ways:=[{e:=.exit 0,X:=Unit,c:=fun _=>True,s:=fun _=>[],b:=fun _=>[],n:=0}]
def reS (T:TD):GenS where
 A:=Unit
 st:=domB T
 dec:=fun args _=>match args with
  |_:: .sp ⟨1,0,0⟩ 0::_=>some ()
  |_=>none
 dom:=fun _=>True
 args1:=fun _=>[.top,.sp doc 0]
 blks1:=fun _=>[]
 next1:=0
 ros1:=[]
 p1:=0
 X:=Unit
 G:=fun _ _=>True
 val:=fun _=>undA
 out:=fun _=>[]
 n2:=0
def scBlks:List (Nat×ABlk):=[(0,.row [.fn (.func 216) [] []] 277 (.n 1)),(1,.row [.fn (.func 217) [] []] 277 (.n 1)),(2,.row [.fn (.func 263) [] [.ptr 0 0,.ptr 1 0,.ptr 2 0]] 162 (.n 1))]
def scArgs (x:AVal):List AVal:=[x,.ptr 0 0,.ptr 1 0,.ptr 2 0]
def scTd (T:TD):GenS where
 A:=Nat×Nat
 st:=domB T
 dec:=fun args _=>match args with
  | .sp ⟨5,i,j⟩ 0::_=>some (i,j)
  |_=>none
 dom:=fun _=>True
 args1:=fun a=>scArgs (tdP a.1 a.2)
 blks1:=fun _=>scBlks
 next1:=3
 ros1:=[0,1,2]
 p1:=3
 X:=Unit
 G:=fun _ _=>True
 val:=fun _=>undA
 out:=fun _=>[]
 n2:=3
def scTabs1 (T:TD):Tabs:=⟨fun f=>match f with
 |263=>some (scTd T).spec
 |_=>none,fun _=>none⟩
def scTrD (T:TD) (i:Nat):LoopD where
 J:=Nat
 side:=fun k=>k<=T.C i
 μ:=fun k=>T.C i-k
 fn:=42
 p:=3
 s:=fun k=>[(1,.ptr 0 0),(2,.ptr 1 0),(3,.ptr 2 0),(6,.ite (Nat.blt k (T.C i)) (tdP i k) np)]
 b:=fun _=>scBlks
 n:=3
 ros:=[0,1,2]
 st:=domB T
 ways:=[{e:=.exit 0,X:=Unit,c:=fun _=>True,s:=fun _=>[],b:=fun _=>scBlks,n:=3}]
def scTr (T:TD):GenS where
 A:=Nat
 st:=domB T
 dec:=fun args _=>match args with
  | .sp ⟨4,i,_⟩ 0::_=>some i
  |_=>none
 dom:=fun i=>0<T.C i
 args1:=fun i=>scArgs (trP i)
 blks1:=fun _=>scBlks
 next1:=3
 ros1:=[0,1,2]
 p1:=3
 X:=Unit
 G:=fun _ _=>True
 val:=fun _=>undA
 out:=fun _=>[]
 n2:=3
def scTabs2 (T:TD):Tabs:=⟨fun f=>match f with
 |263=>some (scTr T).spec
 |_=>none,fun _=>none⟩
def scTbD (T:TD):LoopD where
 J:=Nat
 side:=fun k=>k<=T.R
 μ:=fun k=>T.R-k
 fn:=42
 p:=3
 s:=fun k=>[(1,.ptr 0 0),(2,.ptr 1 0),(3,.ptr 2 0),(6,.ite (Nat.blt k (T.R)) (trP k) np)]
 b:=fun _=>scBlks
 n:=3
 ros:=[0,1,2]
 st:=domB T
 ways:=[{e:=.exit 0,X:=Unit,c:=fun _=>True,s:=fun _=>[],b:=fun _=>scBlks,n:=3}]
def scTb (T:TD):GenS where
 A:=Unit
 st:=domB T
 dec:=fun args _=>match args with
  | .sp ⟨3,_,_⟩ 0::_=>some ()
  |_=>none
 dom:=fun _=>T.Ok
 args1:=fun _=>scArgs (.sp tbd 0)
 blks1:=fun _=>scBlks
 next1:=3
 ros1:=[0,1,2]
 p1:=3
 X:=Unit
 G:=fun _ _=>True
 val:=fun _=>undA
 out:=fun _=>[]
 n2:=3
def scTabs3 (T:TD):Tabs:=⟨fun f=>match f with
 |263=>some (scTb T).spec
 |_=>none,fun _=>none⟩
def scTl (T:TD):GenS where
 A:=Unit
 st:=domB T
 dec:=fun args _=>match args with
  | .sp ⟨2,_,_⟩ 0::_=>some ()
  |_=>none
 dom:=fun _=>T.Ok
 args1:=fun _=>scArgs (.sp tbl 0)
 blks1:=fun _=>scBlks
 next1:=3
 ros1:=[0,1,2]
 p1:=3
 X:=Unit
 G:=fun _ _=>True
 val:=fun _=>undA
 out:=fun _=>[]
 n2:=3
def scTabs4 (T:TD):Tabs:=⟨fun f=>match f with
 |263=>some (scTl T).spec
 |_=>none,fun _=>none⟩
def scTo (T:TD):GenS where
 A:=Unit
 st:=domB T
 dec:=fun args _=>match args with
  | .sp ⟨1,_,_⟩ 0::_=>some ()
  |_=>none
 dom:=fun _=>T.Ok
 args1:=fun _=>scArgs (.sp doc 0)
 blks1:=fun _=>scBlks
 next1:=3
 ros1:=[0,1,2]
 p1:=3
 X:=Unit
 G:=fun _ _=>True
 val:=fun _=>undA
 out:=fun _=>[]
 n2:=3
def scTabs5 (T:TD):Tabs:=⟨fun f=>match f with
 |263=>some (scTo T).spec
 |_=>none,fun _=>none⟩
def wcS (T:TD):GenS where
 A:=Unit
 st:=domB T
 dec:=fun args _=>match args with
  |_:: .sp ⟨1,0,0⟩ 0:: .fn (.func 216) [] []:: .fn (.func 217) [] []::_=>some ()
  |_=>none
 dom:=fun _=>T.Ok
 args1:=fun _=>[.top,.sp doc 0,.fn (.func 216) [] [],.fn (.func 217) [] []]
 blks1:=fun _=>[]
 next1:=0
 ros1:=[]
 p1:=0
 X:=Unit
 G:=fun _ _=>True
 val:=fun _=>undA
 out:=fun _=>[]
 n2:=0
def wcTabs (T:TD):Tabs:=⟨fun f=>match f with
 |215=>some (wcS T).spec
 |_=>none,fun _=>none⟩
def wcU (T:TD):Tabs:=⟨fun f=>match f with
 |263=>some ((scTo T).spec)
 |_=>none,fun _=>none⟩
def sbBlks:List (Nat×ABlk):=[(0,.row [.fn (.func 213) [] []] 277 (.n 1)),(1,.row [.fn (.func 220) [] []] 277 (.n 1)),(2,.row [.fn (.func 263) [] [.ptr 0 0,.ptr 1 0,.ptr 2 0]] 162 (.n 1))]
def sbTd (T:TD):GenS where
 A:=Nat×Nat
 st:=domB T
 dec:=fun args _=>match args with
  | .sp ⟨5,i,j⟩ 0::_=>some (i,j)
  |_=>none
 dom:=fun _=>True
 args1:=fun a=>scArgs (tdP a.1 a.2)
 blks1:=fun _=>sbBlks
 next1:=3
 ros1:=[0,1,2]
 p1:=3
 X:=Unit
 G:=fun _ _=>True
 val:=fun _=>undA
 out:=fun _=>[]
 n2:=3
def sbTabs1 (T:TD):Tabs:=⟨fun f=>match f with
 |263=>some (sbTd T).spec
 |_=>none,fun _=>none⟩
def sbTrD (T:TD) (i:Nat):LoopD where
 J:=Nat
 side:=fun k=>k<=T.C i
 μ:=fun k=>T.C i-k
 fn:=42
 p:=3
 s:=fun k=>[(1,.ptr 0 0),(2,.ptr 1 0),(3,.ptr 2 0),(6,.ite (Nat.blt k (T.C i)) (tdP i k) np)]
 b:=fun _=>sbBlks
 n:=3
 ros:=[0,1,2]
 st:=domB T
 ways:=[{e:=.exit 0,X:=Unit,c:=fun _=>True,s:=fun _=>[],b:=fun _=>sbBlks,n:=3}]
def sbTr (T:TD):GenS where
 A:=Nat
 st:=domB T
 dec:=fun args _=>match args with
  | .sp ⟨4,i,_⟩ 0::_=>some i
  |_=>none
 dom:=fun i=>0<T.C i
 args1:=fun i=>scArgs (trP i)
 blks1:=fun _=>sbBlks
 next1:=3
 ros1:=[0,1,2]
 p1:=3
 X:=Unit
 G:=fun _ _=>True
 val:=fun _=>undA
 out:=fun _=>[]
 n2:=3
def sbTabs2 (T:TD):Tabs:=⟨fun f=>match f with
 |263=>some (sbTr T).spec
 |_=>none,fun _=>none⟩
def sbTbD (T:TD):LoopD where
 J:=Nat
 side:=fun k=>k<=T.R
 μ:=fun k=>T.R-k
 fn:=42
 p:=3
 s:=fun k=>[(1,.ptr 0 0),(2,.ptr 1 0),(3,.ptr 2 0),(6,.ite (Nat.blt k (T.R)) (trP k) np)]
 b:=fun _=>sbBlks
 n:=3
 ros:=[0,1,2]
 st:=domB T
 ways:=[{e:=.exit 0,X:=Unit,c:=fun _=>True,s:=fun _=>[],b:=fun _=>sbBlks,n:=3}]
def sbTb (T:TD):GenS where
 A:=Unit
 st:=domB T
 dec:=fun args _=>match args with
  | .sp ⟨3,_,_⟩ 0::_=>some ()
  |_=>none
 dom:=fun _=>T.Ok
 args1:=fun _=>scArgs (.sp tbd 0)
 blks1:=fun _=>sbBlks
 next1:=3
 ros1:=[0,1,2]
 p1:=3
 X:=Unit
 G:=fun _ _=>True
 val:=fun _=>undA
 out:=fun _=>[]
 n2:=3
def sbTabs3 (T:TD):Tabs:=⟨fun f=>match f with
 |263=>some (sbTb T).spec
 |_=>none,fun _=>none⟩
def sbTl (T:TD):GenS where
 A:=Unit
 st:=domB T
 dec:=fun args _=>match args with
  | .sp ⟨2,_,_⟩ 0::_=>some ()
  |_=>none
 dom:=fun _=>T.Ok
 args1:=fun _=>scArgs (.sp tbl 0)
 blks1:=fun _=>sbBlks
 next1:=3
 ros1:=[0,1,2]
 p1:=3
 X:=Unit
 G:=fun _ _=>True
 val:=fun _=>undA
 out:=fun _=>[]
 n2:=3
def sbTabs4 (T:TD):Tabs:=⟨fun f=>match f with
 |263=>some (sbTl T).spec
 |_=>none,fun _=>none⟩
def sbTo (T:TD):GenS where
 A:=Unit
 st:=domB T
 dec:=fun args _=>match args with
  | .sp ⟨1,_,_⟩ 0::_=>some ()
  |_=>none
 dom:=fun _=>T.Ok
 args1:=fun _=>scArgs (.sp doc 0)
 blks1:=fun _=>sbBlks
 next1:=3
 ros1:=[0,1,2]
 p1:=3
 X:=Unit
 G:=fun _ _=>True
 val:=fun _=>undA
 out:=fun _=>[]
 n2:=3
def sbTabs5 (T:TD):Tabs:=⟨fun f=>match f with
 |263=>some (sbTo T).spec
 |_=>none,fun _=>none⟩
def wbS (T:TD):GenS where
 A:=Unit
 st:=domB T
 dec:=fun args _=>match args with
  |_:: .sp ⟨1,0,0⟩ 0:: .fn (.func 213) [] []:: .fn (.func 220) [] []::_=>some ()
  |_=>none
 dom:=fun _=>T.Ok
 args1:=fun _=>[.top,.sp doc 0,.fn (.func 213) [] [],.fn (.func 220) [] []]
 blks1:=fun _=>[]
 next1:=0
 ros1:=[]
 p1:=0
 X:=Unit
 G:=fun _ _=>True
 val:=fun _=>undA
 out:=fun _=>[]
 n2:=0
def wbTabs (T:TD):Tabs:=⟨fun f=>match f with
 |215=>some (wbS T).spec
 |_=>none,fun _=>none⟩
def wbU (T:TD):Tabs:=⟨fun f=>match f with
 |263=>some ((sbTo T).spec)
 |_=>none,fun _=>none⟩
def slBlks:List (Nat×ABlk):=[(0,.row [.fn (.func 220) [] []] 277 (.n 1)),(1,.row [.fn (.func 221) [] []] 277 (.n 1)),(2,.row [.fn (.func 263) [] [.ptr 0 0,.ptr 1 0,.ptr 2 0]] 162 (.n 1))]
def slTd (T:TD):GenS where
 A:=Nat×Nat
 st:=domB T
 dec:=fun args _=>match args with
  | .sp ⟨5,i,j⟩ 0::_=>some (i,j)
  |_=>none
 dom:=fun _=>True
 args1:=fun a=>scArgs (tdP a.1 a.2)
 blks1:=fun _=>slBlks
 next1:=3
 ros1:=[0,1,2]
 p1:=3
 X:=Unit
 G:=fun _ _=>True
 val:=fun _=>undA
 out:=fun _=>[]
 n2:=3
def slTabs1 (T:TD):Tabs:=⟨fun f=>match f with
 |263=>some (slTd T).spec
 |_=>none,fun _=>none⟩
def slTrD (T:TD) (i:Nat):LoopD where
 J:=Nat
 side:=fun k=>k<=T.C i
 μ:=fun k=>T.C i-k
 fn:=42
 p:=3
 s:=fun k=>[(1,.ptr 0 0),(2,.ptr 1 0),(3,.ptr 2 0),(6,.ite (Nat.blt k (T.C i)) (tdP i k) np)]
 b:=fun _=>slBlks
 n:=3
 ros:=[0,1,2]
 st:=domB T
 ways:=[{e:=.exit 0,X:=Unit,c:=fun _=>True,s:=fun _=>[],b:=fun _=>slBlks,n:=3}]
def slTr (T:TD):GenS where
 A:=Nat
 st:=domB T
 dec:=fun args _=>match args with
  | .sp ⟨4,i,_⟩ 0::_=>some i
  |_=>none
 dom:=fun i=>0<T.C i
 args1:=fun i=>scArgs (trP i)
 blks1:=fun _=>slBlks
 next1:=3
 ros1:=[0,1,2]
 p1:=3
 X:=Unit
 G:=fun _ _=>True
 val:=fun _=>undA
 out:=fun _=>[]
 n2:=3
def slTabs2 (T:TD):Tabs:=⟨fun f=>match f with
 |263=>some (slTr T).spec
 |_=>none,fun _=>none⟩
def slTbD (T:TD):LoopD where
 J:=Nat
 side:=fun k=>k<=T.R
 μ:=fun k=>T.R-k
 fn:=42
 p:=3
 s:=fun k=>[(1,.ptr 0 0),(2,.ptr 1 0),(3,.ptr 2 0),(6,.ite (Nat.blt k (T.R)) (trP k) np)]
 b:=fun _=>slBlks
 n:=3
 ros:=[0,1,2]
 st:=domB T
 ways:=[{e:=.exit 0,X:=Unit,c:=fun _=>True,s:=fun _=>[],b:=fun _=>slBlks,n:=3}]
def slTb (T:TD):GenS where
 A:=Unit
 st:=domB T
 dec:=fun args _=>match args with
  | .sp ⟨3,_,_⟩ 0::_=>some ()
  |_=>none
 dom:=fun _=>T.Ok
 args1:=fun _=>scArgs (.sp tbd 0)
 blks1:=fun _=>slBlks
 next1:=3
 ros1:=[0,1,2]
 p1:=3
 X:=Unit
 G:=fun _ _=>True
 val:=fun _=>undA
 out:=fun _=>[]
 n2:=3
def slTabs3 (T:TD):Tabs:=⟨fun f=>match f with
 |263=>some (slTb T).spec
 |_=>none,fun _=>none⟩
def slTl (T:TD):GenS where
 A:=Unit
 st:=domB T
 dec:=fun args _=>match args with
  | .sp ⟨2,_,_⟩ 0::_=>some ()
  |_=>none
 dom:=fun _=>T.Ok
 args1:=fun _=>scArgs (.sp tbl 0)
 blks1:=fun _=>slBlks
 next1:=3
 ros1:=[0,1,2]
 p1:=3
 X:=Unit
 G:=fun _ _=>True
 val:=fun _=>undA
 out:=fun _=>[]
 n2:=3
def slTabs4 (T:TD):Tabs:=⟨fun f=>match f with
 |263=>some (slTl T).spec
 |_=>none,fun _=>none⟩
def slTo (T:TD):GenS where
 A:=Unit
 st:=domB T
 dec:=fun args _=>match args with
  | .sp ⟨1,_,_⟩ 0::_=>some ()
  |_=>none
 dom:=fun _=>T.Ok
 args1:=fun _=>scArgs (.sp doc 0)
 blks1:=fun _=>slBlks
 next1:=3
 ros1:=[0,1,2]
 p1:=3
 X:=Unit
 G:=fun _ _=>True
 val:=fun _=>undA
 out:=fun _=>[]
 n2:=3
def slTabs5 (T:TD):Tabs:=⟨fun f=>match f with
 |263=>some (slTo T).spec
 |_=>none,fun _=>none⟩
def wlS (T:TD):GenS where
 A:=Unit
 st:=domB T
 dec:=fun args _=>match args with
  |_:: .sp ⟨1,0,0⟩ 0:: .fn (.func 220) [] []:: .fn (.func 221) [] []::_=>some ()
  |_=>none
 dom:=fun _=>T.Ok
 args1:=fun _=>[.top,.sp doc 0,.fn (.func 220) [] [],.fn (.func 221) [] []]
 blks1:=fun _=>[]
 next1:=0
 ros1:=[]
 p1:=0
 X:=Unit
 G:=fun _ _=>True
 val:=fun _=>undA
 out:=fun _=>[]
 n2:=0
def wlTabs (T:TD):Tabs:=⟨fun f=>match f with
 |215=>some (wlS T).spec
 |_=>none,fun _=>none⟩
def wlU (T:TD):Tabs:=⟨fun f=>match f with
 |263=>some ((slTo T).spec)
 |_=>none,fun _=>none⟩
def asD (T:TD):LoopD where
 J:=SId×Bool
 side:=T.SdE
 μ:=T.mu
 fn:=55
 p:=0
 s:=fun j=>[(2,.fn (.func 213) [] []),(3,.fn (.func 216) [] []),(8,nodeV j)]
 b:=fun _=>[]
 n:=0
 ros:=[]
 st:=domB T
 ways:=[{e:=.exit 0,X:=Unit,c:=fun _=>True,s:=fun _=>[],b:=fun _=>[],n:=0}]
def asS (T:TD):GenS where
 A:=Unit
 st:=domB T
 dec:=fun args _=>match args with
  |_:: .sp ⟨1,0,0⟩ 0:: .fn (.func 213) [] []:: .fn (.func 216) [] []::_=>some ()
  |_=>none
 dom:=fun _=>True
 args1:=fun _=>[.top,.sp doc 0,.fn (.func 213) [] [],.fn (.func 216) [] []]
 blks1:=fun _=>[]
 next1:=0
 ros1:=[]
 p1:=0
 X:=Unit
 G:=fun _ _=>True
 val:=fun _=>undA
 out:=fun _=>[]
 n2:=0
end Tk
