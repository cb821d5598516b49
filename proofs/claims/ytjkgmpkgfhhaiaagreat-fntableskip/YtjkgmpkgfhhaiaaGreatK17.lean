/- Lemmas of this claim; the last text says what is proved. -/
import Derived.Test.YtjkgmpkgfhhaiaaGreatK16
set_option linter.all false
namespace Tk
open Go Go.Sx Go.Proofs
open Q
variable [Syms]
def ceS (T:TD):GenS where
 A:=By×Bool×Int×Int
 st:=noSt
 dec:=fun args _=>match args with
  | .agg l::_=>some (strO (nthO l 0),boolO (nthO l 1),intO (nthO l 3),intO (nthO l 4))
  |_=>none
 dom:=fun a=>a.2.2.1<=1/\a.2.2.2<=1
 args1:=fun a=>[.agg [.str a.1,.lit (.bool a.2.1),.str [],.lit (.int .i64 a.2.2.1),.lit (.int .i64 a.2.2.2)]]
 blks1:=fun _=>[]
 next1:=0
 ros1:=[]
 p1:=0
 X:=By×Bool×Int×Int
 G:=fun a x=>x=a
 val:=fun x=>.agg (cellA (cond x.2.1 thL tdL) x.1)
 out:=fun _=>[]
 n2:=0
def ceU (T:TD):Tabs:=⟨fun f=>match f with
 |64=>some (noS)
 |_=>none,fun _=>none⟩
def roS (T:TD):GenS where
 A:=Unit
 st:=noSt
 dec:=fun _ _=>some ()
 dom:=fun _=>ntT T
 args1:=fun _=>[rowsA T]
 blks1:=fun _=>[]
 next1:=0
 ros1:=[]
 p1:=0
 X:=Unit
 G:=fun _ _=>True
 val:=fun _=>.fmw (fun q=>rowA (hT T q) (T.tx q) (T.C q)) 5 T.R
 out:=fun _=>[]
 n2:=0
def roU (T:TD):Tabs:=⟨fun f=>match f with
 |35=>some ((ceS T).specV)
 |_=>none,fun _=>none⟩
def roD (T:TD):LoopD where
 J:=Unit
 side:=fun _=>True
 μ:=fun _=>T.R+1
 fn:=36
 p:=0
 s:=fun _=>[(9,rowsA T),(10,.lit (.int .i64 (T.R:Nat))),(11,.lit (.int .i64 (0:Nat))),(3,ns)]
 b:=fun _=>[]
 n:=0
 ros:=[]
 st:=noSt
 ways:=[{e:=.exit 0,X:=Unit,c:=fun _=>True,s:=fun _=>[(3,.fmw (fun q=>rowA (hT T q) (T.tx q) (T.C q)) 5 T.R)],b:=fun _=>[],n:=0}]
def roDE (T:TD):LoopD where
 J:=Nat
 side:=fun i=>0<i/\i<=T.R
 μ:=fun i=>T.R-i
 fn:=36
 p:=0
 s:=fun i=>[(9,rowsA T),(10,.lit (.int .i64 (T.R:Nat))),(11,.lit (.int .i64 (i:Nat))),(3,.slc 0 0 i (.u 1 0))]
 b:=fun i=>[(0,.famw (fun q=>rowA (hT T q) (T.tx q) (T.C q)) 5 i [] 32 (.u 1 5))]
 n:=2
 ros:=[]
 st:=noSt
 ways:=[]
def roI (T:TD):LoopD where
 J:=Unit
 side:=fun _=>True
 μ:=fun _=>T.C 0+1
 fn:=36
 p:=0
 s:=fun _=>[(9,rowsA T),(10,.lit (.int .i64 (T.R:Nat))),(11,.lit (.int .i64 (0:Nat))),(6,.ptr 0 0),(16,.fmw (cellX (rowX T 0)) 5 (T.C 0)),(17,.lit (.int .i64 (T.C 0:Nat))),(18,.lit (.int .i64 (0:Nat))),(3,ns)]
 b:=fun _=>[(0,.row [.lit (.int .i64 (0:Nat)),s_tr,.str [],ns,ns] 32 (.n 5))]
 n:=1
 ros:=[]
 st:=noSt
 ways:=[{e:=.exit 2,X:=Unit,c:=fun _=>True,s:=fun _=>[(9,rowsA T),(10,.lit (.int .i64 (T.R:Nat))),(11,.lit (.int .i64 (0:Nat))),(6,.ptr 0 0),(3,ns)],b:=fun _=>[(0,.row [.lit (.int .i64 (0:Nat)),s_tr,.str [],ns,.fmw (fun q=>cellA (hT T 0 q) (T.tx 0 q)) 5 (T.C 0)] 32 (.n 5))],n:=1}]
def roIE (T:TD):LoopD where
 J:=Nat
 side:=fun j=>0<j/\j<=T.C 0
 μ:=fun j=>T.C 0-j
 fn:=36
 p:=0
 s:=fun j=>[(9,rowsA T),(10,.lit (.int .i64 (T.R:Nat))),(11,.lit (.int .i64 (0:Nat))),(6,.ptr 0 0),(16,.fmw (cellX (rowX T 0)) 5 (T.C 0)),(17,.lit (.int .i64 (T.C 0:Nat))),(18,.lit (.int .i64 (j:Nat))),(3,ns)]
 b:=fun j=>[(0,.row [.lit (.int .i64 (0:Nat)),s_tr,.str [],ns,.slc 1 0 j (.u 2 0)] 32 (.n 5)),(1,.famw (fun q=>cellA (hT T 0 q) (T.tx 0 q)) 5 j [] 32 (.u 2 5))]
 n:=3
 ros:=[]
 st:=noSt
 ways:=[]
def roJ (T:TD) (i:Nat):LoopD where
 J:=Unit
 side:=fun _=>True
 μ:=fun _=>T.C i+1
 fn:=36
 p:=0
 s:=fun _=>[(9,rowsA T),(10,.lit (.int .i64 (T.R:Nat))),(11,.lit (.int .i64 (i:Nat))),(6,.ptr 0 0),(16,.fmw (cellX (rowX T i)) 5 (T.C i)),(17,.lit (.int .i64 (T.C i:Nat))),(18,.lit (.int .i64 (0:Nat))),(3,.slc 3 0 i (.u 4 0))]
 b:=fun _=>[(0,.row [.lit (.int .i64 (0:Nat)),s_tr,.str [],ns,ns] 32 (.n 5)),(3,.famw (fun q=>rowA (hT T q) (T.tx q) (T.C q)) 5 i [] 32 (.u 4 5))]
 n:=5
 ros:=[]
 st:=noSt
 ways:=[{e:=.exit 2,X:=Unit,c:=fun _=>True,s:=fun _=>[(9,rowsA T),(10,.lit (.int .i64 (T.R:Nat))),(11,.lit (.int .i64 (i:Nat))),(6,.ptr 0 0),(3,.slc 3 0 i (.u 4 0))],b:=fun _=>[(0,.row [.lit (.int .i64 (0:Nat)),s_tr,.str [],ns,.fmw (fun q=>cellA (hT T i q) (T.tx i q)) 5 (T.C i)] 32 (.n 5)),(3,.famw (fun q=>rowA (hT T q) (T.tx q) (T.C q)) 5 i [] 32 (.u 4 5))],n:=5}]
def roJE (T:TD) (i:Nat):LoopD where
 J:=Nat
 side:=fun j=>0<j/\j<=T.C i
 μ:=fun j=>T.C i-j
 fn:=36
 p:=0
 s:=fun j=>[(9,rowsA T),(10,.lit (.int .i64 (T.R:Nat))),(11,.lit (.int .i64 (i:Nat))),(6,.ptr 0 0),(16,.fmw (cellX (rowX T i)) 5 (T.C i)),(17,.lit (.int .i64 (T.C i:Nat))),(18,.lit (.int .i64 (j:Nat))),(3,.slc 3 0 i (.u 4 0))]
 b:=fun j=>[(0,.row [.lit (.int .i64 (0:Nat)),s_tr,.str [],ns,.slc 1 0 j (.u 2 0)] 32 (.n 5)),(1,.famw (fun q=>cellA (hT T i q) (T.tx i q)) 5 j [] 32 (.u 2 5)),(3,.famw (fun q=>rowA (hT T q) (T.tx q) (T.C q)) 5 i [] 32 (.u 4 5))]
 n:=5
 ros:=[]
 st:=noSt
 ways:=[]
def taS (T:TD):GenS where
 A:=Unit
 st:=noSt
 dec:=fun args _=>match args with
  | .fam _ _::_=>some ()
  |_=>none
 dom:=fun _=>ntT T
 args1:=fun _=>[rowsA T]
 blks1:=fun _=>[]
 next1:=0
 ros1:=[]
 p1:=0
 X:=Unit
 G:=fun _ _=>True
 val:=fun _=>.agg (docA (hT T) T.tx T.C T.R)
 out:=fun _=>[]
 n2:=0
def taU (T:TD):Tabs:=⟨fun f=>match f with
 |18=>some ((roS T).spec)
 |_=>none,fun _=>none⟩
end Tk
