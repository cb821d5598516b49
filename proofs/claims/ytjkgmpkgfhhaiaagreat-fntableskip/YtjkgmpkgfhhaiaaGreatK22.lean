/- Lemmas of this claim; the last text says what is proved. -/
import Derived.Test.YtjkgmpkgfhhaiaaGreatK18
import Derived.Test.YtjkgmpkgfhhaiaaGreatK21
import Derived.Test.YtjkgmpkgfhhaiaaGreatK19
import Derived.Test.YtjkgmpkgfhhaiaaGreatK15
import Derived.Test.YtjkgmpkgfhhaiaaGreatK20
set_option linter.all false
namespace Tk
open Go Go.Sx Go.Proofs
open Q
variable [Syms]
def ueS (T:TD):GenS where
 A:=By
 st:=domB T
 dec:=fun args H=>match args with
  |_:: .by_ l::_=>some l
  |_:: .slc k 0 _ _::_=>match H.get k with
   |some (.bytes l _ _)=>some l
   |_=>none
  |_=>none
 dom:=fun l=>(∀b∈l,b.toNat≠7)/\l.length<=bufMax
 args1:=fun l=>[.sp (cv 0) 0,.by_ l]
 blks1:=fun _=>[]
 next1:=0
 ros1:=[]
 p1:=0
 X:=By
 G:=fun a x=>x=a
 val:=fun x=>.by_ x
 out:=fun _=>[]
 n2:=0
def ueU (T:TD):Tabs:=⟨fun f=>match f with
 |476=>some (noS)
 |_=>none,fun _=>none⟩
def ueD (T:TD) (l:By):LoopD where
 J:=Nat
 side:=fun i=>i<=l.length
 μ:=fun i=>l.length-i
 fn:=77
 p:=0
 s:=fun i=>[(3,.ptr 0 0),(7,.lit (.int .i64 (i:Nat)))]
 b:=fun i=>[(0,.row [.by_ l] 57 (.n 1))]
 n:=1
 ros:=[]
 st:=domB T
 ways:=[{e:=.exit 0,X:=Unit,c:=fun _=>True,s:=fun _=>[(3,.ptr 0 0)],b:=fun _=>[(0,.row [.by_ l] 57 (.n 1))],n:=1}]
def ueE (T:TD) (l:By):LoopD where
 J:=Nat
 side:=fun i=>i<=l.length
 μ:=fun i=>l.length-i
 fn:=77
 p:=0
 s:=fun i=>[(54,.by_ l),(55,.lit (.int .i64 (l.length:Nat))),(56,.lit (.int .i64 (i:Nat))),(9,.slc 0 0 i (.u 1 0))]
 b:=fun i=>[(0,.bytes (l.take i) 5 (.u 1 1))]
 n:=2
 ros:=[]
 st:=domB T
 ways:=[{e:=.exit 2,X:=Unit,c:=fun _=>True,s:=fun _=>[(9,.by_ l)],b:=fun _=>[],n:=0}]
def ccS (T:TD):GenS where
 A:=Nat
 st:=domB T
 dec:=fun args _=>match args with
  |_::_::_:: .sp ⟨4,i,0⟩ 0::_=>some i
  |_=>none
 dom:=fun i=>i<T.R/\T.Ok
 args1:=fun i=>[.sp (cv 9) 0,ctxA 0,.top,.sp (tr i) 0]
 blks1:=fun _=>[(0,ctxB)]
 next1:=1
 ros1:=[]
 p1:=1
 X:=Nat
 G:=fun a x=>x=a
 val:=fun i=>.tup [.famx (fun q=>.by_ (ct T i q)) (T.C i),.e0]
 out:=fun _=>[(0,ctxB)]
 n2:=1
def ccU (T:TD):Tabs:=⟨fun f=>match f with
 |435=>some ((faS T).spec)
 |51=>some ((iteS (xdS T) (fun a=>T.hasT a.1 a.2) (xdS T).spec (xeS T).spec))
 |151=>some ((trS T).spec)
 |417=>some ((rtS T).spec)
 |472=>some ((ueS T).spec)
 |_=>none,fun _=>none⟩
def ccD (T:TD) (i:Nat):LoopD where
 J:=Nat
 side:=fun j=>j<=T.C i
 μ:=fun j=>T.C i-j
 fn:=69
 p:=1
 s:=fun j=>[(0,.sp (cv 9) 0),(1,ctxA 0),(2,.top),(26,.fam (fun q=>tdP i q) (T.C i)),(27,.lit (.int .i64 (T.C i:Nat))),(28,.lit (.int .i64 (j:Nat))),(11,.slc 1 0 j (.n (T.C i))),(12,.e0)]
 b:=fun j=>[(0,ctxB),(1,.fam (fun q=>.by_ (ct T i q)) j [] [] 57 (.n (T.C i)))]
 n:=2
 ros:=[]
 st:=domB T
 ways:=[{e:=.exit 0,X:=Unit,c:=fun _=>True,s:=fun _=>[(11,.famx (fun q=>.by_ (ct T i q)) (T.C i)),(12,.e0)],b:=fun _=>[(0,ctxB)],n:=1}]
def rvS (T:TD):GenS where
 A:=Nat
 st:=domB T
 dec:=fun args _=>match args with
  | .slc _ _ n _::_=>some n
  |_=>none
 dom:=fun n=>n<=100
 args1:=fun n=>[.slc 0 0 n (.u 1 0)]
 blks1:=fun n=>[(0,.fam (fun _=>.e0) n [] [] 445 (.u 1 1))]
 next1:=2
 ros1:=[]
 p1:=1
 X:=Nat
 G:=fun a x=>x=a
 val:=fun _=>undA
 out:=fun n=>[(0,.fam (fun _=>.e0) n [] [] 445 (.u 1 1))]
 n2:=2
def rvD (T:TD) (n:Nat):LoopD where
 J:=Nat×Nat
 side:=fun j=>j.1<=n/\j.2<=n
 μ:=fun j=>n+1+j.2-j.1
 fn:=28
 p:=1
 s:=fun j=>[(0,.slc 0 0 n (.u 1 0)),(2,.lit (.int .i64 (j.1:Nat))),(3,.lit (.int .i64 ((j.2:Int)-1)))]
 b:=fun _=>[(0,.fam (fun _=>.e0) n [] [] 445 (.u 1 1))]
 n:=2
 ros:=[]
 st:=domB T
 ways:=[{e:=.exit 0,X:=Unit,c:=fun _=>True,s:=fun _=>[],b:=fun _=>[(0,.fam (fun _=>.e0) n [] [] 445 (.u 1 1))],n:=2}]
def gmS (T:TD):GenS where
 A:=(Nat->AVal)×Nat×Nat×Nat
 st:=domB T
 dec:=fun args H=>match args with
  | .slc b _ n (.n c):: .slc _ _ m _::_=>match H.get b with
    |some (.fam f _ _ _ _ _)=>some (f,n,m,c)
    |_=>none
  |_=>none
 dom:=fun a=>(∀i,SubA 0 (a.1 i) (a.1 i))/\a.2.2.1<=100/\a.2.1<=a.2.2.2
 args1:=fun a=>[.slc 0 0 a.2.1 (.n a.2.2.2),.slc 1 0 a.2.2.1 (.u 2 0)]
 blks1:=fun a=>[(0,.fam a.1 a.2.1 [] [] 354 (.n a.2.2.2)),(1,.fam (fun _=>.e0) a.2.2.1 [] [] 445 (.u 2 1))]
 next1:=3
 ros1:=[]
 p1:=1
 X:=(Nat->AVal)×Nat×Nat×Nat
 G:=fun a x=>x=a
 val:=fun x=>.slc 0 0 x.2.1 (.n x.2.2.2)
 out:=fun a=>[(0,.fam a.1 a.2.1 [] [] 354 (.n a.2.2.2))]
 n2:=1
def gmU (T:TD):Tabs:=⟨fun f=>match f with
 |443=>some ((rvS T).spec)
 |_=>none,fun _=>none⟩
def gmD (T:TD) (f:Nat->AVal) (n m c:Nat):LoopD where
 J:=Nat
 side:=fun k=>k<=m
 μ:=fun k=>m-k
 fn:=20
 p:=1
 s:=fun k=>[(0,.slc 0 0 n (.n c)),(9,.slc 1 0 m (.u 2 0)),(10,.lit (.int .i64 (m:Nat))),(11,.lit (.int .i64 (k:Nat)))]
 b:=fun k=>[(0,.fam f n [] [] 354 (.n c)),(1,.fam (fun _=>.e0) m [] [] 445 (.u 3 1))]
 n:=4
 ros:=[]
 st:=domB T
 ways:=[{e:=.exit 0,X:=Unit,c:=fun _=>True,s:=fun _=>[(0,.slc 0 0 n (.n c))],b:=fun _=>[(0,.fam f n [] [] 354 (.n c))],n:=1}]
def ieS (T:TD):GenS where
 A:=(Nat->By)×Nat
 st:=domB T
 dec:=fun args _=>match args with
  | .famx f n::_=>some (fun c=>byOf (f c),n)
  |_=>none
 dom:=fun a=>a.2<=1000
 args1:=fun a=>[.famx (fun c=>.by_ (a.1 c)) a.2]
 blks1:=fun _=>[]
 next1:=0
 ros1:=[]
 p1:=0
 X:=Bool
 G:=fun a x=>x=rowE a.1 a.2
 val:=fun x=>.lit (.bool x)
 out:=fun _=>[]
 n2:=0
def ieD (T:TD) (g:Nat->By) (n:Nat):LoopD where
 J:=Nat
 side:=fun k=>k<=n/\rowI g k
 μ:=fun k=>n-k
 fn:=15
 p:=0
 s:=fun k=>[(5,.famx (fun c=>.by_ (g c)) n),(6,.lit (.int .i64 (n:Nat))),(7,.lit (.int .i64 (k:Nat)))]
 b:=fun _=>[]
 n:=0
 ros:=[]
 st:=domB T
 ways:=[{e:=.exit 0,X:=Unit,c:=fun _=>rowE g n=true,s:=fun _=>[],b:=fun _=>[],n:=0},{e:=.ret,X:=Unit,c:=fun _=>rowE g n=false,s:=fun _=>[(2,.lit (.bool false))],b:=fun _=>[],n:=0}]
def xfS (T:TD):GenS where
 A:=(Nat->Nat)×(Nat->Nat->By)×Nat×Nat
 st:=domB T
 dec:=fun args H=>match args with
  | .slc b _ n (.n c)::_=>match H.get b with
    |some (.fam f _ _ _ _ _)=>some (rowsN f,rowsC f,n,c)
    |_=>none
  |_=>none
 dom:=fun a=>(∀q,a.1 q<=1000)/\1<=a.2.2.1/\a.2.2.1<=100/\a.2.2.1<=a.2.2.2
 args1:=fun a=>[.slc 0 0 a.2.2.1 (.n a.2.2.2),.fn (.func 446) [] [.ptr 1 0]]
 blks1:=fun a=>[(0,.fam (fun q=>.famx (fun k=>.by_ (a.2.1 q k)) (a.1 q)) a.2.2.1 [] [] 354 (.n a.2.2.2)),(1,.row [.lit (.int .i64 (0:Nat))] 3 (.n 1))]
 next1:=2
 ros1:=[0]
 p1:=2
 X:=Nat×Nat×Bool
 G:=fun a x=>x.1=fS (eR a.1 a.2.1) a.2.2.1/\(x.2.2=true->x.2.1=x.1+1)/\x.2.2=Nat.blt x.1 a.2.2.1
 val:=fun x=>.ite x.2.2 (.lit (.int .i64 (x.1:Nat))) (.lit (.int .i64 (-1)))
 out:=fun x=>[(1,.row [.lit (.int .i64 (x.2.1:Nat))] 3 (.n 1))]
 n2:=2
def xfU (T:TD):Tabs:=⟨fun f=>match f with
 |447=>some ((ieS T).spec)
 |_=>none,fun _=>none⟩
def xfD (T:TD) (rn:Nat->Nat) (rc:Nat->Nat->By) (n c:Nat):LoopD where
 J:=Nat
 side:=fun k=>k<=n/\fI (eR rn rc) k
 μ:=fun k=>n-k
 fn:=19
 p:=2
 s:=fun k=>[(0,.slc 0 0 n (.n c)),(1,.fn (.func 446) [] [.ptr 1 0]),(7,.lit (.int .i64 (n:Nat))),(8,.lit (.int .i64 (k:Nat)))]
 b:=fun k=>[(0,.fam (fun q=>.famx (fun k=>.by_ (rc q k)) (rn q)) n [] [] 354 (.n c)),(1,.row [.lit (.int .i64 (k:Nat))] 3 (.n 1))]
 n:=2
 ros:=[0]
 st:=domB T
 ways:=[{e:=.exit 0,X:=Unit,c:=fun _=>fS (eR rn rc) n=n,s:=fun _=>[],b:=fun _=>[(0,.fam (fun q=>.famx (fun k=>.by_ (rc q k)) (rn q)) n [] [] 354 (.n c)),(1,.row [.lit (.int .i64 (n:Nat))] 3 (.n 1))],n:=2},{e:=.ret,X:=Nat×Nat,c:=fun x=>x.1=fS (eR rn rc) n/\x.1<n/\x.2=x.1+1,s:=fun x=>[(4,.lit (.int .i64 (x.1:Nat)))],b:=fun x=>[(0,.fam (fun q=>.famx (fun k=>.by_ (rc q k)) (rn q)) n [] [] 354 (.n c)),(1,.row [.lit (.int .i64 (x.2:Nat))] 3 (.n 1))],n:=2}]
def dfS (T:TD):GenS where
 A:=(Nat->Nat)×(Nat->Nat->By)×Nat×Nat
 st:=domB T
 dec:=fun args H=>match args with
  | .slc b _ n (.n c)::_=>match H.get b with
    |some (.fam f _ _ _ _ _)=>some (rowsN f,rowsC f,n,c)
    |_=>none
  |_=>none
 dom:=fun a=>(∀q,a.1 q<=1000)/\1<=a.2.2.1/\a.2.2.1<=100/\a.2.2.1<=a.2.2.2
 args1:=fun a=>[.slc 0 0 a.2.2.1 (.n a.2.2.2),.fn (.func 446) [] [.ptr 1 0]]
 blks1:=fun a=>[(0,.fam (fun q=>.famx (fun k=>.by_ (a.2.1 q k)) (a.1 q)) a.2.2.1 [] [] 354 (.n a.2.2.2)),(1,.row [.lit (.int .i64 (0:Nat))] 3 (.n 1))]
 next1:=2
 ros1:=[]
 p1:=1
 X:=(Nat->Nat)×(Nat->Nat->By)×Nat×Nat
 G:=fun a x=>x=(fun q=>a.1 (at0 (kp (eR a.1 a.2.1) a.2.2.1) q),fun q=>a.2.1 (at0 (kp (eR a.1 a.2.1) a.2.2.1) q),(kp (eR a.1 a.2.1) a.2.2.1).length,a.2.2.2)
 val:=fun x=>.slc 0 0 x.2.2.1 (.n x.2.2.2)
 out:=fun x=>[(0,.fam (fun q=>.famx (fun k=>.by_ (x.2.1 q k)) (x.1 q)) x.2.2.1 [] [] 354 (.n x.2.2.2))]
 n2:=1
def dfU (T:TD):Tabs:=⟨fun f=>match f with
 |447=>some ((ieS T).spec)
 |454=>some ((xfS T).spec)
 |_=>none,fun _=>none⟩
def dfD (T:TD) (rn:Nat->Nat) (rc:Nat->Nat->By) (n c:Nat):LoopD where
 J:=Nat×Nat×List Nat
 side:=fun j=>dI (eR rn rc) n j.1 j.2.1 j.2.2
 μ:=fun j=>n-j.2.1
 fn:=42
 p:=1
 s:=fun j=>[(0,.slc 0 0 n (.n c)),(1,.fn (.func 446) [] [.ptr 1 0]),(5,.lit (.int .i64 (j.1:Nat))),(6,.lit (.int .i64 (j.2.1:Nat)))]
 b:=fun j=>[(0,.fam (fun q=>.famx (fun k=>.by_ (rc (at0 j.2.2 q) k)) (rn (at0 j.2.2 q))) n [] [] 354 (.n c)),(1,.row [.lit (.int .i64 (j.2.1:Nat))] 3 (.n 1))]
 n:=2
 ros:=[]
 st:=domB T
 ways:=[{e:=.exit 0,X:=Nat×List Nat,c:=fun x=>x.1=(kp (eR rn rc) n).length/\x.1<=n/\x.2.take x.1=kp (eR rn rc) n,s:=fun x=>[(0,.slc 0 0 n (.n c)),(5,.lit (.int .i64 (x.1:Nat)))],b:=fun x=>[(0,.fam (fun q=>.famx (fun k=>.by_ (rc (at0 x.2 q) k)) (rn (at0 x.2 q))) n [] [] 354 (.n c))],n:=1}]
def ezS (T:TD):GenS where
 A:=(Nat->Nat)×(Nat->Nat->By)×Nat×Nat
 st:=domB T
 dec:=fun args H=>match args with
  | .slc b _ n (.n c)::_=>match H.get b with
    |some (.fam f _ _ _ _ _)=>some (rowsN f,rowsC f,n,c)
    |_=>none
  |_=>none
 dom:=fun a=>((∀q,a.1 q<=1000)/\1<=a.2.2.1/\a.2.2.1<=100/\a.2.2.1<=a.2.2.2)/\allE a.1 a.2.1 a.2.2.1=true
 args1:=fun a=>[.slc 0 0 a.2.2.1 (.n a.2.2.2)]
 blks1:=fun a=>[(0,.fam (fun q=>.famx (fun k=>.by_ (a.2.1 q k)) (a.1 q)) a.2.2.1 [] [] 354 (.n a.2.2.2))]
 next1:=1
 ros1:=[]
 p1:=0
 X:=Unit
 G:=fun _ _=>True
 val:=fun _=>ns
 out:=fun _=>[]
 n2:=0
def ezU (T:TD):Tabs:=⟨fun f=>match f with
 |447=>some ((ieS T).spec)
 |445=>some ((dfS T).spec)
 |_=>none,fun _=>none⟩
def erS (T:TD):GenS where
 A:=(Nat->Nat)×(Nat->Nat->By)×Nat×Nat
 st:=domB T
 dec:=fun args H=>match args with
  | .slc b _ n (.n c)::_=>match H.get b with
    |some (.fam f _ _ _ _ _)=>some (rowsN f,rowsC f,n,c)
    |_=>none
  |_=>none
 dom:=fun a=>((∀q,a.1 q<=1000)/\1<=a.2.2.1/\a.2.2.1<=100/\a.2.2.1<=a.2.2.2)/\allE a.1 a.2.1 a.2.2.1=false
 args1:=fun a=>[.slc 0 0 a.2.2.1 (.n a.2.2.2)]
 blks1:=fun a=>[(0,.fam (fun q=>.famx (fun k=>.by_ (a.2.1 q k)) (a.1 q)) a.2.2.1 [] [] 354 (.n a.2.2.2))]
 next1:=1
 ros1:=[]
 p1:=1
 X:=(Nat->Nat)×(Nat->Nat->By)×Nat×Nat
 G:=fun a x=>x=(fun q=>a.1 (at0 (kp (eR a.1 a.2.1) a.2.2.1) q),fun q=>a.2.1 (at0 (kp (eR a.1 a.2.1) a.2.2.1) q),(kp (eR a.1 a.2.1) a.2.2.1).length,a.2.2.2)
 val:=fun x=>.slc 0 0 x.2.2.1 (.n x.2.2.2)
 out:=fun x=>[(0,.fam (fun q=>.famx (fun k=>.by_ (x.2.1 q k)) (x.1 q)) x.2.2.1 [] [] 354 (.n x.2.2.2))]
 n2:=1
def rfS (T:TD):GenS where
 A:=(Nat->Nat)×(Nat->Nat->By)×Nat×Nat
 st:=domB T
 dec:=fun args H=>match args with
  | .slc b _ n (.n c)::_=>match H.get b with
    |some (.fam f _ _ _ _ _)=>some (rowsN f,rowsC f,n,c)
    |_=>none
  |_=>none
 dom:=fun a=>((∀q,a.1 q<=1000)/\1<=a.2.2.1/\a.2.2.1<=100/\a.2.2.1<=a.2.2.2)/\a.2.2.2<=1000
 args1:=fun a=>[.slc 0 0 a.2.2.1 (.n a.2.2.2)]
 blks1:=fun a=>[(0,.fam (fun q=>.famx (fun k=>.by_ (a.2.1 q k)) (a.1 q)) a.2.2.1 [] [] 354 (.n a.2.2.2))]
 next1:=1
 ros1:=[]
 p1:=1
 X:=(Nat->Nat)×(Nat->Nat->By)×Nat×Nat
 G:=fun a x=>x=(fun q=>a.1 (q+b1 a.1 a.2.1),fun q=>a.2.1 (q+b1 a.1 a.2.1),a.2.2.1-b1 a.1 a.2.1,a.2.2.2)
 val:=fun x=>.slc 0 0 x.2.2.1 (.n x.2.2.2)
 out:=fun x=>[(0,.fam (fun q=>.famx (fun k=>.by_ (x.2.1 q k)) (x.1 q)) x.2.2.1 [] [] 354 (.n x.2.2.2))]
 n2:=1
def rgS (T:TD):GenS where
 A:=Unit
 st:=domB T
 dec:=fun args _=>match args with
  | .lit (.slice none 0 0)::_=>some ()
  |_=>none
 dom:=fun _=>True
 args1:=fun _=>[ns]
 blks1:=fun _=>[]
 next1:=0
 ros1:=[]
 p1:=0
 X:=Unit
 G:=fun _ _=>True
 val:=fun _=>ns
 out:=fun _=>[]
 n2:=0
def rgU (T:TD):Tabs:=⟨fun f=>match f with
 |447=>some (noS)
 |_=>none,fun _=>none⟩
def czS (T:TD):GenS where
 A:=Unit
 st:=domB T
 dec:=fun _ _=>some ()
 dom:=fun _=>T.Ok/\allE (rn T) (rc T) (nR T)=true
 args1:=fun _=>[.sp (cv 9) 0,ctxA 0,.ite T.hd (trP 0) np,.fam (fun q=>trP (q+hN T)) (T.R-hN T)]
 blks1:=fun _=>[(0,ctxB)]
 next1:=1
 ros1:=[]
 p1:=1
 X:=Unit
 G:=fun _ _=>True
 val:=fun _=>ns
 out:=fun _=>[(0,ctxB)]
 n2:=1
def czU (T:TD):Tabs:=⟨fun f=>match f with
 |429=>some ((ccS T).spec)
 |430=>some ((gmS T).spec)
 |431=>some ((iteS (erS T) (fun a=>allE a.1 a.2.1 a.2.2.1) (ezS T).spec (erS T).spec))
 |432=>some ((orS (rfS T) (rgS T).spec))
 |_=>none,fun _=>none⟩
def czD (T:TD):LoopD where
 J:=Nat
 side:=fun k=>k<=T.R-hN T
 μ:=fun k=>T.R-hN T-k
 fn:=84
 p:=1
 s:=fun k=>[(0,.sp (cv 9) 0),(1,ctxA 0),(43,.fam (fun q=>trP (q+hN T)) (T.R-hN T)),(44,.lit (.int .i64 (T.R-hN T:Nat))),(45,.lit (.int .i64 (k:Nat))),(9,.slc 1 0 (k+1) (.n (nR T))),(10,.slc 2 0 (k+hN T) (.u 3 0))]
 b:=fun k=>[(0,ctxB),(1,.fam (fun q=>.famx (fun c=>.by_ (rc T q c)) (rn T q)) (k+1) [] [] 354 (.n (nR T))),(2,.fam (fun _=>.e0) (k+hN T) [] [] 445 (.u 3 1))]
 n:=4
 ros:=[]
 st:=domB T
 ways:=[{e:=.exit 0,X:=Unit,c:=fun _=>True,s:=fun _=>[(0,.sp (cv 9) 0),(9,.slc 1 0 (T.R-hN T+1) (.n (nR T))),(10,.slc 2 0 (T.R-hN T+hN T) (.u 3 0))],b:=fun _=>[(0,ctxB),(1,.fam (fun q=>.famx (fun c=>.by_ (rc T q c)) (rn T q)) ((T.R-hN T)+1) [] [] 354 (.n (nR T))),(2,.fam (fun _=>.e0) ((T.R-hN T)+hN T) [] [] 445 (.u 3 1))],n:=4}]
def crS (T:TD):GenS where
 A:=Unit
 st:=domB T
 dec:=fun _ _=>some ()
 dom:=fun _=>T.Ok/\allE (rn T) (rc T) (nR T)=false
 args1:=fun _=>[.sp (cv 9) 0,ctxA 0,.ite T.hd (trP 0) np,.fam (fun q=>trP (q+hN T)) (T.R-hN T)]
 blks1:=fun _=>[(0,ctxB)]
 next1:=1
 ros1:=[]
 p1:=1
 X:=(Nat->Nat)×(Nat->Nat->By)×Nat×Nat
 G:=fun _ x=>x=finR T
 val:=fun x=>.slc 1 0 x.2.2.1 (.n x.2.2.2)
 out:=fun x=>[(0,ctxB),(1,.fam (fun q=>.famx (fun k=>.by_ (x.2.1 q k)) (x.1 q)) x.2.2.1 [] [] 354 (.n x.2.2.2))]
 n2:=2
def zhS (T:TD):GenS where
 A:=By×Nat
 st:=domB T
 dec:=fun args _=>match args with
  | .by_ l:: .lit (.int _ (Int.ofNat c))::_=>some (l,c)
  |_=>none
 dom:=fun a=>(∀b∈a.1,b.toNat≠a.2)/\a.1.length<=bufMax/\a.2<256
 args1:=fun a=>[.by_ a.1,.lit (.int .u8 a.2)]
 blks1:=fun _=>[]
 next1:=0
 ros1:=[]
 p1:=0
 X:=Unit
 G:=fun a x=>True
 val:=fun x=>.lit (.bool false)
 out:=fun _=>[]
 n2:=0
def zhD (T:TD) (l:By) (c:Nat):LoopD where
 J:=Nat
 side:=fun i=>i<=l.length
 μ:=fun i=>l.length-i
 fn:=18
 p:=0
 s:=fun i=>[(0,.by_ l),(1,.lit (.int .u8 c)),(5,.lit (.int .i64 (i:Nat)))]
 b:=fun _=>[]
 n:=0
 ros:=[]
 st:=domB T
 ways:=[{e:=.exit 0,X:=Unit,c:=fun _=>True,s:=fun _=>[],b:=fun _=>[],n:=0}]
def fbS (T:TD):GenS where
 A:=Nat
 st:=domB T
 dec:=fun args _=>match args with
  | .sp ⟨4,i,0⟩ 0::_=>some i
  |_=>none
 dom:=fun i=>i<T.R/\0<T.C i/\T.C i<=12
 args1:=fun i=>[.sp (tr i) 0,.fn (.func 436) [] []]
 blks1:=fun _=>[]
 next1:=0
 ros1:=[]
 p1:=0
 X:=Nat
 G:=fun a x=>x=a
 val:=fun i=>.fam (fun q=>tdP i q) (T.C i)
 out:=fun _=>[]
 n2:=0
def fbD (T:TD) (i:Nat):LoopD where
 J:=Unit
 side:=fun _=>True
 μ:=fun _=>2*T.C i
 fn:=26
 p:=0
 s:=fun _=>[(1,.fn (.func 436) [] []),(5,.fn (.func 323) [] [.ptr 0 0,.ptr 1 0,.ptr 2 0]),(6,tdP i 0),(4,ns)]
 b:=fun _=>[(0,.row [.fn (.func 313) [] []] 287 (.n 1)),(1,.row [.fn (.func 312) [] []] 287 (.n 1)),(2,.row [.fn (.func 449) [] [.ptr 3 0]] 277 (.n 1)),(3,.row [.sp (tr i) 0] 62 (.n 1))]
 n:=4
 ros:=[]
 st:=domB T
 ways:=[{e:=.exit 0,X:=Unit,c:=fun _=>True,s:=fun _=>[(4,.fam (fun q=>tdP i q) (T.C i))],b:=fun _=>[],n:=0}]
def fbDA (T:TD) (i:Nat):LoopD where
 J:=Nat
 side:=fun j=>0<j/\j<T.C i
 μ:=fun j=>2*(T.C i-j)
 fn:=26
 p:=0
 s:=fun j=>[(1,.fn (.func 436) [] []),(5,.fn (.func 323) [] [.ptr 0 0,.ptr 1 0,.ptr 2 0]),(6,tdP i j),(4,.slc 4 0 j (.u 5 0))]
 b:=fun j=>[(0,.row [.fn (.func 313) [] []] 287 (.n 1)),(1,.row [.fn (.func 312) [] []] 287 (.n 1)),(2,.row [.fn (.func 449) [] [.ptr 3 0]] 277 (.n 1)),(3,.row [.sp (tr i) 0] 62 (.n 1)),(4,.fam (fun q=>tdP i q) j [] [] 62 (.u 5 1))]
 n:=6
 ros:=[]
 st:=domB T
 ways:=[]
def fbDB (T:TD) (i:Nat):LoopD where
 J:=Nat
 side:=fun j=>j<T.C i
 μ:=fun j=>2*(T.C i-j)-1
 fn:=26
 p:=0
 s:=fun j=>[(1,.fn (.func 436) [] []),(5,.fn (.func 323) [] [.ptr 0 0,.ptr 1 0,.ptr 2 0]),(6,txP i j),(4,.slc 4 0 (j+1) (.u 5 0))]
 b:=fun j=>[(0,.row [.fn (.func 313) [] []] 287 (.n 1)),(1,.row [.fn (.func 312) [] []] 287 (.n 1)),(2,.row [.fn (.func 449) [] [.ptr 3 0]] 277 (.n 1)),(3,.row [.sp (tr i) 0] 62 (.n 1)),(4,.fam (fun q=>tdP i q) (j+1) [] [] 62 (.u 5 1))]
 n:=6
 ros:=[]
 st:=domB T
 ways:=[]
def fbDZ (T:TD) (i:Nat):LoopD where
 J:=Unit
 side:=fun _=>True
 μ:=fun _=>0
 fn:=26
 p:=0
 s:=fun _=>[(1,.fn (.func 436) [] []),(5,.fn (.func 323) [] [.ptr 0 0,.ptr 1 0,.ptr 2 0]),(6,np),(4,.slc 4 0 (T.C i) (.u 5 0))]
 b:=fun _=>[(0,.row [.fn (.func 313) [] []] 287 (.n 1)),(1,.row [.fn (.func 312) [] []] 287 (.n 1)),(2,.row [.fn (.func 449) [] [.ptr 3 0]] 277 (.n 1)),(3,.row [.sp (tr i) 0] 62 (.n 1)),(4,.fam (fun q=>tdP i q) (T.C i) [] [] 62 (.u 5 1))]
 n:=6
 ros:=[]
 st:=domB T
 ways:=[]
def fbDL (T:TD) (i:Nat):List LoopD:=[fbD T i,fbDA T i,fbDB T i,fbDZ T i]
def caS (T:TD):GenS where
 A:=Unit
 st:=domB T
 dec:=fun _ _=>some ()
 dom:=fun _=>T.Ok
 args1:=fun _=>[.ite T.hd (trP 0) np,.fam (fun q=>trP (q+hN T)) (T.R-hN T)]
 blks1:=fun _=>[]
 next1:=0
 ros1:=[]
 p1:=0
 X:=Unit
 G:=fun _ _=>True
 val:=fun _=>.fam (fun _=>.str []) (T.C 0)
 out:=fun _=>[]
 n2:=0
def caU (T:TD):Tabs:=⟨fun f=>match f with
 |435=>some ((fbS T).spec)
 |_=>none,fun _=>none⟩
def caD (T:TD):LoopD where
 J:=Unit
 side:=fun _=>True
 μ:=fun _=>T.C 0+1
 fn:=32
 p:=0
 s:=fun _=>[(18,.fam (fun q=>tdP 0 q) (T.C 0)),(19,.lit (.int .i64 (T.C 0:Nat))),(20,.lit (.int .i64 (0:Nat))),(7,ns)]
 b:=fun _=>[]
 n:=0
 ros:=[]
 st:=domB T
 ways:=[{e:=.exit 0,X:=Unit,c:=fun _=>True,s:=fun _=>[(7,.fam (fun _=>.str []) (T.C 0))],b:=fun _=>[],n:=0}]
def caDE (T:TD):LoopD where
 J:=Nat
 side:=fun k=>0<k/\k<=T.C 0
 μ:=fun k=>T.C 0-k
 fn:=32
 p:=0
 s:=fun k=>[(18,.fam (fun q=>tdP 0 q) (T.C 0)),(19,.lit (.int .i64 (T.C 0:Nat))),(20,.lit (.int .i64 (k:Nat))),(7,.slc 0 0 k (.u 1 0))]
 b:=fun k=>[(0,.fam (fun _=>.str []) k [] [] 9 (.u 1 1))]
 n:=2
 ros:=[]
 st:=domB T
 ways:=[]
def f9S (T:TD):GenS where
 A:=Unit
 st:=domB T
 dec:=fun args _=>match args with
  | .sp ⟨2,0,0⟩ 0:: .fn (.func 437) _ _::_=>some ()
  |_=>none
 dom:=fun _=>T.Ok
 args1:=fun _=>[.sp tbl 0,.fn (.func 437) [] []]
 blks1:=fun _=>[]
 next1:=0
 ros1:=[]
 p1:=0
 X:=Unit
 G:=fun _ _=>True
 val:=fun _=>np
 out:=fun _=>[]
 n2:=0
def f9D (T:TD):LoopD where
 J:=SId×Bool
 side:=T.SdT
 μ:=T.mu
 fn:=22
 p:=0
 s:=fun j=>[(1,.fn (.func 437) [] []),(5,.fn (.func 323) [] [.ptr 0 0,.ptr 1 0,.ptr 2 0]),(6,nodeV j)]
 b:=fun _=>[(0,.row [.fn (.func 313) [] []] 287 (.n 1)),(1,.row [.fn (.func 312) [] []] 287 (.n 1)),(2,.row [.fn (.func 438) [] [.ptr 3 0]] 277 (.n 1)),(3,.row [.sp tbl 0] 62 (.n 1))]
 n:=4
 ros:=[]
 st:=domB T
 ways:=[{e:=.exit 0,X:=Unit,c:=fun _=>True,s:=fun _=>[],b:=fun _=>[],n:=0}]
def cnS (T:TD):GenS where
 A:=Unit
 st:=domB T
 dec:=fun _ _=>some ()
 dom:=fun _=>T.Ok
 args1:=fun _=>[.top,.sp tbl 0]
 blks1:=fun _=>[]
 next1:=0
 ros1:=[]
 p1:=0
 X:=Unit
 G:=fun _ _=>True
 val:=fun _=>ns
 out:=fun _=>[]
 n2:=0
def cnU (T:TD):Tabs:=⟨fun f=>match f with
 |422=>some ((f9S T).spec)
 |_=>none,fun _=>none⟩
def kzS (T:TD):GenS where
 A:=Unit
 st:=domB T
 dec:=fun _ _=>some ()
 dom:=fun _=>T.Ok/\allE (rn T) (rc T) (nR T)=true
 args1:=fun _=>[.sp (cv 9) 0,ctxA 0,.sp tbl 0]
 blks1:=fun _=>[(0,ctxB)]
 next1:=1
 ros1:=[]
 p1:=1
 X:=Unit
 G:=fun _ _=>True
 val:=fun _=>np
 out:=fun _=>[(0,ctxB)]
 n2:=1
def kzU (T:TD):Tabs:=⟨fun f=>match f with
 |422=>some ((f3S T).spec)
 |413=>some ((shS T).spec)
 |414=>some ((nrS T).spec)
 |415=>some ((czS T).spec)
 |_=>none,fun _=>none⟩
def tNS (T:TD):GenS where
 A:=Unit
 st:=domB T
 dec:=fun args _=>match args with
  |_::_::_:: .sp ⟨2,_,_⟩ 0::_=>some ()
  |_=>none
 dom:=fun _=>T.Ok/\allE (rn T) (rc T) (nR T)=true
 args1:=fun _=>[.sp (cv 9) 0,ctxA 1,.ifc 144 (.ptr 0 0),.sp tbl 0]
 blks1:=fun _=>bufN 0++[(1,ctxB)]
 next1:=2
 ros1:=[]
 p1:=2
 X:=Unit
 G:=fun _ _=>True
 val:=fun _=>.lit (.int .i64 (0:Nat))
 out:=fun _=>bufN 0++[(1,ctxB)]
 n2:=2
def tNU (T:TD):Tabs:=⟨fun f=>match f with
 |406=>some ((kzS T).spec)
 |_=>none,fun _=>none⟩
def tgYS (T:TD):GenS where
 A:=By×Nat×Nat
 st:=domB T
 dec:=fun args H=>match args with
  | .ptr b 0:: .lit (.int _ (Int.ofNat n))::_=>match H.get b with
    |some (.row (.slc k 0 _ (.n d)::_) _ _)=>match H.get k with
     |some (.bytes l _ _)=>some (l,n,d)
     |_=>none
    |_=>none
  |_=>none
 dom:=fun a=>(a.1.length<=a.2.2/\a.2.2<9223372036854775808/\a.1.length+a.2.1<=bufMax)/\a.1.length+a.2.1<=a.2.2
 args1:=fun a=>[.ptr 0 0,.lit (.int .i64 a.2.1)]
 blks1:=fun a=>bufO 0 1 a.2.2 a.1
 next1:=3
 ros1:=[]
 p1:=2
 X:=By×Nat×Nat
 G:=fun a x=>x=a
 val:=fun x=>.tup [.lit (.int .i64 x.1.length),.lit (.bool true)]
 out:=fun x=>[(0,.row [.slc 1 0 (x.1.length+x.2.1) (.n x.2.2),.lit (.int .i64 0),.lit (.int .i8 0)] 141 (.n 3)),(1,.bytes x.1 5 (.n x.2.2))]
 n2:=3
def tgNS (T:TD):GenS where
 A:=By×Nat×Nat
 st:=domB T
 dec:=fun args H=>match args with
  | .ptr b 0:: .lit (.int _ (Int.ofNat n))::_=>match H.get b with
    |some (.row (.slc k 0 _ (.n d)::_) _ _)=>match H.get k with
     |some (.bytes l _ _)=>some (l,n,d)
     |_=>none
    |_=>none
  |_=>none
 dom:=fun a=>(a.1.length<=a.2.2/\a.2.2<9223372036854775808/\a.1.length+a.2.1<=bufMax)/\a.2.2<a.1.length+a.2.1
 args1:=fun a=>[.ptr 0 0,.lit (.int .i64 a.2.1)]
 blks1:=fun a=>bufO 0 1 a.2.2 a.1
 next1:=3
 ros1:=[]
 p1:=2
 X:=By×Nat×Nat
 G:=fun a x=>x=a
 val:=fun x=>.tup [.lit (.int .i64 (0:Nat)),.lit (.bool false)]
 out:=fun x=>bufO 0 1 x.2.2 x.1
 n2:=3
def tgSp (T:TD):Sx.Spec:=iteS (tgYS T) (fun a=>Nat.ble (a.1.length+a.2.1) a.2.2) (tgYS T).spec (tgNS T).spec
def grS (T:TD):GenS where
 A:=By×Nat×Nat
 st:=domB T
 dec:=fun args H=>match args with
  | .ptr b 0:: .lit (.int _ (Int.ofNat n))::_=>match H.get b with
    |some (.row (.slc k 0 _ (.n d)::_) _ _)=>match H.get k with
     |some (.bytes l _ _)=>some (l,n,d)
     |_=>none
    |_=>none
  |_=>none
 dom:=fun a=>(a.1.length<=a.2.2/\a.2.2<9223372036854775808/\a.1.length+a.2.1<=bufMax)/\a.2.2<a.1.length+a.2.1
 args1:=fun a=>[.ptr 0 0,.lit (.int .i64 a.2.1)]
 blks1:=fun a=>bufO 0 1 a.2.2 a.1
 next1:=3
 ros1:=[]
 p1:=1
 X:=By×Nat
 G:=fun a x=>x.1.length=a.1.length+a.2.1/\x.1.take a.1.length=a.1/\x.2=a.1.length
 val:=fun x=>.lit (.int .i64 x.2)
 out:=fun x=>bufB 0 1 2 x.1
 n2:=3
def grU (T:TD):Tabs:=⟨fun f=>match f with
 |355=>some ((tgNS T).spec)
 |_=>none,fun f=>match f with
 |378=>some (recA0)
 |_=>none⟩
def woS (T:TD):GenS where
 A:=By×By×Nat
 st:=domB T
 dec:=fun _ _=>none
 dom:=fun a=>a.1.length<=a.2.2/\a.2.2<9223372036854775808/\a.1.length+a.2.1.length<=bufMax
 args1:=fun a=>[.ptr 0 0,.str a.2.1]
 blks1:=fun a=>bufO 0 1 a.2.2 a.1
 next1:=3
 ros1:=[]
 p1:=1
 X:=By
 G:=fun a x=>x=a.1++a.2.1
 val:=fun _=>.top
 out:=fun x=>bufB 0 1 2 x
 n2:=3
def woU (T:TD):Tabs:=⟨fun f=>match f with
 |355=>some (tgSp T)
 |356=>some ((grS T).spec)
 |_=>none,fun _=>none⟩
def wsS (T:TD):GenS where
 A:=By×By
 st:=domB T
 dec:=fun args H=>match args with
  | .ptr b 0:: .str p::_=>match H.get b with
    |some (.row (.slc k 0 _ _::_) _ _)=>match H.get k with
     |some (.bytes l _ _)=>some (l,p)
     |_=>none
    |_=>none
  |_=>none
 dom:=fun a=>a.1.length+a.2.length<=bufMax
 args1:=fun a=>[.ptr 0 0,.str a.2]
 blks1:=fun a=>bufB 0 1 2 a.1
 next1:=3
 ros1:=[]
 p1:=1
 X:=By
 G:=fun a x=>x=a.1++a.2
 val:=fun _=>.top
 out:=fun x=>bufB 0 1 2 x
 n2:=3
def ytS (T:TD):GenS where
 A:=By×Nat×Nat
 st:=domB T
 dec:=fun args H=>match args with
  |_::_:: .ifc _ (.ptr b 0):: .sp ⟨6,i,j⟩ 0::_=>match H.get b with
   |some (.row (.slc k 0 _ _::_) _ _)=>match H.get k with
    |some (.bytes l _ _)=>some (l,i,j)
    |_=>none
   |_=>none
  |_=>none
 dom:=fun a=>(WT (T.tx a.2.1 a.2.2)/\(T.tx a.2.1 a.2.2).length<=2147483647)/\fits 2147483647 a.1
 args1:=fun a=>[.sp (cv 0) 0,ctxA 1,.ifc 144 (.ptr 0 0),.sp (tx a.2.1 a.2.2) 0]
 blks1:=fun a=>bufC 0 1 2 3 a.1
 next1:=4
 ros1:=[]
 p1:=2
 X:=By
 G:=fun a x=>x=a.1++T.tx a.2.1 a.2.2
 val:=fun _=>.lit (.int .i64 1)
 out:=fun x=>bufC 0 1 2 3 x
 n2:=4
def ytU (T:TD):Tabs:=⟨fun f=>match f with
 |79=>some ((gtS T).spec)
 |149=>some ((zeS T).spec)
 |469=>some ((esS T).spec)
 |335=>some ((wsS T).spec)
 |_=>none,fun _=>none⟩
def ydS (T:TD):GenS where
 A:=By×Nat×Nat
 st:=domB T
 dec:=fun args H=>match args with
  |_::_:: .ifc _ (.ptr b 0):: .sp ⟨5,i,j⟩ 0::_=>match H.get b with
   |some (.row (.slc k 0 _ _::_) _ _)=>match H.get k with
    |some (.bytes l _ _)=>some (l,i,j)
    |_=>none
   |_=>none
  |_=>none
 dom:=fun a=>T.hasT a.2.1 a.2.2=true/\(WT (T.tx a.2.1 a.2.2)/\(T.tx a.2.1 a.2.2).length<=2147483647)/\fits 2147483647 a.1
 args1:=fun a=>[.sp (cv 0) 0,ctxA 1,.ifc 144 (.ptr 0 0),.sp (td a.2.1 a.2.2) 0]
 blks1:=fun a=>bufC 0 1 2 3 a.1
 next1:=4
 ros1:=[]
 p1:=2
 X:=By
 G:=fun a x=>x=a.1++T.tx a.2.1 a.2.2
 val:=fun _=>.lit (.int .i64 1)
 out:=fun x=>bufC 0 1 2 3 x
 n2:=4
def ydU (T:TD):Tabs:=⟨fun f=>match f with
 |41=>some ((ghS T).spec)
 |73=>some ((ytS T).spec)
 |_=>none,fun _=>none⟩
def yeS (T:TD):GenS where
 A:=By×Nat×Nat
 st:=domB T
 dec:=fun args H=>match args with
  |_::_:: .ifc _ (.ptr b 0):: .sp ⟨5,i,j⟩ 0::_=>match H.get b with
   |some (.row (.slc k 0 _ _::_) _ _)=>match H.get k with
    |some (.bytes l _ _)=>some (l,i,j)
    |_=>none
   |_=>none
  |_=>none
 dom:=fun a=>T.hasT a.2.1 a.2.2=false/\fits 0 a.1
 args1:=fun a=>[.sp (cv 0) 0,ctxA 1,.ifc 144 (.ptr 0 0),.sp (td a.2.1 a.2.2) 0]
 blks1:=fun a=>bufC 0 1 2 3 a.1
 next1:=4
 ros1:=[]
 p1:=2
 X:=By
 G:=fun a x=>x=a.1
 val:=fun _=>.lit (.int .i64 1)
 out:=fun x=>bufC 0 1 2 3 x
 n2:=4
def ymS (T:TD):GenS where
 A:=By×Nat
 st:=domB T
 dec:=fun args H=>match args with
  |_::_:: .ifc _ (.ptr b 0):: .fam f _::_=>match H.get b with
   |some (.row (.slc k 0 _ _::_) _ _)=>match H.get k with
    |some (.bytes l _ _)=>(match f 0 with| .sp ⟨5,i,_⟩ _=>some (l,i)|_=>none)
    |_=>none
   |_=>none
  |_=>none
 dom:=fun a=>(a.2<T.R/\T.Ok)/\fits 25769803768 a.1
 args1:=fun a=>[.sp (cv 0) 0,ctxA 1,.ifc 144 (.ptr 0 0),.fam (fun q=>tdP a.2 q) (T.C a.2)]
 blks1:=fun a=>bufC 0 1 2 3 a.1
 next1:=4
 ros1:=[]
 p1:=2
 X:=By
 G:=fun a x=>x=a.1++catT T a.2 (T.C a.2)
 val:=fun _=>undA
 out:=fun x=>bufC 0 1 2 3 x
 n2:=4
def ymU (T:TD):Tabs:=⟨fun f=>match f with
 |51=>some ((iteS (ydS T) (fun a=>T.hasT a.2.1 a.2.2) (ydS T).spec (yeS T).spec))
 |_=>none,fun _=>none⟩
def ymD (T:TD) (l:By) (i:Nat):LoopD where
 J:=Nat
 side:=fun k=>k<=T.C i
 μ:=fun k=>T.C i-k
 fn:=22
 p:=2
 s:=fun k=>[(0,.sp (cv 0) 0),(1,ctxA 1),(2,.ifc 144 (.ptr 0 0)),(10,.fam (fun q=>tdP i q) (T.C i)),(11,.lit (.int .i64 (T.C i:Nat))),(12,.lit (.int .i64 (k:Nat)))]
 b:=fun k=>bufC 0 1 2 3 (l++catT T i (k))
 n:=4
 ros:=[]
 st:=domB T
 ways:=[{e:=.exit 0,X:=Unit,c:=fun _=>True,s:=fun _=>[],b:=fun _=>bufC 0 1 2 3 (l++catT T i (T.C i)),n:=4}]
def acS (T:TD):GenS where
 A:=Nat
 st:=domB T
 dec:=fun args _=>match args with
  | .sp ⟨4,i,0⟩ 0::_=>some i
  |_=>none
 dom:=fun i=>0<T.C i/\T.C i<=12
 args1:=fun i=>[.sp (tr i) 0]
 blks1:=fun _=>[]
 next1:=0
 ros1:=[]
 p1:=0
 X:=Nat
 G:=fun a x=>x=a
 val:=fun a=>.fam (fun q=>tdP a q) (T.C a)
 out:=fun _=>[]
 n2:=0
def acD (T:TD) (i:Nat):LoopD where
 J:=Unit
 side:=fun _=>True
 μ:=fun _=>T.C i+1
 fn:=19
 p:=0
 s:=fun _=>[(2,ns),(3,tdP i 0)]
 b:=fun _=>[]
 n:=0
 ros:=[]
 st:=domB T
 ways:=[{e:=.exit 0,X:=Unit,c:=fun _=>True,s:=fun _=>[(2,.fam (fun q=>tdP i q) (T.C i))],b:=fun _=>[],n:=0}]
def acDE (T:TD) (i:Nat):LoopD where
 J:=Nat
 side:=fun k=>0<k/\k<=T.C i
 μ:=fun k=>T.C i-k
 fn:=19
 p:=0
 s:=fun k=>[(2,.slc 0 0 k (.u 1 0)),(3,.ite (Nat.blt k (T.C i)) (tdP i k) np)]
 b:=fun k=>[(0,.fam (fun q=>tdP i q) k [] [] 62 (.u 1 1))]
 n:=2
 ros:=[]
 st:=domB T
 ways:=[]
def yrS (T:TD):GenS where
 A:=By×Nat
 st:=domB T
 dec:=fun args H=>match args with
  |_::_:: .ifc _ (.ptr b 0):: .sp ⟨4,i,0⟩ 0::_=>match H.get b with
   |some (.row (.slc k 0 _ _::_) _ _)=>match H.get k with
    |some (.bytes l _ _)=>some (l,i)
    |_=>none
   |_=>none
  |_=>none
 dom:=fun a=>(a.2<T.R/\T.Ok)/\fits 25769803772 a.1
 args1:=fun a=>[.sp (cv 0) 0,ctxA 1,.ifc 144 (.ptr 0 0),.sp (tr a.2) 0]
 blks1:=fun a=>bufC 0 1 2 3 a.1
 next1:=4
 ros1:=[]
 p1:=2
 X:=By
 G:=fun a x=>x=a.1++rowF T a.2
 val:=fun _=>.lit (.int .i64 1)
 out:=fun x=>bufC 0 1 2 3 x
 n2:=4
def yrU (T:TD):Tabs:=⟨fun f=>match f with
 |41=>some ((ghS T).spec)
 |335=>some ((wsS T).spec)
 |264=>some ((acS T).spec)
 |471=>some ((ymS T).spec)
 |_=>none,fun _=>none⟩
def yRS (T:TD):GenS where
 A:=By
 st:=domB T
 dec:=fun args H=>match args with
  |_::_:: .ifc _ (.ptr b 0):: .fam f _::_=>match H.get b with
   |some (.row (.slc k 0 _ _::_) _ _)=>match H.get k with
    |some (.bytes l _ _)=>(match f 0 with| .sp ⟨4,_,_⟩ _=>some l|_=>none)
    |_=>none
   |_=>none
  |_=>none
 dom:=fun a=>T.Ok/\fits 335007448990 a
 args1:=fun a=>[.sp (cv 0) 0,ctxA 1,.ifc 144 (.ptr 0 0),.fam (fun q=>trP q) (T.R)]
 blks1:=fun a=>bufC 0 1 2 3 a
 next1:=4
 ros1:=[]
 p1:=2
 X:=By
 G:=fun a x=>x=a++rowsF T (T.R)
 val:=fun _=>undA
 out:=fun x=>bufC 0 1 2 3 x
 n2:=4
def yRU (T:TD):Tabs:=⟨fun f=>match f with
 |51=>some ((yrS T).spec)
 |_=>none,fun _=>none⟩
def yRD (T:TD) (l:By):LoopD where
 J:=Nat
 side:=fun k=>k<=T.R
 μ:=fun k=>T.R-k
 fn:=22
 p:=2
 s:=fun k=>[(0,.sp (cv 0) 0),(1,ctxA 1),(2,.ifc 144 (.ptr 0 0)),(10,.fam (fun q=>trP q) (T.R)),(11,.lit (.int .i64 (T.R:Nat))),(12,.lit (.int .i64 (k:Nat)))]
 b:=fun k=>bufC 0 1 2 3 (l++rowsF T (k))
 n:=4
 ros:=[]
 st:=domB T
 ways:=[{e:=.exit 0,X:=Unit,c:=fun _=>True,s:=fun _=>[],b:=fun _=>bufC 0 1 2 3 (l++rowsF T (T.R)),n:=4}]
end Tk
