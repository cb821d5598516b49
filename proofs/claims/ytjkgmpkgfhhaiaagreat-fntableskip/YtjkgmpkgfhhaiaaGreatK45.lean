/- Lemmas of this claim; the last text says what is proved. -/
import Derived.Test.YtjkgmpkgfhhaiaaGreatK44
import Derived.Test.YtjkgmpkgfhhaiaaGreatK16
set_option linter.all false
namespace Tk
open Go Go.Sx Go.Proofs
open Q
variable [Syms]
def ncS (T:TD):GenS where
 A:=Unit
 st:=noSt
 dec:=fun _ _=>some ()
 dom:=fun _=>True
 args1:=fun _=>[.slc 0 0 1 (.n 1)]
 blks1:=fun _=>[(0,.row [.fn (.func 37) [] [.ptr 1 0]] 53 (.n 1)),(1,.row [.slc 2 0 3 (.n 3)] 46 (.n 1)),(2,.row [.ifc 66 (.ptr 3 0),.ifc 78 (.ptr 4 0),.ifc 164 (.ptr 5 0)] 42 (.n 3)),(3,.row [] 65 (.n 0)),(4,.row cmR 77 (.n 10)),(5,.row [.lit .nilIface,.str T.span,.str T.keep,.lit (.bool true),.lit (.bool T.promote),.lit (.bool T.pres),.str T.pad] 166 (.n 7))]
 next1:=6
 ros1:=[]
 p1:=0
 X:=Unit
 G:=fun _ _=>True
 val:=fun _=>.ptr 0 0
 out:=fun _=>cvL T
 n2:=13
def ncR (T:TD):Prop:=
 letI c3:=True/\True;letI b3:=[(42:UInt8),42];letI a3:=Value.bool T.promote;letI y2:=True/\c3;letI z2:=[(96:UInt8),96,96];letI w2:=[(97:UInt8),116,120];letI v2:=[(98:UInt8),97,115,101];letI t2:=[(104:UInt8),101,97,100];letI u2:=[(109:UInt8),101,116,97];letI n2:=Value.int .i64 (Int.ofNat 100);letI p2:=Value.int .i64 (Int.ofNat 500);letI q2:=Value.int .i64 (Int.ofNat 520);letI r2:=[(42:UInt8),32,42,32,42];letI s2:=[(108:UInt8),105,110,107];letI g2:=Value.int .i64 (Int.ofNat 1000);letI h2:=Value.int .i64 (Int.ofNat 1100);letI k2:=[(42:UInt8)]=[(42:UInt8)];letI m2:=[(45:UInt8)]=[(45:UInt8)];letI f2:=[(116:UInt8),97,98,108,101];letI c2:=Value.bool false=Value.bool false;letI d2:=[(115:UInt8),116,121,108,101];letI e2:=[(105:UInt8),110,112,117,116];letI f1:=Value.int IntKind.i32 (Int.ofNat 92);letI g1:=Value.int IntKind.i32 (Int.ofNat 42);letI h1:=Value.int IntKind.i32 (Int.ofNat 95);letI k1:=Value.int IntKind.i32 (Int.ofNat 45);letI m1:=Value.int IntKind.i32 (Int.ofNat 43);letI n1:=Value.int IntKind.i32 (Int.ofNat 46);letI p1:=Value.int IntKind.i32 (Int.ofNat 62);letI q1:=Value.int IntKind.i32 (Int.ofNat 36);letI r1:=Value.int IntKind.i32 (Int.ofNat 35);letI s1:=Value.int IntKind.i32 (Int.ofNat 61);letI t1:=Value.int IntKind.i32 (Int.ofNat 91);letI u1:=Value.int IntKind.i32 (Int.ofNat 93);letI v1:=Value.int IntKind.i32 (Int.ofNat 40);letI w1:=Value.int IntKind.i32 (Int.ofNat 41);letI y1:=Value.int IntKind.i32 (Int.ofNat 33);letI z1:=Value.int IntKind.i32 (Int.ofNat 96);letI a2:=Value.int IntKind.i32 (Int.ofNat 34);letI b2:=Value.int IntKind.i32 (Int.ofNat 39);letI d1:=Value.int IntKind.i32 (Int.ofNat 124);letI e1:=Value.int IntKind.i32 (Int.ofNat 126);letI a1:=b3=b3;letI b1:=[(115:UInt8),99,114,105,112,116];letI c1:=[(105:UInt8),102,114,97,109,101];letI z:=[(114:UInt8),101,110,100,101,114];letI y:=[(105:UInt8),110,108,105,110,101,100];letI w:=z2=z2;letI u:=[(35:UInt8),99,111,109,109,101,110,116];letI v:=[(116:UInt8),101,120,116,97,114,101,97];letI t:=[(110:UInt8),111,115,99,114,105,112,116];letI s:=w2=w2;letI r:=c3/\True/\c3/\True;letI p:=True/\True/\True/\True/\y2;letI q:=[(99:UInt8),111,109,109,111,110,109,97,114,107];letI m:=p2=p2;letI n:=r2=r2;letI k:=g2=g2;letI h:=z=z;letI g:=True/\True/\True/\p;letI f:=y=y;letI e:=True/\g;letI d:=g/\True;letI c:=c3/\True/\d/\True;letI b:=True/\True/\True/\True/\True/\True/\True/\True/\True/\True/\e;letI a:=True/\b;∃(x:Unit),True/\noSt=noSt/\True/\(e/\y2/\(c3/\True/\c3/\True/\r)/\r/\(c3/\True/\c)/\c/\(True/\True/\True/\True/\True/\True/\True/\True/\True/\True/\True/\True/\True/\True/\True/\True/\True/\True/\True/\a)/\a/\b/\p/\True/\d)/\([]:List UInt8)=[]/\v2=v2/\q=q/\f2=f2/\n2=n2/\k/\m/\h2=h2/\m/\m/\m/\q2=q2/\k2/\a1/\n/\m2/\c2/\w/\s/\f/\h/\h/\k/\m/\k2/\a1/\n/\m2/\c2/\w/\s/\f/\h/\h/\k/\f1=f1/\g1=g1/\h1=h1/\k1=k1/\m1=m1/\n1=n1/\p1=p1/\d1=d1/\q1=q1/\r1=r1/\s1=s1/\t1=t1/\u1=u1/\v1=v1/\w1=w1/\y1=y1/\e1=e1/\z1=z1/\a2=a2/\b2=b2/\u=u/\t2=t2/\b1=b1/\d2=d2/\s2=s2/\u2=u2/\c1=c1/\t=t/\e2=e2/\v=v/\T.span=T.span/\T.keep=T.keep/\Value.bool true=Value.bool true/\a3=a3/\Value.bool T.pres=Value.bool T.pres/\T.pad=T.pad/\k2/\a1/\n/\m2/\c2/\w/\s/\f/\h/\h/\True
theorem nc_r (T:TD):ncR T:=by
 unfold ncR
 refine⟨(),?_⟩
 repeat' (first|exact trivial|exact rfl|exact Nat.le_refl _|refine And.intro ?_ ?_|omega)
theorem nc_fok:FunOk Tryz.prog 21:=⟨Tryz.f21,by kernel_rfl,rfl,by kernel_rfl⟩
set_option maxRecDepth 1000000 in
theorem nc_ok (T:TD):(ncS T).Body Tryz.prog 21/\(ncS T).BodyD Tryz.prog 21:=by
 refine genS_body (fn:=Tryz.f21) (b:=(bodyOf Tryz.f21)) (LT:=fun _=>[]) ftOk (nofOk) 1000 (fun a ha=>LTok.nil) (by kernel_rfl) (by kernel_rfl) ?_
 exact fun a ha=>Ho.of (ncR T) (by kernel_rfl) (nc_r T)
def mcS (T:TD):GenS where
 A:=By×By
 st:=noSt
 dec:=fun args _=>match args with
  | .agg l::_=>some (decC l)
  |_=>none
 dom:=fun a=>thd a.1/\a.2≠[]
 args1:=fun a=>[.agg (elA (.str a.1) (.fmw (fun _=>txA a.2) 5 1))]
 blks1:=fun _=>[]
 next1:=0
 ros1:=[]
 p1:=0
 X:=By×By
 G:=fun a x=>x=a
 val:=fun _=>.ptr 0 0
 out:=fun x=>[(0,nodeB np (.ptr 1 0) (.ptr 1 0) np np 3 (.str x.1)),(1,nodeB (.ptr 0 0) np np np np 1 (.str x.2))]
 n2:=2
def meS (T:TD):GenS where
 A:=By×By
 st:=noSt
 dec:=fun args _=>match args with
  | .agg l::_=>some (decC l)
  |_=>none
 dom:=fun a=>thd a.1/\a.2=[]
 args1:=fun a=>[.agg (elA (.str a.1) .e0)]
 blks1:=fun _=>[]
 next1:=0
 ros1:=[]
 p1:=0
 X:=By×By
 G:=fun a x=>x=a
 val:=fun _=>.ptr 0 0
 out:=fun x=>[(0,nodeB np np np np np 3 (.str x.1))]
 n2:=1
def mrS (T:TD):GenS where
 A:=(Nat->By)×(Nat->By)×Nat
 st:=noSt
 dec:=fun args _=>match args with
  | .agg [_,_,_,_,.fmw f _ n]::_=>some (fun j=>(decC (f j)).1,fun j=>(decC (f j)).2,n)
  |_=>none
 dom:=fun a=>(0<a.2.2/\a.2.2<=1000)/\∀j,j<a.2.2->thd (a.1 j)
 args1:=fun a=>[.agg (rowA a.1 a.2.1 a.2.2)]
 blks1:=fun _=>[]
 next1:=0
 ros1:=[]
 p1:=0
 X:=(Nat->By)×(Nat->By)×Nat
 G:=fun a x=>x=a
 val:=fun _=>.ptr 0 0
 out:=fun x=>[(0,nodeQ np (.ptr 2 0) (.ptr 1 0) np np 3 s_tr (.mp (qR x.1 x.2.1 x.2.2)))]
 n2:=3
def mrU (T:TD):Tabs:=⟨fun f=>match f with
 |25=>some ((iteS (mcS T) (fun a=>nilB a.2) (meS T).specV (mcS T).specV))
 |_=>none,fun _=>none⟩
def mrD (T:TD) (h:Nat->By) (t:Nat->By) (n:Nat):LoopD where
 J:=Unit
 side:=fun _=>True
 μ:=fun _=>n+1
 fn:=68
 p:=0
 s:=fun _=>[(3,.ptr 0 0),(56,.fmw (fun j=>cellA (h j) (t j)) 5 n),(57,.lit (.int .i64 (n:Nat))),(58,.lit (.int .i64 (0:Nat)))]
 b:=fun _=>[(0,nodeB np np np np np 3 s_tr)]
 n:=1
 ros:=[]
 st:=noSt
 ways:=[{e:=.exit 3,X:=Unit,c:=fun _=>True,s:=fun _=>[(3,.ptr 0 0)],b:=fun _=>[(0,nodeQ np (.ptr 2 0) (.ptr 1 0) np np 3 s_tr (.mp (qR h t n)))],n:=3}]
def mrDE (T:TD) (h:Nat->By) (t:Nat->By) (n:Nat):LoopD where
 J:=Nat
 side:=fun k=>0<k/\k<=n
 μ:=fun k=>n-k
 fn:=68
 p:=0
 s:=fun k=>[(3,.ptr 0 0),(56,.fmw (fun j=>cellA (h j) (t j)) 5 n),(57,.lit (.int .i64 (n:Nat))),(58,.lit (.int .i64 (k:Nat)))]
 b:=fun k=>[(0,nodeQ np (.ptr 2 0) (.ptr 1 0) np np 3 s_tr ns),(1,nodeQ (.ptr 0 0) (.ite (!nilB (t (k-1))) (.ptr 3 0) np) (.ite (!nilB (t (k-1))) (.ptr 3 0) np) (.ite (Nat.beq k 1) np (.ptr 4 0)) np 3 (.str (h (k-1))) (.mp (qT h t k)))]
 n:=5
 ros:=[]
 st:=noSt
 ways:=[]
def mgS (T:TD):GenS where
 A:=(Nat->Nat->By)×(Nat->Nat->By)×(Nat->Nat)×Nat
 st:=noSt
 dec:=fun args _=>match args with
  | .agg [_,_,_,_,.fmw f _ n]::_=>some (fun i=>(decR (f i)).1,fun i=>(decR (f i)).2.1,fun i=>(decR (f i)).2.2,n)
  |_=>none
 dom:=fun a=>(0<a.2.2.2/\a.2.2.2<=1000)/\∀i,i<a.2.2.2->(0<a.2.2.1 i/\a.2.2.1 i<=1000)/\∀j,j<a.2.2.1 i->thd (a.1 i j)
 args1:=fun a=>[.agg (bodyA a.1 a.2.1 a.2.2.1 a.2.2.2)]
 blks1:=fun _=>[]
 next1:=0
 ros1:=[]
 p1:=0
 X:=(Nat->Nat->By)×(Nat->Nat->By)×(Nat->Nat)×Nat
 G:=fun a x=>x=a
 val:=fun _=>.ptr 0 0
 out:=fun x=>[(0,nodeQ np (.ptr 2 0) (.ptr 1 0) np np 3 s_tbody (.mp (qV x.1 x.2.1 x.2.2.1 x.2.2.2 0 1 2 [0])))]
 n2:=3
def mgU (T:TD):Tabs:=⟨fun f=>match f with
 |25=>some ((mrS T).specV)
 |_=>none,fun _=>none⟩
def mgD (T:TD) (h:Nat->Nat->By) (t:Nat->Nat->By) (C:Nat->Nat) (n:Nat):LoopD where
 J:=Unit
 side:=fun _=>True
 μ:=fun _=>n+1
 fn:=68
 p:=0
 s:=fun _=>[(3,.ptr 0 0),(56,.fmw (fun i=>rowA (h i) (t i) (C i)) 5 n),(57,.lit (.int .i64 (n:Nat))),(58,.lit (.int .i64 (0:Nat)))]
 b:=fun _=>[(0,nodeB np np np np np 3 s_tbody)]
 n:=1
 ros:=[]
 st:=noSt
 ways:=[{e:=.exit 3,X:=Unit,c:=fun _=>True,s:=fun _=>[(3,.ptr 0 0)],b:=fun _=>[(0,nodeQ np (.ptr 2 0) (.ptr 1 0) np np 3 s_tbody (.mp (qV h t C n 0 1 2 [0])))],n:=3}]
def mgDE (T:TD) (h:Nat->Nat->By) (t:Nat->Nat->By) (C:Nat->Nat) (n:Nat):LoopD where
 J:=Nat
 side:=fun k=>0<k/\k<=n
 μ:=fun k=>n-k
 fn:=68
 p:=0
 s:=fun k=>[(3,.ptr 0 0),(56,.fmw (fun i=>rowA (h i) (t i) (C i)) 5 n),(57,.lit (.int .i64 (n:Nat))),(58,.lit (.int .i64 (k:Nat)))]
 b:=fun k=>[(0,nodeQ np (.ptr 2 0) (.ptr 1 0) np np 3 s_tbody ns),(1,nodeQ (.ptr 0 0) (.ptr 5 0) (.ptr 6 0) (.ite (Nat.beq k 1) np (.ptr 4 0)) np 3 s_tr (.mp (qU h t C k)))]
 n:=7
 ros:=[]
 st:=noSt
 ways:=[]
def mhS (T:TD):GenS where
 A:=(Nat->Nat->By)×(Nat->Nat->By)×(Nat->Nat)×Nat
 st:=noSt
 dec:=fun args _=>match args with
  | .agg l::_=>some (decT l)
  |_=>none
 dom:=fun a=>(0<a.2.2.2/\a.2.2.2<=1000)/\∀i,i<a.2.2.2->(0<a.2.2.1 i/\a.2.2.1 i<=1000)/\∀j,j<a.2.2.1 i->thd (a.1 i j)
 args1:=fun a=>[.agg (tablA a.1 a.2.1 a.2.2.1 a.2.2.2)]
 blks1:=fun _=>[]
 next1:=0
 ros1:=[]
 p1:=0
 X:=(Nat->Nat->By)×(Nat->Nat->By)×(Nat->Nat)×Nat
 G:=fun a x=>x=a
 val:=fun _=>.ptr 0 0
 out:=fun x=>[(0,nodeB np (.ptr 1 0) (.ptr 1 0) np np 3 s_table),(1,nodeQ (.ptr 0 0) (.ptr 2 0) (.ptr 3 0) np np 3 s_tbody (.mp (qV x.1 x.2.1 x.2.2.1 x.2.2.2 1 3 2 [0,1])))]
 n2:=4
def mhU (T:TD):Tabs:=⟨fun f=>match f with
 |25=>some ((mgS T).specV)
 |_=>none,fun _=>none⟩
def miS (T:TD):GenS where
 A:=(Nat->Nat->By)×(Nat->Nat->By)×(Nat->Nat)×Nat
 st:=noSt
 dec:=fun args _=>match args with
  | .agg l::_=>some (decD l)
  |_=>none
 dom:=fun a=>(0<a.2.2.2/\a.2.2.2<=1000)/\∀i,i<a.2.2.2->(0<a.2.2.1 i/\a.2.2.1 i<=1000)/\∀j,j<a.2.2.1 i->thd (a.1 i j)
 args1:=fun a=>[.agg (docA a.1 a.2.1 a.2.2.1 a.2.2.2)]
 blks1:=fun _=>[]
 next1:=0
 ros1:=[]
 p1:=0
 X:=(Nat->Nat->By)×(Nat->Nat->By)×(Nat->Nat)×Nat
 G:=fun a x=>x=a
 val:=fun _=>.ptr 0 0
 out:=fun x=>[(0,nodeB np (.ptr 1 0) (.ptr 1 0) np np 2 (.str [])),(1,nodeB (.ptr 0 0) (.ptr 2 0) (.ptr 2 0) np np 3 s_table),(2,nodeQ (.ptr 1 0) (.ptr 3 0) (.ptr 4 0) np np 3 s_tbody (.mp (qV x.1 x.2.1 x.2.2.1 x.2.2.2 2 4 3 [0,1,2])))]
 n2:=5
def miU (T:TD):Tabs:=⟨fun f=>match f with
 |25=>some ((mhS T).specV)
 |_=>none,fun _=>none⟩
end Tk
