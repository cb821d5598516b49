/- Lemmas of this claim; the last text says what is proved. -/
import Derived.Test.YtjkgmpkgfhhaiaaGreatK45
import Derived.Test.YtjkgmpkgfhhaiaaGreatK46
import Derived.Test.YtjkgmpkgfhhaiaaGreatK16
import Derived.Test.YtjkgmpkgfhhaiaaGreatK17
import Derived.Test.YtjkgmpkgfhhaiaaGreatK18
set_option linter.all false
set_option maxRecDepth 1000000
namespace Tk
open Go Go.Sx Go.Proofs
open Q
variable [Syms]
def miR (T:TD) (h:Nat->Nat->By) (t:Nat->Nat->By) (C:Nat->Nat) (n:Nat):Prop:=
 letI w1:=ATot.n 10;letI v1:=AVal.str [];letI u1:=AVal.ptr 3 0;letI t1:=(t,C,n).fst;letI s1:=(h,t,C,n).fst;letI p1:=Nat->Nat->By;letI q1:=AVal.ptr (3+1) 0;letI n1:=([]:List UInt8)=[];letI k1:=AVal.str [(116:UInt8),114];letI m1:=AVal.lit (Value.pointer none);letI h1:=AVal.lit (Value.slice none 0 0);letI g1:=[(116:UInt8),97,98,108,101];letI f1:=[(116:UInt8),98,111,100,121];letI c1:=Value.int IntKind.u32 (Int.ofNat 2);letI d1:=Value.int IntKind.u32 (Int.ofNat 0);letI e1:=Value.int IntKind.u32 (Int.ofNat 3);letI a1:=AVal.lit (Value.int .i64 (Int.ofNat 1));letI b1:=AVal.lit (Value.int .i64 (Int.ofNat 0));letI z:=AVal.str g1;letI y:=AVal.str f1;letI v:=AVal.lit d1;letI w:=AVal.lit e1;letI u:=p1×p1×(Nat->Nat)×Nat;letI r:=d1=d1;letI s:=e1=e1;letI q:=True/\True/\True/\True/\True/\True/\True/\True/\True/\True;letI m:=fun(i j:Nat)=>(s1 i j,decS [a1,v1,AVal.str (t1 i j),h1,h1]).snd;letI k:=fun(i:Nat)=>(fun(j:Nat)=>(s1 i j,decS [a1,v1,AVal.str (t1 i j),h1,h1]).snd,(C,n).fst i).snd;letI g:=(k,n).fst;letI d:=(fun(i j:Nat)=>(s1 i j,decS [a1,v1,AVal.str (t1 i j),h1,h1]).fst,m,k,n);letI c:=d.fst;letI a:=[b1,z,v1,h1,AVal.fmw (fun(x:Nat)=>[b1,y,v1,h1,AVal.fmw (fun(i:Nat)=>[b1,k1,v1,h1,AVal.fmw (fun(j:Nat)=>letI r1:=t1 i j;[b1,AVal.str (s1 i j),v1,h1,AVal.fmw (fun(x:Nat)=>[a1,v1,AVal.str r1,h1,h1]) 5 (kidN r1)]) 5 ((C,n).fst i)]) 5 n]) 5 1];noSt=noSt/\((0<n/\n<=1000)/\∀(i:Nat),letI f:=g i;i<n->(0<f/\f<=1000)/\∀(j:Nat),letI b:=c i j;j<f->b=[(116:UInt8),104]\/b=[(116:UInt8),100])/\SubL 0 [AVal.agg a] [AVal.agg [b1,z,v1,h1,AVal.fmw (fun(x:Nat)=>[b1,y,v1,h1,AVal.fmw (fun(i:Nat)=>[b1,k1,v1,h1,AVal.fmw (fun(j:Nat)=>letI e:=(m,k,n).fst i j;[b1,AVal.str (c i j),v1,h1,AVal.fmw (fun(x:Nat)=>[a1,v1,AVal.str e,h1,h1]) 5 (kidN e)]) 5 (g i)]) 5 n]) 5 1]]/\∀(x:u),letI p:=AVal.mp (MP.ren (fun(i:Nat)=>bif false then 0 else 3+i) (qV x.1 x.snd.1 x.snd.snd.1 x.snd.2.snd 1 3 2 [0,1]));x=d->∃(x_1:u),x_1=(h,t,C,n)/\noSt=noSt/\True/\(q/\q/\q)/\c1=c1/\r/\n1/\n1/\s/\r/\g1=g1/\n1/\s/\r/\f1=f1/\n1/\MPok (AHeap.mk (Tr.node (some (ABlk.row [AVal.lit (Value.int .i64 (Int.ofNat 3)),v1,v1,h1,AVal.fmw (fun(x:Nat)=>a) 5 1] 32 (ATot.n (1+1+1+1+1)))) (Tr.node (some (ABlk.row [m1,u1,u1,m1,m1,AVal.lit c1,v,v1,v1,h1] 157 w1)) (Tr.node (some (ABlk.row [AVal.ptr 1 0,q1,q1,m1,m1,w,v,z,v1,h1] 157 w1)) Tr.nil Tr.nil) Tr.nil) (Tr.node (some (ABlk.row a 32 (ATot.n 5))) (Tr.node (some (ABlk.row [u1,AVal.ptr (3+1+1) 0,AVal.ptr (3+1+1+1) 0,m1,m1,w,v,y,v1,p] 157 w1)) Tr.nil Tr.nil) Tr.nil)) 7 [] [] noSt) p (qV x_1.1 x_1.snd.1 x_1.snd.snd.1 x_1.snd.2.snd 2 4 3 [0,1,2]) [(0,Nm.fz 2),(0,Nm.fz 0),(4,Nm.id (3+1+1+1)),(3,Nm.id (3+1+1)),(2,Nm.id (3+1)),(1,Nm.id 3),(0,Nm.id 1)]/\True
theorem miU_ok (T:TD):TabOk Tryz.prog (miU T):=by
 refine⟨fun f s h=>?_,fun f s h=>?_⟩
 ·unfold miU at h
  simp only at h
  split at h
  ·cases h;exact genS_okV mc_fok (mh_ok T).1
  ·cases h
 ·cases h
theorem mi_r (T:TD) (h:Nat->Nat->By) (t:Nat->Nat->By) (C:Nat->Nat) (n:Nat) (hd:(0<n/\n<=1000)/\∀i,i<n->(0<C i/\C i<=1000)/\∀j,j<C i->thd (h i j)):miR T h t C n:=by
 unfold miR
 simp only[decS,sj4,exists_eq_left',sj10]
 exact⟨hd,tablA_subA,qV_re rfl rfl rfl⟩
theorem mi_ok (T:TD):(miS T).Body Tryz.prog 25/\(miS T).BodyD Tryz.prog 25:=by
 refine genS_body (fn:=Tryz.f25) (b:=(bodyOf Tryz.f25)) (LT:=fun _=>[]) ftOk (miU_ok T) 1000 (fun a ha=>LTok.nil) (by kernel_rfl) (by kernel_rfl) ?_
 exact fun a ha=>Ho.of (miR T a.1 a.2.1 a.2.2.1 a.2.2.2) (by kernel_rfl) (mi_r T a.1 a.2.1 a.2.2.1 a.2.2.2 ha)
def nc2S (T:TD):GenS:=mpS (ncS T) (fun _=>qC T)
theorem nc2_body (T:TD):(nc2S T).Body Tryz.prog 21:=mpS_body (nc_ok T).1 rfl (fun _=>qC_nof T) (fun x w0 w F0 ι v hi hd=>qC_of hi hd)
def mi2S (T:TD):GenS:=mpS (miS T) (fun x=>qD x.1 x.2.1 x.2.2.1 x.2.2.2)
theorem qD_of {h:Nat->Nat->By} {t:Nat->Nat->By} {C:Nat->Nat} {n:Nat} {w0 w:World} {F0:Fp} {ι:Inj} {v:Value} (hi:Inv w0 F0 ι (hpD ⟨5,[],noSt⟩ [(0,nodeB np (.ptr 1 0) (.ptr 1 0) np np 2 (.str [])),(1,nodeB (.ptr 0 0) (.ptr 2 0) (.ptr 2 0) np np 3 s_table),(2,nodeQ (.ptr 1 0) (.ptr 3 0) (.ptr 4 0) np np 3 s_tbody (.mp (qV h t C n 2 4 3 [0,1,2])))] []) w) (hd:Den ι (.ptr 0 0) v):
 qDp h t C n (comp w ι (allF (hpD ⟨5,[],noSt⟩ [(0,nodeB np (.ptr 1 0) (.ptr 1 0) np np 2 (.str [])),(1,nodeB (.ptr 0 0) (.ptr 2 0) (.ptr 2 0) np np 3 s_table),(2,nodeQ (.ptr 1 0) (.ptr 3 0) (.ptr 4 0) np np 3 s_tbody (.mp (qV h t C n 2 4 3 [0,1,2])))] []))) v:=by
 obtain⟨r0,o0,h0,g0,b0,_⟩:=hi.blk 0 _ rfl
 obtain⟨r1,o1,h1,g1,b1,_⟩:=hi.blk 1 _ rfl
 obtain⟨r2,o2,h2,g2,b2,_⟩:=hi.blk 2 _ rfl
 obtain⟨v',hv',A,R,e0,e1,e2,hrow⟩:=nodeQ_mp b2
 have h2':ι.f 2=some r2:=h2
 rw[e0] at h2';cases h2'
 refine⟨r0,r1,_,A,?_,nodeM_of (q:=ns) b0 (comp_fz (allF_mem hi rfl (j:=0) rfl) h0 g0) (fun v=>den_np) (fun v=>den_ptr h1) (fun v=>den_ptr h1) (fun v=>den_np) (fun v=>den_np) (fun v=>den_str) (fun v=>den_ns),
  nodeM_of (q:=ns) b1 (comp_fz (allF_mem hi rfl (j:=1) rfl) h1 g1) (fun v=>den_ptr h0) (fun v=>den_ptr h2) (fun v=>den_ptr h2) (fun v=>den_np) (fun v=>den_np) (fun v=>den_str) (fun v=>den_ns),
  nodeM_of b2 (comp_fz (allF_mem hi rfl (j:=2) rfl) h2 g2) (fun v=>den_ptr h1) (fun v=>den_ptr e2) (fun v=>den_ptr e1) (fun v=>den_np) (fun v=>den_np) (fun v=>den_str) (fun v hv=>by
   cases hv with
   |mp hq=>exact hq.1),fun i hi'=>(hrow i hi').mono fun r o=>comp_m hi⟩
 cases hd with
 |ptr h=>
  have h0:ι.f 0=some r0:=h0
  rw[h0] at h;cases h;rfl
theorem mi2_body (T:TD):(mi2S T).Body Tryz.prog 25:=mpS_body (mi_ok T).1 rfl (fun x=>qD_nof _ _ _ _) (fun x w0 w F0 ι v hi hd=>qD_of hi hd)
def kvS (T:TD):GenS where
 A:=Unit
 st:=noSt
 dec:=fun _ _=>some ()
 dom:=fun _=>T.Ok/\ntT T/\T.hd=T.hh 0 0
 args1:=fun _=>[.agg (docA (hT T) T.tx T.C T.R),.lit (.bool false),.slc 0 0 3 (.n 3)]
 blks1:=fun _=>[(0,.row [.ifc 66 (.ptr 1 0),.ifc 78 (.ptr 2 0),.ifc 164 (.ptr 3 0)] 42 (.n 3)),(1,.row [] 65 (.n 0)),(2,.row cmR 77 (.n 10)),(3,.row [.lit .nilIface,.str T.span,.str T.keep,.lit (.bool true),.lit (.bool T.promote),.lit (.bool T.pres),.str T.pad] 166 (.n 7))]
 next1:=4
 ros1:=[]
 p1:=0
 X:=By
 G:=fun _ x=>x=post (docF T)
 val:=fun x=>.tup [.str x,.lit (.bool true)]
 out:=fun _=>[]
 n2:=0
def kvU (T:TD):Tabs:=⟨fun f=>match f with
 |21=>some ((nc2S T).spec)
 |25=>some ((mi2S T).specV)
 |24=>some ((bS T).specV)
 |_=>none,fun _=>none⟩
def ttS (T:TD):GenS where
 A:=Unit
 st:=noSt
 dec:=fun _ _=>some ()
 dom:=fun _=>T.pad=padF T.oP/\T.keep=keepF T.oK/\T.span=spanF T.oM
 args1:=fun _=>[.agg (optA T true)]
 blks1:=fun _=>[]
 next1:=0
 ros1:=[]
 p1:=0
 X:=Unit
 G:=fun _ _=>True
 val:=fun _=>.ifc 164 (.ptr 0 0)
 out:=fun _=>[(0,.row [.lit .nilIface,.str T.span,.str T.keep,.lit (.bool true),.lit (.bool T.promote),.lit (.bool T.pres),.str T.pad] 166 (.n 7))]
 n2:=1
def kxS (T:TD):GenS where
 A:=Unit
 st:=noSt
 dec:=fun _ _=>some ()
 dom:=fun _=>(T.Ok/\ntT T/\T.hd=T.hh 0 0)/\T.pad=padF T.oP/\T.keep=keepF T.oK/\T.span=spanF T.oM
 args1:=fun _=>[.ptr 0 0,.ptr 1 0,.ptr 2 0,.ptr 3 0]
 blks1:=fun _=>[(0,.row (docA (hT T) T.tx T.C T.R) 32 (.n 5)),(1,.row (optA T true) 24 (.n 6)),(2,.row [.str []] 9 (.n 1)),(3,.row [.lit (.bool false)] 4 (.n 1))]
 next1:=4
 ros1:=[]
 p1:=4
 X:=By
 G:=fun _ x=>x=post (docF T)
 val:=fun _=>.tup []
 out:=fun x=>[(0,.row (docA (hT T) T.tx T.C T.R) 32 (.n 5)),(1,.row (optA T true) 24 (.n 6)),(2,.row [.str x] 9 (.n 1)),(3,.row [.lit (.bool true)] 4 (.n 1))]
 n2:=4
def kxU (T:TD):Tabs:=⟨fun f=>match f with
 |15=>some ((ttS T).spec)
 |12=>some ((kvS T).spec)
 |_=>none,fun _=>none⟩
def kyS (T:TD):GenS where
 A:=Unit
 st:=noSt
 dec:=fun _ _=>some ()
 dom:=fun _=>(T.Ok/\ntT T/\T.hd=T.hh 0 0)/\T.pad=padF T.oP/\T.keep=keepF T.oK/\T.span=spanF T.oM
 args1:=fun _=>[.agg (docA (hT T) T.tx T.C T.R),.agg (optA T true)]
 blks1:=fun _=>[]
 next1:=0
 ros1:=[]
 p1:=0
 X:=By
 G:=fun _ x=>x=post (docF T)
 val:=fun x=>.tup [.str x,.lit (.bool true)]
 out:=fun _=>[]
 n2:=0
def kyU (T:TD):Tabs:=⟨fun f=>match f with
 |11=>some ((kxS T).spec)
 |_=>none,fun f=>match f with
 |20=>some (recA)
 |_=>none⟩
def Q.insT (T:TD) (a n:Nat):TD:={T with
 R:=T.R+1
 C:=fun i=>cond (Nat.blt i a) (T.C i) (cond (Nat.beq i a) n (T.C (i-1)))
 tx:=fun i j=>cond (Nat.blt i a) (T.tx i j) (cond (Nat.beq i a) [] (T.tx (i-1) j))
 hh:=fun i j=>cond (Nat.blt i a) (T.hh i j) (cond (Nat.beq i a) false (T.hh (i-1) j))
 al:=fun i j=>cond (Nat.blt i a) (T.al i j) (cond (Nat.beq i a) [] (T.al (i-1) j))
 cc:=fun i j=>cond (Nat.blt i a) (T.cc i j) (cond (Nat.beq i a) 0 (T.cc (i-1) j))
 rr:=fun i j=>cond (Nat.blt i a) (T.rr i j) (cond (Nat.beq i a) 0 (T.rr (i-1) j))}
def tbS (T:TD):GenS:={taS T with dec:=fun _ _=>some ()}
def Q.vT (U:TD):TD:={U with
 hd:=U.hh 0 0
 pad:=padF U.oP
 keep:=keepF U.oK
 span:=spanF U.oM}
def Q.nnF (T:TD) (n:Int):Nat:=(bif decide ((T.C 0:Int)<n) then(T.C 0:Int) else n).toNat
def Q.insN (T:TD) (a n:Int):TD:=insT T a.toNat (nnF T n)
def sp7 (T:TD) (a n:Int):Sx.Spec:=fun args H K=>match args with
 | .slc _ _ _ _::_=>(tbS (insN T a n)).spec args H K
 |_=>(taS T).spec args H K
def sp6 (T:TD) (a n:Int):Sx.Spec:=fun args H K=>(kyS (vT (insN T a n))).specV args H K\/(kyS (vT T)).specV args H K
theorem sp7_ok {T:TD} {a n:Int} (h:∀T,SpecOk Tryz.prog 7 (tbS T).spec) (h2:SpecOk Tryz.prog 7 (taS T).spec):SpecOk Tryz.prog 7 (sp7 T a n):=by
 intro args H K hs
 unfold sp7 at hs
 split at hs
 ·exact h _ _ _ _ hs
 ·exact h2 _ _ _ hs
theorem sp6_ok {T:TD} {a n:Int} (h:∀T,SpecOk Tryz.prog 6 (kyS T).specV):SpecOk Tryz.prog 6 (sp6 T a n):=by
 intro args H K hs
 rcases hs with hs|hs
 ·exact h _ _ _ _ hs
 ·exact h _ _ _ _ hs
def Q.srcT (T:TD):Prop:=(∀i,T.R<=i->T.C i=0)/\(∀i j,T.R<=i\/T.C i<=j->T.tx i j=[])/\∀c,c<256->Syms.gn 0 c=true
def zfS (T:TD):GenS where
 A:=RowX
 st:=noSt
 dec:=fun args _=>match args with
  | .fmw g _ n::_=>some (decX g n)
  |_=>none
 dom:=fun _=>True
 args1:=fun z=>[.fmw (cellX z) 5 z.n]
 blks1:=fun _=>[]
 next1:=0
 ros1:=[]
 p1:=0
 X:=Bool
 G:=fun z b=>b=true->fitX z z.n
 val:=fun b=>.lit (.bool b)
 out:=fun _=>[]
 n2:=0
def zfD (T:TD) (z:RowX):LoopD where
 J:=Nat
 side:=fun k=>k<=z.n/\z.n<=2147483647/\fitX z k
 μ:=fun k=>z.n-k
 fn:=18
 p:=0
 s:=fun k=>[(8,.fmw (cellX z) 5 z.n),(9,.lit (.int .i64 (z.n:Nat))),(10,.lit (.int .i64 (k:Nat)))]
 b:=fun _=>[]
 n:=0
 ros:=[]
 st:=noSt
 ways:=[{e:=.exit 0,X:=Unit,c:=fun _=>fitX z z.n,s:=fun _=>[],b:=fun _=>[],n:=0},{e:=.ret,X:=Unit,c:=fun _=>True,s:=fun _=>[(2,.lit (.bool false))],b:=fun _=>[],n:=0}]
def zgS (T:TD):GenS where
 A:=Unit
 st:=noSt
 dec:=fun _ _=>some ()
 dom:=fun _=>True
 args1:=fun _=>[rowsA T]
 blks1:=fun _=>[]
 next1:=0
 ros1:=[]
 p1:=0
 X:=Bool
 G:=fun _ b=>b=true->fitT T
 val:=fun b=>.lit (.bool b)
 out:=fun _=>[]
 n2:=0
def zgU (T:TD):Tabs:=⟨fun f=>match f with
 |8=>some ((zfS T).spec)
 |_=>none,fun _=>none⟩
def zgD (T:TD):LoopD where
 J:=Nat
 side:=fun k=>k<=T.R/\T.R<=2147483647/\fitK T k
 μ:=fun k=>T.R-k
 fn:=18
 p:=0
 s:=fun k=>[(8,rowsA T),(9,.lit (.int .i64 (T.R:Nat))),(10,.lit (.int .i64 (k:Nat)))]
 b:=fun _=>[]
 n:=0
 ros:=[]
 st:=noSt
 ways:=[{e:=.exit 0,X:=Unit,c:=fun _=>fitT T,s:=fun _=>[],b:=fun _=>[],n:=0},{e:=.ret,X:=Unit,c:=fun _=>True,s:=fun _=>[(2,.lit (.bool false))],b:=fun _=>[],n:=0}]
def w9S (T:TD):GenS where
 A:=By
 st:=noSt
 dec:=fun args _=>match args with
  | .str l::_=>some l
  |_=>none
 dom:=fun l=>l.length<=2147483647
 args1:=fun l=>[.str l]
 blks1:=fun _=>[]
 next1:=0
 ros1:=[]
 p1:=0
 X:=Bool
 G:=fun l b=>b=true->Words l
 val:=fun b=>.lit (.bool b)
 out:=fun _=>[]
 n2:=0
def w9D (T:TD) (l:By):LoopD where
 J:=Nat
 side:=fun k=>k<=l.length/\wdsK l k
 μ:=fun k=>l.length-k
 fn:=61
 p:=0
 s:=fun k=>[(0,.str l),(7,.lit (.int .i64 (l.length:Nat))),(8,.lit (.int .i64 (k:Nat)))]
 b:=fun _=>[]
 n:=0
 ros:=[]
 st:=noSt
 ways:=[{e:=.exit 0,X:=Unit,c:=fun _=>Words l,s:=fun _=>[],b:=fun _=>[],n:=0},{e:=.ret,X:=Unit,c:=fun _=>True,s:=fun _=>[(2,.lit (.bool false))],b:=fun _=>[],n:=0}]
def neS (T:TD):GenS where
 A:=Unit
 st:=noSt
 dec:=fun _ _=>some ()
 dom:=fun _=>fitT T
 args1:=fun _=>[rowsA T]
 blks1:=fun _=>[]
 next1:=0
 ros1:=[]
 p1:=0
 X:=Bool
 G:=fun _ b=>b=true->T.R<=12/\ntT T
 val:=fun b=>.lit (.bool b)
 out:=fun _=>[]
 n2:=0
def neU (T:TD):Tabs:=⟨fun f=>match f with
 |9=>some ((w9S T).spec)
 |_=>none,fun _=>none⟩
def neD (T:TD):LoopD where
 J:=Nat
 side:=fun k=>k<=T.R/\0<T.R/\T.R<=12/\ntI T k
 μ:=fun k=>T.R-k
 fn:=79
 p:=0
 s:=fun k=>[(0,rowsA T),(16,rowsA T),(17,.lit (.int .i64 (T.R:Nat))),(18,.lit (.int .i64 (k:Nat)))]
 b:=fun _=>[]
 n:=0
 ros:=[]
 st:=noSt
 ways:=[{e:=.exit 0,X:=Unit,c:=fun _=>T.R<=12/\ntT T,s:=fun _=>[],b:=fun _=>[],n:=0},{e:=.ret,X:=Unit,c:=fun _=>True,s:=fun _=>[(2,.lit (.bool false))],b:=fun _=>[],n:=0}]
def neI (T:TD) (i:Nat):LoopD where
 J:=Nat×Bool
 side:=fun j=>j.1<=T.C i/\i<T.R/\T.C i<=12/\ntJ T i j.1
 μ:=fun j=>T.C i-j.1
 fn:=79
 p:=0
 s:=fun j=>[(0,rowsA T),(16,rowsA T),(17,.lit (.int .i64 (T.R:Nat))),(18,.lit (.int .i64 (i:Nat))),(3,.lit (.int .i64 (i:Nat))),(4,.fmw (cellX (rowX T i)) 5 (T.C i)),(31,.fmw (cellX (rowX T i)) 5 (T.C i)),(32,.lit (.int .i64 (T.C i:Nat))),(33,.lit (.int .i64 (j.1:Nat))),(5,.lit (.bool j.2))]
 b:=fun _=>[]
 n:=0
 ros:=[]
 st:=noSt
 ways:=[{e:=.exit 2,X:=Bool,c:=fun _=>ntJ T i (T.C i),s:=fun f=>[(0,rowsA T),(16,rowsA T),(17,.lit (.int .i64 (T.R:Nat))),(18,.lit (.int .i64 (i:Nat))),(5,.lit (.bool f))],b:=fun _=>[],n:=0},{e:=.ret,X:=Unit,c:=fun _=>True,s:=fun _=>[(2,.lit (.bool false))],b:=fun _=>[],n:=0}]
def skS (T:TD) (a n:Int) (s:Bool):GenS where
 A:=Unit
 st:=noSt
 dec:=fun _ _=>none
 dom:=fun _=>srcT T
 args1:=fun _=>[rowsA T,.lit (.int .i64 a),.lit (.int .i64 n),.agg (optA T s)]
 blks1:=fun _=>[]
 next1:=0
 ros1:=[]
 p1:=0
 X:=Unit
 G:=fun _ _=>True
 val:=fun _=>.lit (.bool true)
 out:=fun _=>[]
 n2:=0
def skU (T:TD) (a n:Int) (s:Bool):Tabs:=⟨fun f=>match f with
 |4=>some ((zgS T).spec)
 |5=>some ((neS T).spec)
 |7=>some (sp7 T a n)
 |6=>some (sp6 T a n)
 |_=>none,fun _=>none⟩
end Tk
