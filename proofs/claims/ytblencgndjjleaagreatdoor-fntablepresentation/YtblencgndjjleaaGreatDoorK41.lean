/- Lemmas of this claim; the last text says what is proved. -/
import Derived.Laws.RangeString
import Derived.Test.YtblencgndjjleaaGreatDoorK40
set_option linter.all false
namespace Tk
open Go Go.Sx Go.Proofs
open Q
variable [Syms]
def zfS(T:TD):GenS where
 A:=RowX
 st:=noSt
 dec:=fun args _=>match args with
  | .fmw g _ n::_=>some (I_p g n)
  |_=>none
 dom:=fun _=>True
 args1:=fun z=>[.fmw (a_Z z) 5 z.n]
 blks1:=fun _=>[]
 next1:=0
 ros1:=[]
 p1:=0
 X:=Bool
 G:=fun z b=>b=true->fitX z z.n
 val:=fun b=>.lit (.bool b)
 out:=fun _=>[]
 n2:=0
def zfD(T:TD)(z:RowX):LoopD where
 J:=Nat
 side:=fun k=>k<=z.n/\z.n<=2147483647/\fitX z k
 μ:=fun k=>z.n-k
 fn:=18
 p:=0
 s:=fun k=>[(8,.fmw (a_Z z) 5 z.n),(9,.lit (.int .i64 (z.n:Nat))),(10,.lit (.int .i64 (k:Nat)))]
 b:=fun _=>[]
 n:=0
 ros:=[]
 st:=noSt
 ways:=[{e:=.exit 0,X:=Unit,c:=fun _=>fitX z z.n,s:=fun _=>[],b:=fun _=>[],n:=0},{e:=.ret,X:=Unit,c:=fun _=>True,s:=fun _=>[(2,.lit (.bool false))],b:=fun _=>[],n:=0}]
def zgS(T:TD):GenS where
 A:=Unit
 st:=noSt
 dec:=fun _ _=>some ()
 dom:=fun _=>True
 args1:=fun _=>[c_w T]
 blks1:=fun _=>[]
 next1:=0
 ros1:=[]
 p1:=0
 X:=Bool
 G:=fun _ b=>b=true->fitT T
 val:=fun b=>.lit (.bool b)
 out:=fun _=>[]
 n2:=0
def zgU(T:TD):Tabs:=⟨fun f=>match f with
 |9=>some ((zfS T).spec)
 |_=>none,fun _=>none⟩
def zgD(T:TD):LoopD where
 J:=Nat
 side:=fun k=>k<=T.R/\T.R<=2147483647/\fitK T k
 μ:=fun k=>T.R-k
 fn:=18
 p:=0
 s:=fun k=>[(8,c_w T),(9,.lit (.int .i64 (T.R:Nat))),(10,.lit (.int .i64 (k:Nat)))]
 b:=fun _=>[]
 n:=0
 ros:=[]
 st:=noSt
 ways:=[{e:=.exit 0,X:=Unit,c:=fun _=>fitT T,s:=fun _=>[],b:=fun _=>[],n:=0},{e:=.ret,X:=Unit,c:=fun _=>True,s:=fun _=>[(2,.lit (.bool false))],b:=fun _=>[],n:=0}]
def w9S(T:TD):GenS where
 A:=By
 st:=noSt
 dec:=fun args _=>match args with
  | .str l::_=>some l
  |_=>none
 dom:=fun l=>l.length<=2147483647
 args1:=fun l=>[.str l]
 blks1:=fun _=>[]
 next1:=0
 ros1:=[]
 p1:=0
 X:=Bool
 G:=fun l b=>b=true->Words l
 val:=fun b=>.lit (.bool b)
 out:=fun _=>[]
 n2:=0
def w9D(T:TD)(l:By):LoopD where
 J:=Nat
 side:=fun k=>k<=l.length/\wdsK l k
 μ:=fun k=>l.length-k
 fn:=61
 p:=0
 s:=fun k=>[(0,.str l),(7,.lit (.int .i64 (l.length:Nat))),(8,.lit (.int .i64 (k:Nat)))]
 b:=fun _=>[]
 n:=0
 ros:=[]
 st:=noSt
 ways:=[{e:=.exit 0,X:=Unit,c:=fun _=>Words l,s:=fun _=>[],b:=fun _=>[],n:=0},{e:=.ret,X:=Unit,c:=fun _=>True,s:=fun _=>[(2,.lit (.bool false))],b:=fun _=>[],n:=0}]
def neS(T:TD):GenS where
 A:=Unit
 st:=noSt
 dec:=fun _ _=>some ()
 dom:=fun _=>fitT T
 args1:=fun _=>[c_w T]
 blks1:=fun _=>[]
 next1:=0
 ros1:=[]
 p1:=0
 X:=Bool
 G:=fun _ b=>b=true->T.R<=12/\ntT T
 val:=fun b=>.lit (.bool b)
 out:=fun _=>[]
 n2:=0
def neU(T:TD):Tabs:=⟨fun f=>match f with
 |10=>some ((w9S T).spec)
 |_=>none,fun _=>none⟩
def neD(T:TD):LoopD where
 J:=Nat
 side:=fun k=>k<=T.R/\0<T.R/\T.R<=12/\ntI T k
 μ:=fun k=>T.R-k
 fn:=79
 p:=0
 s:=fun k=>[(0,c_w T),(16,c_w T),(17,.lit (.int .i64 (T.R:Nat))),(18,.lit (.int .i64 (k:Nat)))]
 b:=fun _=>[]
 n:=0
 ros:=[]
 st:=noSt
 ways:=[{e:=.exit 0,X:=Unit,c:=fun _=>T.R<=12/\ntT T,s:=fun _=>[],b:=fun _=>[],n:=0},{e:=.ret,X:=Unit,c:=fun _=>True,s:=fun _=>[(2,.lit (.bool false))],b:=fun _=>[],n:=0}]
def neI(T:TD)(i:Nat):LoopD where
 J:=Nat×Bool
 side:=fun j=>j.1<=T.C i/\i<T.R/\T.C i<=12/\ntJ T i j.1
 μ:=fun j=>T.C i-j.1
 fn:=79
 p:=0
 s:=fun j=>[(0,c_w T),(16,c_w T),(17,.lit (.int .i64 (T.R:Nat))),(18,.lit (.int .i64 (i:Nat))),(3,.lit (.int .i64 (i:Nat))),(4,.fmw (a_Z (d_q T i)) 5 (T.C i)),(31,.fmw (a_Z (d_q T i)) 5 (T.C i)),(32,.lit (.int .i64 (T.C i:Nat))),(33,.lit (.int .i64 (j.1:Nat))),(5,.lit (.bool j.2))]
 b:=fun _=>[]
 n:=0
 ros:=[]
 st:=noSt
 ways:=[{e:=.exit 2,X:=Bool,c:=fun _=>ntJ T i (T.C i),s:=fun f=>[(0,c_w T),(16,c_w T),(17,.lit (.int .i64 (T.R:Nat))),(18,.lit (.int .i64 (i:Nat))),(5,.lit (.bool f))],b:=fun _=>[],n:=0},{e:=.ret,X:=Unit,c:=fun _=>True,s:=fun _=>[(2,.lit (.bool false))],b:=fun _=>[],n:=0}]
def ceS(T:TD):GenS where
 A:=By×Bool×Int×Int
 st:=noSt
 dec:=fun args _=>match args with
  | .agg l::_=>some (p_C (p_D l 0),j_g (p_D l 1),k_d (p_D l 3),k_d (p_D l 4))
  |_=>none
 dom:=fun a=>a.2.2.1<=1/\a.2.2.2<=1
 args1:=fun a=>[.agg [.str a.1,.lit (.bool a.2.1),.str [],.lit (.int .i64 a.2.2.1),.lit (.int .i64 a.2.2.2)]]
 blks1:=fun _=>[]
 next1:=0
 ros1:=[]
 p1:=0
 X:=By×Bool×Int×Int
 G:=fun a x=>x=a
 val:=fun x=>.agg (b_T (cond x.2.1 thL tdL) x.1)
 out:=fun _=>[]
 n2:=0
def ceU(T:TD):Tabs:=⟨fun f=>match f with
 |43=>some (noS)
 |_=>none,fun _=>none⟩
def roS(T:TD):GenS where
 A:=Unit
 st:=noSt
 dec:=fun _ _=>some ()
 dom:=fun _=>ntT T
 args1:=fun _=>[c_w T]
 blks1:=fun _=>[]
 next1:=0
 ros1:=[]
 p1:=0
 X:=Unit
 G:=fun _ _=>True
 val:=fun _=>.fmw (fun q=>rowA (hT T q) (T.tx q) (T.C q)) 5 T.R
 out:=fun _=>[]
 n2:=0
def roU(T:TD):Tabs:=⟨fun f=>match f with
 |24=>some ((ceS T).specV)
 |_=>none,fun _=>none⟩
def roD(T:TD):LoopD where
 J:=Unit
 side:=fun _=>True
 μ:=fun _=>T.R+1
 fn:=36
 p:=0
 s:=fun _=>[(9,c_w T),(10,.lit (.int .i64 (T.R:Nat))),(11,.lit (.int .i64 (0:Nat))),(3,ns)]
 b:=fun _=>[]
 n:=0
 ros:=[]
 st:=noSt
 ways:=[{e:=.exit 0,X:=Unit,c:=fun _=>True,s:=fun _=>[(3,.fmw (fun q=>rowA (hT T q) (T.tx q) (T.C q)) 5 T.R)],b:=fun _=>[],n:=0}]
def I_A(T:TD):LoopD where
 J:=Nat
 side:=fun i=>0<i/\i<=T.R
 μ:=fun i=>T.R-i
 fn:=36
 p:=0
 s:=fun i=>[(9,c_w T),(10,.lit (.int .i64 (T.R:Nat))),(11,.lit (.int .i64 (i:Nat))),(3,.slc 0 0 i (.u 1 0))]
 b:=fun i=>[(0,.famw (fun q=>rowA (hT T q) (T.tx q) (T.C q)) 5 i [] 29 (.u 1 5))]
 n:=2
 ros:=[]
 st:=noSt
 ways:=[]
def roI(T:TD):LoopD where
 J:=Unit
 side:=fun _=>True
 μ:=fun _=>T.C 0+1
 fn:=36
 p:=0
 s:=fun _=>[(9,c_w T),(10,.lit (.int .i64 (T.R:Nat))),(11,.lit (.int .i64 (0:Nat))),(6,.ptr 0 0),(16,.fmw (a_Z (d_q T 0)) 5 (T.C 0)),(17,.lit (.int .i64 (T.C 0:Nat))),(18,.lit (.int .i64 (0:Nat))),(3,ns)]
 b:=fun _=>[(0,.row [.lit (.int .i64 (0:Nat)),i_9,.str [],ns,ns] 29 (.n 5))]
 n:=1
 ros:=[]
 st:=noSt
 ways:=[{e:=.exit 2,X:=Unit,c:=fun _=>True,s:=fun _=>[(9,c_w T),(10,.lit (.int .i64 (T.R:Nat))),(11,.lit (.int .i64 (0:Nat))),(6,.ptr 0 0),(3,ns)],b:=fun _=>[(0,.row [.lit (.int .i64 (0:Nat)),i_9,.str [],ns,.fmw (fun q=>b_T (hT T 0 q) (T.tx 0 q)) 5 (T.C 0)] 29 (.n 5))],n:=1}]
def I_B(T:TD):LoopD where
 J:=Nat
 side:=fun j=>0<j/\j<=T.C 0
 μ:=fun j=>T.C 0-j
 fn:=36
 p:=0
 s:=fun j=>[(9,c_w T),(10,.lit (.int .i64 (T.R:Nat))),(11,.lit (.int .i64 (0:Nat))),(6,.ptr 0 0),(16,.fmw (a_Z (d_q T 0)) 5 (T.C 0)),(17,.lit (.int .i64 (T.C 0:Nat))),(18,.lit (.int .i64 (j:Nat))),(3,ns)]
 b:=fun j=>[(0,.row [.lit (.int .i64 (0:Nat)),i_9,.str [],ns,.slc 1 0 j (.u 2 0)] 29 (.n 5)),(1,.famw (fun q=>b_T (hT T 0 q) (T.tx 0 q)) 5 j [] 29 (.u 2 5))]
 n:=3
 ros:=[]
 st:=noSt
 ways:=[]
def roJ(T:TD)(i:Nat):LoopD where
 J:=Unit
 side:=fun _=>True
 μ:=fun _=>T.C i+1
 fn:=36
 p:=0
 s:=fun _=>[(9,c_w T),(10,.lit (.int .i64 (T.R:Nat))),(11,.lit (.int .i64 (i:Nat))),(6,.ptr 0 0),(16,.fmw (a_Z (d_q T i)) 5 (T.C i)),(17,.lit (.int .i64 (T.C i:Nat))),(18,.lit (.int .i64 (0:Nat))),(3,.slc 3 0 i (.u 4 0))]
 b:=fun _=>[(0,.row [.lit (.int .i64 (0:Nat)),i_9,.str [],ns,ns] 29 (.n 5)),(3,.famw (fun q=>rowA (hT T q) (T.tx q) (T.C q)) 5 i [] 29 (.u 4 5))]
 n:=5
 ros:=[]
 st:=noSt
 ways:=[{e:=.exit 2,X:=Unit,c:=fun _=>True,s:=fun _=>[(9,c_w T),(10,.lit (.int .i64 (T.R:Nat))),(11,.lit (.int .i64 (i:Nat))),(6,.ptr 0 0),(3,.slc 3 0 i (.u 4 0))],b:=fun _=>[(0,.row [.lit (.int .i64 (0:Nat)),i_9,.str [],ns,.fmw (fun q=>b_T (hT T i q) (T.tx i q)) 5 (T.C i)] 29 (.n 5)),(3,.famw (fun q=>rowA (hT T q) (T.tx q) (T.C q)) 5 i [] 29 (.u 4 5))],n:=5}]
def I_C(T:TD)(i:Nat):LoopD where
 J:=Nat
 side:=fun j=>0<j/\j<=T.C i
 μ:=fun j=>T.C i-j
 fn:=36
 p:=0
 s:=fun j=>[(9,c_w T),(10,.lit (.int .i64 (T.R:Nat))),(11,.lit (.int .i64 (i:Nat))),(6,.ptr 0 0),(16,.fmw (a_Z (d_q T i)) 5 (T.C i)),(17,.lit (.int .i64 (T.C i:Nat))),(18,.lit (.int .i64 (j:Nat))),(3,.slc 3 0 i (.u 4 0))]
 b:=fun j=>[(0,.row [.lit (.int .i64 (0:Nat)),i_9,.str [],ns,.slc 1 0 j (.u 2 0)] 29 (.n 5)),(1,.famw (fun q=>b_T (hT T i q) (T.tx i q)) 5 j [] 29 (.u 2 5)),(3,.famw (fun q=>rowA (hT T q) (T.tx q) (T.C q)) 5 i [] 29 (.u 4 5))]
 n:=5
 ros:=[]
 st:=noSt
 ways:=[]
def taS(T:TD):GenS where
 A:=Unit
 st:=noSt
 dec:=fun args _=>match args with
  | .fam _ _::_=>some ()
  |_=>none
 dom:=fun _=>ntT T
 args1:=fun _=>[c_w T]
 blks1:=fun _=>[]
 next1:=0
 ros1:=[]
 p1:=0
 X:=Unit
 G:=fun _ _=>True
 val:=fun _=>.agg [.lit (.int .i64 (3:Nat)),.str [],.str [],ns,.slc 0 0 1 (.n 1)]
 out:=fun _=>[(0,.row (h_L (hT T) T.tx T.C T.R) 29 (.n 5))]
 n2:=1
def taU(T:TD):Tabs:=⟨fun f=>match f with
 |13=>some ((roS T).spec)
 |_=>none,fun _=>none⟩
def Q.ASC(l:By):Prop:=∀b∈l,b.toNat<128
theorem r_h{l:By}(h:ASC l){p:Nat}(hp:p<l.length):Utf8.decode ⟨l.toArray⟩ p=((l.getD p 0).toNat,1):=by
 have hs:p<(⟨l.toArray⟩:ByteArray).size:=by simpa[ByteArray.size] using hp
 have hb:(⟨l.toArray⟩:ByteArray)[p]'hs=l.getD p 0:=by
  show l.toArray[p]'_=_
  rw[List.getElem_toArray,List.getD_eq_getElem?_getD,List.getElem?_eq_getElem hp];rfl
 rw[decode_ascii _ p hs (by rw[hb];exact h _ aD),hb]
theorem o_q{l:By}(h:ASC l){p:Nat}(hp:p<l.length):(l.getD p 0).toNat<128:=h _ aD
theorem p_K{l:By}(h:ASC l)(n:Nat):ASC (l.drop n):=fun b hb=>h b (List.mem_of_mem_drop hb)
def Q.atS(L:List By)(q:Nat):By:=L.getD q []
def Q.lnI(l:By)(L:List By):Prop:=∀x∈L,(∀b∈x,b∈l)/\x.length<=l.length
theorem o_r{l:By}:lnI l []:=fun x hx=>bv
theorem j_i{l x:By}{L:List By}(h:lnI l L)(h1:∀b∈x,b∈l)(h2:x.length<=l.length):lnI l (L++[x]):=fun y hy=>by
 rcases List.mem_append.1 hy with hy|hy
 ·exact h y hy
 ·rw[List.mem_singleton.1 hy];exact⟨h1,h2⟩
theorem g_I{L:List By}{x:By}{q:Nat}(h:q<L.length):atS (L++[x]) q=atS L q:=by
 unfold atS;rw[List.getD_eq_getElem?_getD,List.getElem?_append_left h,←List.getD_eq_getElem?_getD]
theorem atS_eq{L:List By}{x:By}:atS (L++[x]) L.length=x:=by
 unfold atS;rw[List.getD_eq_getElem?_getD,List.getElem?_append_right (Nat.le_refl _),Nat.sub_self];rfl
theorem h_N{l:By}{a:Nat}:∀b∈l.drop a,b∈l:=fun b hb=>List.mem_of_mem_drop hb
def Q.lnL(n:Nat)(L:List By):Prop:=∀x∈L,x.length<=n
theorem j_j{n:Nat}:lnL n []:=fun x hx=>bv
theorem c_K{n:Nat}{x:By}{L:List By}(h:lnL n L)(h1:x.length<=n):lnL n (L++[x]):=fun y hy=>by
 rcases List.mem_append.1 hy with hy|hy
 ·exact h y hy
 ·rw[List.mem_singleton.1 hy];exact h1
theorem j_k:ASC []:=fun b hb=>bN
theorem c_L{m:By}{c:UInt8}(h:ASC m)(hc:c.toNat<128):ASC (m++[c]):=fun b hb=>by
 rcases List.mem_append.1 hb with hb|hb
 ·exact h b hb
 ·rw[List.mem_singleton.1 hb];exact hc
theorem a_N{p:Nat}{a:AVal}:SubA p a .top:=fun ι ι' v hle hd=>.top
def Q.barL(L:List By):Prop:=((atS L 0).getD 0 0).toNat=124
theorem s_8{l:By}{L:List By}(h:lnI l L)(hb:barL L):∃c∈l,c.toNat=124:=by
 unfold barL at hb
 cases L with
 |nil=>simp[atS] at hb
 |cons x L=>
  have e:atS (x::L) 0=x:=rfl
  rw[e] at hb
  cases x with
  |nil=>simp at hb
  |cons c x=>exact⟨c,(h (c::x) an).1 c an,by simpa using hb⟩
def Q.lnA(L:List By):Prop:=(2<=L.length/\L.length<=1099511627777)/\∀q,ASC (atS L q)/\(atS L q).length<=1099511627776
theorem w_J{l:By}{L:List By}(h:lnI l L)(ha:ASC l)(hl:l.length<=1099511627776)(h2:2<=L.length)(h3:L.length<=l.length+1):lnA L:=by
 refine⟨⟨h2,ac⟩,fun q=>?_⟩
 by_cases g:q<L.length
 ·have hm:atS L q∈L:=by
   unfold atS;rw[List.getD_eq_getElem?_getD,List.getElem?_eq_getElem g];exact List.getElem_mem g
  exact⟨fun b hb=>ha b ((h _ hm).1 b hb),Nat.le_trans (h _ hm).2 hl⟩
 ·have e:atS L q=[]:=by
   unfold atS;rw[List.getD_eq_getElem?_getD,List.getElem?_eq_none ac];rfl
  rw[e];exact⟨j_k,Nat.zero_le _⟩
theorem o_s{n:Nat}{L:List By}(h:lnL n L)(q:Nat):(atS L q).length<=n:=by
 by_cases g:q<L.length
 ·refine h _ ?_
  unfold atS;rw[List.getD_eq_getElem?_getD,List.getElem?_eq_getElem g];exact List.getElem_mem g
 ·have e:atS L q=[]:=by
   unfold atS;rw[List.getD_eq_getElem?_getD,List.getElem?_eq_none ac];rfl
  rw[e];exact Nat.zero_le _
def Q.mS(m:Nat->Nat)(n c:Nat)(q:Nat):Nat:=cond (Nat.blt q n) (m q) c
theorem o_t{m:Nat->Nat}{n c q:Nat}(h:q<n):mS m n c q=m q:=by unfold mS;rw[a_z.2 h];rfl
theorem mS_eq{m:Nat->Nat}{n c:Nat}:mS m n c n=c:=by unfold mS;rw[a_C.2 (Nat.le_refl n)];rfl
def g5S(T:TD):GenS where
 A:=By
 st:=noSt
 dec:=fun args _=>match args with
  | .str l::_=>some l
  |_=>none
 dom:=fun a=>a.length<=1099511627776
 args1:=fun a=>[.str a]
 blks1:=fun _=>[]
 next1:=0
 ros1:=[]
 p1:=0
 X:=Int×Bool
 G:=fun _ _=>True
 val:=fun x=>.tup [.lit (.int .i64 x.1),.lit (.bool x.2)]
 out:=fun _=>[]
 n2:=0
def g5D(T:TD):LoopD where
 J:=By×Int×Nat
 side:=fun j=>j.2.2<=j.1.length/\j.1.length<=1099511627776
 μ:=fun j=>j.1.length-j.2.2
 fn:=47
 p:=0
 s:=fun j=>[(0,.str j.1),(4,.lit (.int .i64 j.2.1)),(35,.lit (.int .i64 (j.1.length:Nat))),(36,.lit (.int .i64 (j.2.2:Nat)))]
 b:=fun _=>[]
 n:=0
 ros:=[]
 st:=noSt
 ways:=[{e:=.exit 0,X:=By×Int,c:=fun _=>True,s:=fun x=>[(0,.str x.1),(4,.lit (.int .i64 x.2))],b:=fun _=>[],n:=0},{e:=.ret,X:=Unit,c:=fun _=>True,s:=fun _=>[(2,.lit (.int .i64 (0:Nat))),(3,.lit (.bool false))],b:=fun _=>[],n:=0}]
def g6S(T:TD):GenS where
 A:=By
 st:=noSt
 dec:=fun args _=>match args with
  | .str l::_=>some l
  |_=>none
 dom:=fun a=>a.length<=1099511627776
 args1:=fun a=>[.str a]
 blks1:=fun _=>[]
 next1:=0
 ros1:=[]
 p1:=0
 X:=List By
 G:=fun l L=>0<L.length/\L.length<=l.length+1/\lnI l L
 val:=fun L=>.fam (fun q=>.str (atS L q)) L.length
 out:=fun _=>[]
 n2:=0
def g6D(T:TD)(l:By):LoopD where
 J:=Nat
 side:=fun j=>j<=l.length
 μ:=fun j=>l.length-j
 fn:=32
 p:=0
 s:=fun j=>[(3,.slc 0 0 0 (.n 0)),(0,.str l),(4,.lit (.int .i64 (0:Nat))),(8,.lit (.int .i64 (l.length:Nat))),(9,.lit (.int .i64 (j:Nat)))]
 b:=fun j=>[(0,.row [] 9 (.n 0))]
 n:=1
 ros:=[]
 st:=noSt
 ways:=[{e:=.exit 0,X:=Unit,c:=fun _=>True,s:=fun _=>[(3,.slc 0 0 0 (.n 0)),(0,.str l),(4,.lit (.int .i64 (0:Nat)))],b:=fun _=>[(0,.row [] 9 (.n 0))],n:=1},{e:=.exit 0,X:=Nat×List By,c:=fun x=>x.1<=l.length/\0<x.2.length/\x.2.length<=l.length/\lnI l x.2,s:=fun x=>[(3,.slc 0 0 x.2.length (.u 1 0)),(0,.str l),(4,.lit (.int .i64 (x.1:Nat)))],b:=fun x=>[(0,.fam (fun q=>.str (atS x.2 q)) x.2.length [] [] 9 (.u 1 1))],n:=2}]
def I_D(T:TD)(l:By):LoopD where
 J:=Nat×Nat×List By
 side:=fun j=>j.1<=l.length/\j.2.1<=j.1/\0<j.2.2.length/\j.2.2.length<=j.1/\lnI l j.2.2
 μ:=fun j=>l.length-j.1
 fn:=32
 p:=0
 s:=fun j=>[(3,.slc 0 0 j.2.2.length (.u 1 0)),(0,.str l),(4,.lit (.int .i64 (j.2.1:Nat))),(8,.lit (.int .i64 (l.length:Nat))),(9,.lit (.int .i64 (j.1:Nat)))]
 b:=fun j=>[(0,.fam (fun q=>.str (atS j.2.2 q)) j.2.2.length [] [] 9 (.u 1 1))]
 n:=2
 ros:=[]
 st:=noSt
 ways:=[]
def g1S(T:TD):GenS where
 A:=Nat
 st:=noSt
 dec:=fun args _=>match args with
  | .lit (.int _ i)::_=>some (Int.toNat i)
  |_=>none
 dom:=fun a=>a<=127
 args1:=fun a=>[.lit (.int .i32 (a:Nat))]
 blks1:=fun _=>[]
 next1:=0
 ros1:=[]
 p1:=0
 X:=Bool
 G:=fun _ _=>True
 val:=fun b=>.lit (.bool b)
 out:=fun _=>[]
 n2:=0
def g2S(T:TD):GenS where
 A:=By×Nat
 st:=noSt
 dec:=fun args _=>match args with
  | .str l:: .lit (.int _ i)::_=>some (l,Int.toNat i)
  |_=>none
 dom:=fun a=>ASC a.1/\a.2<a.1.length/\a.1.length<=1099511627776
 args1:=fun a=>[.str a.1,.lit (.int .i64 (a.2:Nat))]
 blks1:=fun _=>[]
 next1:=0
 ros1:=[]
 p1:=0
 X:=Unit
 G:=fun _ _=>True
 val:=fun _=>.lit (.int .i64 (1:Nat))
 out:=fun _=>[]
 n2:=0
def g2D(T:TD)(l:By)(a:Nat):LoopD where
 J:=Nat
 side:=fun j=>j<=1
 μ:=fun j=>2-j
 fn:=20
 p:=0
 s:=fun j=>[(0,.str l),(1,.lit (.int .i64 (a:Nat))),(9,.ptr 0 0)]
 b:=fun j=>[(0,.siter (l.drop a) j)]
 n:=1
 ros:=[]
 st:=noSt
 ways:=[{e:=.exit 0,X:=Unit,c:=fun _=>l.length=a+1,s:=fun _=>[(0,.str l),(1,.lit (.int .i64 (a:Nat)))],b:=fun _=>[],n:=0},{e:=.ret,X:=Unit,c:=fun _=>True,s:=fun _=>[(4,.lit (.int .i64 (1:Nat)))],b:=fun _=>[],n:=0}]
def g3S(T:TD):GenS where
 A:=By
 st:=noSt
 dec:=fun args _=>match args with
  | .str l::_=>some l
  |_=>none
 dom:=fun a=>ASC a/\a.length<=1099511627776
 args1:=fun a=>[.str a]
 blks1:=fun _=>[]
 next1:=0
 ros1:=[]
 p1:=0
 X:=By×Int
 G:=fun l x=>x.1.length<=l.length
 val:=fun x=>.tup [.str x.1,.lit (.int .i64 x.2)]
 out:=fun _=>[]
 n2:=0
def g3U(T:TD):Tabs:=⟨fun f=>match f with
 |71=>some ((g1S T).spec)
 |72=>some ((g2S T).spec)
 |_=>none,fun _=>none⟩
def g3D(T:TD)(l:By):LoopD where
 J:=Nat×Int×Nat
 side:=fun j=>j.1<=l.length/\((j.2.1= -1/\j.2.2=0)\/(0<=j.2.1/\j.2.1<j.2.2/\j.2.2<=j.1))
 μ:=fun j=>l.length-j.1
 fn:=33
 p:=0
 s:=fun j=>[(0,.str l),(4,.lit (.int .i64 j.2.1)),(5,.lit (.int .i64 (j.2.2:Nat))),(9,.ptr 0 0)]
 b:=fun j=>[(0,.siter l j.1)]
 n:=1
 ros:=[]
 st:=noSt
 ways:=[{e:=.exit 0,X:=Int×Nat,c:=fun x=>x.1<0\/(0<=x.1/\x.1<x.2/\x.2<=l.length),s:=fun x=>[(0,.str l),(4,.lit (.int .i64 x.1)),(5,.lit (.int .i64 (x.2:Nat)))],b:=fun _=>[],n:=0}]
def g4S(T:TD):GenS where
 A:=Nat
 st:=noSt
 dec:=fun args _=>match args with
  | .lit (.int _ i)::_=>some (Int.toNat i)
  |_=>none
 dom:=fun _=>True
 args1:=fun a=>[.lit (.int .u8 (a:Nat))]
 blks1:=fun _=>[]
 next1:=0
 ros1:=[]
 p1:=0
 X:=Bool
 G:=fun _ _=>True
 val:=fun b=>.lit (.bool b)
 out:=fun _=>[]
 n2:=0
def g7S(T:TD):GenS where
 A:=By
 st:=noSt
 dec:=fun args _=>match args with
  | .str l::_=>some l
  |_=>none
 dom:=fun a=>ASC a/\a.length<=1099511627776
 args1:=fun a=>[.str a]
 blks1:=fun _=>[]
 next1:=0
 ros1:=[]
 p1:=0
 X:=List By×Bool
 G:=fun l x=>x.1.length<=l.length/\lnL l.length x.1/\((l.getD 0 0).toNat≠124->x.2=false)
 val:=fun x=>.tup [.fam (fun q=>.str (atS x.1 q)) x.1.length,.lit (.bool x.2)]
 out:=fun _=>[]
 n2:=0
def g7U(T:TD):Tabs:=⟨fun f=>match f with
 |41=>some ((g3S T).spec)
 |40=>some ((g4S T).spec)
 |_=>none,fun _=>none⟩
def g7D(T:TD)(l:By):LoopD where
 J:=Nat
 side:=fun k=>0<k/\k<=l.length
 μ:=fun k=>l.length-k
 fn:=85
 p:=0
 s:=fun k=>[(4,ns),(5,.slc 0 0 0 (.n 0)),(0,.str l),(6,.lit (.int .i64 (k:Nat)))]
 b:=fun _=>[(0,.bytes [] 5 (.n 0))]
 n:=1
 ros:=[]
 st:=noSt
 ways:=[{e:=.exit 0,X:=List By×By,c:=fun x=>x.1.length<=l.length/\lnL l.length x.1/\x.2.length<=l.length,s:=fun x=>[(4,.fam (fun q=>.str (atS x.1 q)) x.1.length),(5,.by_ x.2)],b:=fun _=>[],n:=0}]
def I_E(T:TD)(l:By):LoopD where
 J:=Nat×By
 side:=fun j=>0<j.1/\j.1<=l.length/\0<j.2.length/\j.2.length<=j.1/\ASC j.2
 μ:=fun j=>l.length-j.1
 fn:=85
 p:=0
 s:=fun j=>[(4,ns),(5,.slc 0 0 j.2.length (.u 1 0)),(0,.str l),(6,.lit (.int .i64 (j.1:Nat)))]
 b:=fun j=>[(0,.bytes j.2 5 (.u 1 1))]
 n:=2
 ros:=[]
 st:=noSt
 ways:=[]
def I_F(T:TD)(l:By):LoopD where
 J:=Nat×List By
 side:=fun j=>0<j.1/\j.1<=l.length/\0<j.2.length/\j.2.length<=j.1/\lnL l.length j.2
 μ:=fun j=>l.length-j.1
 fn:=85
 p:=0
 s:=fun j=>[(4,.slc 0 0 j.2.length (.u 1 0)),(5,ns),(0,.str l),(6,.lit (.int .i64 (j.1:Nat)))]
 b:=fun j=>[(0,.fam (fun q=>.str (atS j.2 q)) j.2.length [] [] 9 (.u 1 1))]
 n:=2
 ros:=[]
 st:=noSt
 ways:=[]
def I_G(T:TD)(l:By):LoopD where
 J:=Nat×By×List By
 side:=fun j=>0<j.1/\j.1<=l.length/\0<j.2.1.length/\j.2.1.length<=j.1/\ASC j.2.1/\0<j.2.2.length/\j.2.2.length<=j.1/\lnL l.length j.2.2
 μ:=fun j=>l.length-j.1
 fn:=85
 p:=0
 s:=fun j=>[(4,.slc 2 0 j.2.2.length (.u 3 0)),(5,.slc 0 0 j.2.1.length (.u 1 0)),(0,.str l),(6,.lit (.int .i64 (j.1:Nat)))]
 b:=fun j=>[(0,.bytes j.2.1 5 (.u 1 1)),(2,.fam (fun q=>.str (atS j.2.2 q)) j.2.2.length [] [] 9 (.u 3 1))]
 n:=4
 ros:=[]
 st:=noSt
 ways:=[]
def I_H(T:TD)(l:By):List LoopD:=[g7D T l,I_E T l,I_F T l,I_G T l]
def g8S(T:TD):GenS where
 A:=By
 st:=noSt
 dec:=fun args _=>match args with
  | .str l::_=>some l
  |_=>none
 dom:=fun a=>ASC a/\a.length<=1099511627776
 args1:=fun a=>[.str a]
 blks1:=fun _=>[]
 next1:=0
 ros1:=[]
 p1:=0
 X:=Bool
 G:=fun a b=>(∀c∈a,c.toNat≠124)->b=false
 val:=fun b=>.tup [.top,.top,.lit (.bool b)]
 out:=fun _=>[]
 n2:=0
def g8U(T:TD):Tabs:=⟨fun f=>match f with
 |20=>some ((g6S T).spec)
 |21=>some ((g7S T).spec)
 |22=>some ((g5S T).spec)
 |_=>none,fun _=>none⟩
def g8D(T:TD)(L:List By):LoopD where
 J:=Unit
 side:=fun _=>True
 μ:=fun _=>L.length+1
 fn:=75
 p:=0
 s:=fun _=>[(6,ns),(7,ns),(21,.fam (fun q=>.str (atS L q)) L.length),(22,.lit (.int .i64 (L.length:Nat))),(23,.lit (.int .i64 (0:Nat)))]
 b:=fun _=>[]
 n:=0
 ros:=[]
 st:=noSt
 ways:=[{e:=.exit 0,X:=Unit,c:=fun _=>barL L,s:=fun _=>[(6,.top),(7,.top)],b:=fun _=>[],n:=0},{e:=.ret,X:=Unit,c:=fun _=>True,s:=fun _=>[(2,ns),(3,ns),(4,.lit (.bool false))],b:=fun _=>[],n:=0}]
def I_I(T:TD)(L:List By):LoopD where
 J:=Nat×Nat×(Nat->Nat)
 side:=fun j=>(0<j.1/\j.1<=L.length)/\(0<j.2.1/\j.2.1<=j.1)/\barL L
 μ:=fun j=>L.length-j.1
 fn:=75
 p:=0
 s:=fun j=>[(6,.slc 0 0 j.2.1 (.u 1 0)),(7,ns),(21,.fam (fun q=>.str (atS L q)) L.length),(22,.lit (.int .i64 (L.length:Nat))),(23,.lit (.int .i64 (j.1:Nat)))]
 b:=fun j=>[(0,.fam (fun q=>.fam (fun _=>.top) (j.2.2 q)) j.2.1 [] [] 56 (.u 1 1))]
 n:=2
 ros:=[]
 st:=noSt
 ways:=[]
def I_J(T:TD)(L:List By):LoopD where
 J:=Nat×Nat×(Nat->Nat)×Nat
 side:=fun j=>(1<j.1/\j.1<=L.length)/\(0<j.2.1/\j.2.1<=j.1)/\barL L
 μ:=fun j=>L.length-j.1
 fn:=75
 p:=0
 s:=fun j=>[(6,.slc 0 0 j.2.1 (.u 1 0)),(7,.slc 2 0 j.2.2.2 (.u 3 0)),(21,.fam (fun q=>.str (atS L q)) L.length),(22,.lit (.int .i64 (L.length:Nat))),(23,.lit (.int .i64 (j.1:Nat)))]
 b:=fun j=>[(0,.fam (fun q=>.fam (fun _=>.top) (j.2.2.1 q)) j.2.1 [] [] 56 (.u 1 1)),(2,.fam (fun _=>.top) j.2.2.2 [] [] 3 (.u 3 1))]
 n:=4
 ros:=[]
 st:=noSt
 ways:=[]
def I_K(T:TD)(L:List By):List LoopD:=[g8D T L,I_I T L,I_J T L]
def g8I(T:TD)(L:List By)(n:Nat)(m:Nat->Nat)(C:List By):LoopD where
 J:=Unit
 side:=fun _=>True
 μ:=fun _=>C.length+1
 fn:=75
 p:=0
 s:=fun _=>[(6,.slc 0 0 n (.u 1 0)),(7,ns),(21,.fam (fun q=>.str (atS L q)) L.length),(22,.lit (.int .i64 (L.length:Nat))),(23,.lit (.int .i64 (1:Nat))),(54,.fam (fun q=>.str (atS C q)) C.length),(55,.lit (.int .i64 (C.length:Nat))),(56,.lit (.int .i64 (0:Nat)))]
 b:=fun _=>[(0,.fam (fun q=>.fam (fun _=>.top) (m q)) n [] [] 56 (.u 1 1))]
 n:=2
 ros:=[]
 st:=noSt
 ways:=[{e:=.exit 2,X:=Unit,c:=fun _=>True,s:=fun _=>[(6,.slc 0 0 n (.u 1 0)),(7,ns),(21,.fam (fun q=>.str (atS L q)) L.length),(22,.lit (.int .i64 (L.length:Nat))),(23,.lit (.int .i64 (1:Nat)))],b:=fun _=>[(0,.fam (fun q=>.fam (fun _=>.top) (m q)) n [] [] 56 (.u 1 1))],n:=2},{e:=.exit 2,X:=Unit,c:=fun _=>True,s:=fun _=>[(6,.slc 0 0 n (.u 1 0)),(7,.slc 2 0 C.length (.u 3 0)),(21,.fam (fun q=>.str (atS L q)) L.length),(22,.lit (.int .i64 (L.length:Nat))),(23,.lit (.int .i64 (1:Nat)))],b:=fun _=>[(0,.fam (fun q=>.fam (fun _=>.top) (m q)) n [] [] 56 (.u 1 1)),(2,.fam (fun _=>.top) C.length [] [] 3 (.u 3 1))],n:=4},{e:=.ret,X:=Unit,c:=fun _=>True,s:=fun _=>[(2,ns),(3,ns),(4,.lit (.bool false))],b:=fun _=>[],n:=0}]
def I_L(T:TD)(L:List By)(n:Nat)(m:Nat->Nat)(C:List By):LoopD where
 J:=Nat
 side:=fun k=>0<k/\k<=C.length
 μ:=fun k=>C.length-k
 fn:=75
 p:=0
 s:=fun k=>[(6,.slc 0 0 n (.u 1 0)),(7,.slc 2 0 k (.u 3 0)),(21,.fam (fun q=>.str (atS L q)) L.length),(22,.lit (.int .i64 (L.length:Nat))),(23,.lit (.int .i64 (1:Nat))),(54,.fam (fun q=>.str (atS C q)) C.length),(55,.lit (.int .i64 (C.length:Nat))),(56,.lit (.int .i64 (k:Nat)))]
 b:=fun k=>[(0,.fam (fun q=>.fam (fun _=>.top) (m q)) n [] [] 56 (.u 1 1)),(2,.fam (fun _=>.top) k [] [] 3 (.u 3 1))]
 n:=4
 ros:=[]
 st:=noSt
 ways:=[]
def pkS(T:TD):GenS where
 A:=Unit
 st:=noSt
 dec:=fun _ _=>none
 dom:=fun _=>srcT T
 args1:=fun _=>[c_w T,.agg (l_p T T.skip)]
 blks1:=fun _=>[]
 next1:=0
 ros1:=[]
 p1:=0
 X:=Unit
 G:=fun _ _=>True
 val:=fun _=>.lit (.bool true)
 out:=fun _=>[]
 n2:=0
def pkU(T:TD):Tabs:=⟨fun f=>match f with
 |4=>some ((zgS T).spec)
 |5=>some ((neS T).spec)
 |6=>some ((taS T).spec)
 |7=>some (spT T)
 |8=>some ((g8S T).spec)
 |_=>none,fun _=>none⟩
end Tk

