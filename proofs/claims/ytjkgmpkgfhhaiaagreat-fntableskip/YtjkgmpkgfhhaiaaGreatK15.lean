/- Lemmas of this claim; the last text says what is proved. -/
import Derived.Test.YtjkgmpkgfhhaiaaGreatK14
import Derived.Test.YtjkgmpkgfhhaiaaGreatProg
set_option linter.all false
namespace Tk
open Go Go.Sx Go.Proofs
theorem namesOk:(Tryz.prog.funcs.toList.all fun fn=> !(fn.name== "runtime.NumGoroutine"))=true:=by kernel_rfl
noncomputable def bodyOf (f:Func):Code:=f.body.getD .skip
noncomputable def ft:FuncId->Option Func:=fun f=>Tryz.prog.funcs[f]?
theorem ftOk:FtOk Tryz.prog ft:=by
 intro f fn h
 refine⟨h,?_⟩
 have h1:=List.all_eq_true.1 namesOk fn
 have h2:fn∈Tryz.prog.funcs.toList:=by
  have h:Tryz.prog.funcs[f]?=some fn:=h
  rw[←Array.getElem?_toList] at h
  exact List.mem_of_getElem? h
 simpa using h1 h2
variable [Syms]
def nof:Tabs:=⟨fun _=>none,fun _=>none⟩
theorem nofOk:TabOk Tryz.prog nof:={c:=fun _ _ h=>(by cases h),d:=fun _ _ h=>(by cases h)}
structure TD where
 R:Nat
 C:Nat->Nat
 hd:Bool
 tx:Nat->Nat->List UInt8
 pad:List UInt8
 keep:List UInt8
 span:List UInt8
 promote:Bool
 pres:Bool
 hh:Nat->Nat->Bool
 al:Nat->Nat->List UInt8
 cc:Nat->Nat->Int
 rr:Nat->Nat->Int
 oP:Int
 oK:Bool
 oM:Bool
def nilB:List UInt8->Bool
 |[]=>true
 |_::_=>false
def wordB (c:UInt8):Bool:=(Nat.ble 97 c.toNat&&Nat.ble c.toNat 122)||((Nat.ble 65 c.toNat&&Nat.ble c.toNat 90)||(Nat.ble 48 c.toNat&&Nat.ble c.toNat 57))
def Words (l:List UInt8):Prop:=∀i,i<l.length->wordB (l.getD i 0)=true\/(l.getD i 0=32/\0<i/\i+1<l.length/\l.getD (i-1) 0≠32)
def blankAt (l:List UInt8):Nat->Bool
 |0=>false
 |k+1=>Nat.beq (l.getD k 0).toNat 32
def TD.hasT (T:TD) (i j:Nat):Bool:= !nilB (T.tx i j)
def doc:SId:=⟨1,0,0⟩
def tbl:SId:=⟨2,0,0⟩
def tbd:SId:=⟨3,0,0⟩
def tr (i:Nat):SId:=⟨4,i,0⟩
def td (i j:Nat):SId:=⟨5,i,j⟩
def tx (i j:Nat):SId:=⟨6,i,j⟩
def cv (k:Nat):SId:=⟨0,k,0⟩
def cellsL (T:TD) (i:Nat):Nat->List SId
 |0=>[]
 |j+1=>cellsL T i j++(td i j::cond (T.hasT i j) [tx i j] [])
def rowsL (T:TD):Nat->List SId
 |0=>[doc,tbl,tbd]
 |i+1=>rowsL T i++(tr i::cellsL T i (T.C i))
def nfn (T:TD) (k:Nat):SId:=(rowsL T T.R).getD k doc
def nfA (T:TD) (k:Nat):AVal:=.sp (nfn T k) 0
def ixR (T:TD) (i:Nat):Nat:=(rowsL T i).length
def ixD (T:TD) (i j:Nat):Nat:=ixR T i+1+(cellsL T i j).length
def nN (T:TD):Nat:=ixR T T.R
def padA:List UInt8:=[97,108,105,103,110,101,100]
def padM:List UInt8:=[109,105,110,105,109,97,108]
def padN:List UInt8:=[110,111,110,101]
structure TD.Ok (T:TD):Prop where
 r:0<T.R
 c:∀i,i<T.R->0<T.C i
 n:nN T<=1099511627776
 w:∀i j,Words (T.tx i j)
 l:∀i j,(T.tx i j).length<=2147483647
 r2:T.R<=13
 c2:∀i,T.C i<=12
 g:∀c,c<256->Syms.gn 0 c=true
 pd:T.pad=padA\/T.pad=padM\/T.pad=padN
theorem rowsL_le {T:TD} {i j:Nat} (h:i<=j):rowsL T i<+:rowsL T j:=by
 induction j with
 |zero=>have:i=0:=by omega
        subst this;exact List.prefix_rfl
 |succ j ih=>
  by_cases e:i=j+1
  ·subst e;exact List.prefix_rfl
  ·exact(ih (by omega)).trans (List.prefix_append ..)
theorem cellsL_le {T:TD} {k i j:Nat} (h:i<=j):cellsL T k i<+:cellsL T k j:=by
 induction j with
 |zero=>have:i=0:=by omega
        subst this;exact List.prefix_rfl
 |succ j ih=>
  by_cases e:i=j+1
  ·subst e;exact List.prefix_rfl
  ·exact(ih (by omega)).trans (List.prefix_append ..)
theorem nfn_pre {T:TD} {l:List SId} {x:SId} {r:List SId} (h:(l++x::r)<+:rowsL T T.R):nfn T l.length=x:=by
 obtain⟨t,e⟩:=h
 unfold nfn
 rw[←e,List.getD_eq_getElem?_getD,List.append_assoc,List.getElem?_append_right (Nat.le_refl _),Nat.sub_self]
 rfl
theorem nfn_tr {T:TD} {i:Nat} (h:i<T.R):nfn T (ixR T i)=tr i:=nfn_pre (rowsL_le (i:=i+1) h)
theorem cells_pre {T:TD} {i j:Nat} (h:i<T.R) (hc:j<T.C i):(rowsL T i++tr i::cellsL T i j++(td i j::cond (T.hasT i j) [tx i j] []))<+:rowsL T T.R:=by
 refine List.IsPrefix.trans ?_ (rowsL_le (i:=i+1) h)
 show _<+:rowsL T i++(tr i::cellsL T i (T.C i))
 rw[List.append_assoc]
 refine(List.prefix_append_right_inj _).2 ?_
 show tr i::(cellsL T i j++_)<+:_
 exact List.prefix_cons_inj _ |>.2 (cellsL_le (T:=T) (k:=i) (i:=j+1) hc)
theorem ixD_len {T:TD} {i j:Nat}:(rowsL T i++tr i::cellsL T i j).length=ixD T i j:=by
 simp[ixD,ixR];omega
theorem nfn_td {T:TD} {i j:Nat} (h:i<T.R) (hc:j<T.C i):nfn T (ixD T i j)=td i j:=by
 rw[←ixD_len];exact nfn_pre (cells_pre h hc)
theorem nfn_tx {T:TD} {i j:Nat} (h:i<T.R) (hc:j<T.C i) (ht:T.hasT i j=true):nfn T (ixD T i j+1)=tx i j:=by
 have h1:=cells_pre h hc
 rw[ht] at h1
 have h2:(rowsL T i++tr i::cellsL T i j++[td i j])++tx i j::[]<+:rowsL T T.R:=by
  rw[List.append_assoc];exact h1
 have:=nfn_pre h2
 rwa [List.length_append,ixD_len] at this
theorem ixD_0 {T:TD} {i:Nat}:ixD T i 0=ixR T i+1:=rfl
theorem ixD_t {T:TD} {i j:Nat} (ht:T.hasT i j=true):ixD T i (j+1)=ixD T i j+2:=by
 simp[ixD,cellsL,ht];omega
theorem ixD_f {T:TD} {i j:Nat} (ht:T.hasT i j=false):ixD T i (j+1)=ixD T i j+1:=by
 simp[ixD,cellsL,ht];omega
theorem ixR_s {T:TD} {i:Nat}:ixD T i (T.C i)=ixR T (i+1):=by
 simp[ixD,ixR,rowsL];omega
theorem ixR_le {T:TD} {i:Nat} (h:i<=T.R):ixR T i<=nN T:=(rowsL_le h).length_le
theorem ixD_le {T:TD} {i j:Nat} (h:i<T.R) (hc:j<=T.C i):ixD T i j<=nN T:=by
 have h1:ixD T i j<=ixD T i (T.C i):=by
  have:=(cellsL_le (T:=T) (k:=i) hc).length_le
  simp only[ixD];omega
 rw[ixR_s] at h1
 exact Nat.le_trans h1 (ixR_le h)
theorem nfn_0 {T:TD}:nfn T 0=doc:=nfn_pre (l:=[]) (r:=[tbl,tbd]) (rowsL_le (i:=0) (Nat.zero_le _))
theorem nfn_1 {T:TD}:nfn T 1=tbl:=nfn_pre (l:=[doc]) (r:=[tbd]) (rowsL_le (i:=0) (Nat.zero_le _))
theorem nfn_2 {T:TD}:nfn T 2=tbd:=nfn_pre (l:=[doc,tbl]) (r:=[]) (rowsL_le (i:=0) (Nat.zero_le _))
theorem ixR_0 {T:TD}:ixR T 0=3:=rfl
def np:AVal:=.lit (.pointer none)
def ns:AVal:=.lit (.slice none 0 0)
def nodeB (par fst lst prv nxt:AVal) (ty:Nat) (data:AVal):ABlk:=.row [par,fst,lst,prv,nxt,.lit (.int .u32 ty),.lit (.int .u32 0),data,.str [],ns] 157 (.n 10)
def trP (i:Nat):AVal:=.sp (tr i) 0
def tdP (i j:Nat):AVal:=.sp (td i j) 0
def txP (i j:Nat):AVal:=.sp (tx i j) 0
def s_td:AVal:=.str [116,100]
def s_th:AVal:=.str [116,104]
def s_tr:AVal:=.str [116,114]
def s_tbody:AVal:=.str [116,98,111,100,121]
def s_table:AVal:=.str [116,97,98,108,101]
def tagEs:List (AVal×AVal×Nat):=
    [(.str [35,99,111,109,109,101,110,116],.top,0),
    (.str [104,101,97,100],.top,1),
    (.str [115,99,114,105,112,116],.top,2),
    (.str [115,116,121,108,101],.top,3),
    (.str [108,105,110,107],.top,4),
    (.str [109,101,116,97],.top,5),
    (.str [105,102,114,97,109,101],.top,6),
    (.str [110,111,115,99,114,105,112,116],.top,7),
    (.str [105,110,112,117,116],.top,8),
    (.str [116,101,120,116,97,114,101,97],.top,9)]
def mdL:List Nat:=[92,42,95,45,43,46,62,124,36,35,61,91,93,40,41,33,126,96,34,39]
def mdEs:Nat->List Nat->List (AVal×AVal×Nat)
 |_,[]=>[]
 |i,c::r=>(.lit (.int .i32 c),.top,i)::mdEs (i+1) r
def cmR:List AVal:=[.str [42],.str [42,42],.str [42,32,42,32,42],.str [45],.lit (.bool false),.str [96,96,96],.str [97,116,120],.str [105,110,108,105,110,101,100],.str [114,101,110,100,101,114],.str [114,101,110,100,101,114]]
def pr (n:Nat):AVal:=.lit (.int .i64 n)
def cvB (T:TD):Nat->Option ABlk
 |0=>some (.row [.lit .nilIface,.ssl (cv 1) 0 3,.ssl (cv 2) 0 4,.ssl (cv 3) 0 2,.ssl (cv 4) 0 3,.ssl (cv 5) 0 2,.smp (cv 6),.ssl (cv 7) 0 11,.smp (cv 8),.str [],.top] 108 (.n 11))
 |1=>some (.row [.str [98,97,115,101],.str [99,111,109,109,111,110,109,97,114,107],.str [116,97,98,108,101]] 9 (.n 3))
 |2=>some (.row [.fn (.func 133) [.sp (cv 10) 0] [],pr 100,.fn (.func 134) [.sp (cv 10) 0] [],pr 1000,.fn (.func 187) [.sp (cv 11) 0] [],pr 500,.fn (.func 188) [] [.sp (cv 12) 0],pr 1100] 137 (.n 8))
 |3=>some (.row [.fn (.func 204) [.sp (cv 11) 0] [],pr 500,.fn (.func 403) [.sp (cv 9) 0] [],pr 500] 194 (.n 4))
 |4=>some (.row [.fn (.func 138) [.sp (cv 10) 0] [],pr 500,.fn (.func 139) [.sp (cv 10) 0] [],pr 520,.fn (.func 205) [.agg cmR] [],pr 1000] 150 (.n 6))
 |5=>some (.row [.fn (.func 136) [.sp (cv 10) 0] [],pr 500,.fn (.func 183) [.agg cmR] [],pr 1000] 207 (.n 4))
 |6=>some (.map (mdEs 0 mdL) 20)
 |7=>some (.row [] 333 (.n 0))
 |8=>some (.map tagEs 10)
 |9=>some (.row [.lit .nilIface,.str T.span,.str T.keep,.lit (.bool true),.lit (.bool T.promote),.lit (.bool T.pres),.str T.pad] 166 (.n 7))
 |10=>some (.row [] 65 (.n 0))
 |11=>some (.row cmR 77 (.n 10))
 |12=>some (.row [.sp (cv 11) 0] 78 (.n 1))
 |_=>none
def domB (T:TD):SId->Option ABlk:=fun x=>match x.k with
 |0=>cvB T x.i
 |1=>some (nodeB np (.sp tbl 0) (.sp tbl 0) np np 2 (.str []))
 |2=>some (nodeB (.sp doc 0) (.sp tbd 0) (.sp tbd 0) np np 3 s_table)
 |3=>some (nodeB (.sp tbl 0) (trP 0) (trP (T.R-1)) np np 3 s_tbody)
 |4=>some (nodeB (.sp tbd 0) (tdP x.i 0) (tdP x.i (T.C x.i-1)) (.ite (Nat.beq x.i 0) np (trP (x.i-1))) (.ite (Nat.blt (x.i+1) T.R) (trP (x.i+1)) np) 3 s_tr)
 |5=>some (nodeB (trP x.i) (.ite (T.hasT x.i x.j) (txP x.i x.j) np) (.ite (T.hasT x.i x.j) (txP x.i x.j) np) (.ite (Nat.beq x.j 0) np (tdP x.i (x.j-1))) (.ite (Nat.blt (x.j+1) (T.C x.i)) (tdP x.i (x.j+1)) np) 3 (.ite (Nat.beq x.i 0&&T.hd) s_th s_td))
 |6=>some (nodeB (tdP x.i x.j) np np np np 1 (.str (T.tx x.i x.j)))
 |_=>none
def ctxA (n:Nat):AVal:=.ifc 187 (.ptr n 0)
def ctxV:AVal:=.ifc 201 (.agg [.ifc 201 (.agg [.ifc 201 (.agg [.ifc 201 (.agg [.ifc 201 (.agg [.ifc 177 (.agg []),.ifc 179 .top,.top]),.ifc 179 .top,.top]),.ifc 179 .top,.top]),.ifc 179 .top,.top]),.ifc 179 .top,.top])
def ctxB:ABlk:=.row [ctxV,.sp (cv 0) 0] 189 (.n 2)
def undA:AVal:=.tup []
theorem pinA {x:SId} {o:Nat} {p:Nat}:SubA p (.sp x o) (.sp x o):=nlS_sub rfl
def TD.S (T:TD):Nat->Nat
 |0=>0
 |i+1=>T.S i+(1+2*T.C i)
theorem TD.S_le (T:TD) {i j:Nat} (h:i<=j):T.S i<=T.S j:=by
 induction j with
 |zero=>have:i=0:=by omega
        subst this;exact Nat.le_refl _
 |succ j ih=>
  by_cases e:i=j+1
  ·subst e;exact Nat.le_refl _
  ·have:=ih (by omega)
   simp only[TD.S];omega
def TD.pos (T:TD) (x:SId):Nat:=match x.k with
 |1=>0
 |2=>1
 |3=>2
 |4=>3+T.S x.i
 |5=>4+T.S x.i+2*x.j
 |_=>5+T.S x.i+2*x.j
def TD.Val (T:TD) (x:SId):Prop:=x=doc\/x=tbl\/x=tbd\/(∃i,i<T.R/\x=tr i)\/(∃i j,i<T.R/\j<T.C i/\x=Tk.td i j)\/(∃i j,i<T.R/\j<T.C i/\x=Tk.tx i j)
theorem cellsL_val {T:TD} {i:Nat} (h:i<T.R):∀{j:Nat},j<=T.C i->∀x∈cellsL T i j,T.Val x
 |0,_,x,hx=>by cases hx
 |j+1,hj,x,hx=>by
  rcases List.mem_append.1 hx with hx|hx
  ·exact cellsL_val h (by omega) x hx
  ·rcases List.mem_cons.1 hx with rfl|hx
   ·exact .inr (.inr (.inr (.inr (.inl ⟨i,j,h,hj,rfl⟩))))
   ·cases ht:T.hasT i j with
    |true=>rw[ht] at hx;rw[List.mem_singleton.1 hx];exact .inr (.inr (.inr (.inr (.inr ⟨i,j,h,hj,rfl⟩))))
    |false=>rw[ht] at hx;cases hx
theorem rowsL_val {T:TD}:∀{i:Nat},i<=T.R->∀x∈rowsL T i,T.Val x
 |0,_,x,hx=>by
  simp only[rowsL,List.mem_cons,List.not_mem_nil,or_false] at hx
  rcases hx with h|h|h
  ·exact .inl h
  ·exact .inr (.inl h)
  ·exact .inr (.inr (.inl h))
 |i+1,hi,x,hx=>by
  rcases List.mem_append.1 hx with hx|hx
  ·exact rowsL_val (by omega) x hx
  ·rcases List.mem_cons.1 hx with rfl|hx
   ·exact .inr (.inr (.inr (.inl ⟨i,hi,rfl⟩)))
   ·exact cellsL_val hi (Nat.le_refl _) x hx
theorem nfn_val {T:TD} (k:Nat):T.Val (nfn T k):=by
 unfold nfn
 rw[List.getD_eq_getElem?_getD]
 cases h:(rowsL T T.R)[k]? with
 |none=>exact .inl rfl
 |some x=>exact rowsL_val (Nat.le_refl _) x (List.mem_of_getElem? h)
theorem nfA_sub {T:TD} {n:Nat} {us:List (Nat×AVal)}:SubF (nfA T) (nfA T) n us:=fun _ _ _=>pinA
def TD.Sd (T:TD) (j:SId×Bool):Prop:=j.2=false->T.Val j.1
def TD.SdE (T:TD) (j:SId×Bool):Prop:=j.2=false->T.Val j.1/\j.1.k≠6
def TD.mu (T:TD) (j:SId×Bool):Nat:=cond j.2 0 (4+T.S T.R-T.pos j.1)
def nodeV (j:SId×Bool):AVal:=.ite j.2 np (.sp j.1 0)
theorem beqN_iff {a b:Nat}:Nat.beq a b=true↔a=b:=⟨Nat.eq_of_beq_eq_true,fun h=>h▸Nat.beq_refl a⟩
theorem beqN_iff' {a b:Nat}:Nat.beq a b=false↔¬a=b:=by rw[←Bool.not_eq_true,beqN_iff]
theorem leB_iff {a b:Nat}:Nat.ble a b=true↔a<=b:=⟨Nat.le_of_ble_eq_true,Nat.ble_eq_true_of_le⟩
theorem wrapN {k:Nat} (h:k<=281474976710656):IntKind.wrap IntKind.i64 (Int.ofNat k)=Int.ofNat k:=wrap64_id (Int.natCast_nonneg k) (by show(k:Int)<=_;omega)
theorem ltI {a b:Nat}:(decide (Int.ofNat a<Int.ofNat b))=true↔a<b:=by simp
theorem ltI' {a b:Nat}:(decide (Int.ofNat a<Int.ofNat b))=false↔b<=a:=by simp
theorem eqI {a b:Nat}:(Int.ofNat a==Int.ofNat b)=true↔a=b:=by rw[beq_iff_eq];exact Int.ofNat_inj
theorem eqI' {a b:Nat}:(Int.ofNat a==Int.ofNat b)=false↔¬a=b:=by rw[←Bool.not_eq_true,eqI]
theorem leI {a b:Nat}:(decide (Int.ofNat a<=Int.ofNat b))=true↔a<=b:=by simp
theorem leI' {a b:Nat}:(decide (Int.ofNat a<=Int.ofNat b))=false↔b<a:=by simp
theorem Words.at {l:List UInt8} (h:Words l) {i:Nat} (hi:i<l.length):((48<=(l.getD i 0).toNat/\(l.getD i 0).toNat<=57)\/(65<=(l.getD i 0).toNat/\(l.getD i 0).toNat<=90)\/(97<=(l.getD i 0).toNat/\(l.getD i 0).toNat<=122))\/((l.getD i 0).toNat=32/\0<i/\i+1<l.length/\(l.getD (i-1) 0).toNat≠32):=by
 rcases h i hi with h|⟨h1,h2,h3,h4⟩
 ·left
  simp only[wordB,Bool.or_eq_true,Bool.and_eq_true] at h
  rcases h with⟨h1,h2⟩|⟨h1,h2⟩|⟨h1,h2⟩
  ·exact .inr (.inr ⟨Nat.le_of_ble_eq_true h1,Nat.le_of_ble_eq_true h2⟩)
  ·exact .inr (.inl ⟨Nat.le_of_ble_eq_true h1,Nat.le_of_ble_eq_true h2⟩)
  ·exact .inl ⟨Nat.le_of_ble_eq_true h1,Nat.le_of_ble_eq_true h2⟩
 ·right
  refine⟨by rw[h1];rfl,h2,h3,fun e=>h4 (UInt8.toNat_inj.1 (by rw[e];rfl))⟩
theorem blankT {l:List UInt8} {k:Nat} (h:(l.getD k 0).toNat=32):true=blankAt l (k+1):=by simp only[blankAt,h];rfl
theorem blankF {l:List UInt8} {k:Nat} (h:¬(l.getD k 0).toNat=32):false=blankAt l (k+1):=(beqN_iff'.2 h).symm
theorem blank_out {l:List UInt8} {k:Nat} (h:true=blankAt l (k+1)):(l.getD k 0).toNat=32:=beqN_iff.1 h.symm
theorem blank_out' {l:List UInt8} {k:Nat} (h:false=blankAt l (k+1)):¬(l.getD k 0).toNat=32:=beqN_iff'.1 h.symm
theorem wrapS1 {k:Nat}:IntKind.wrap IntKind.i64 (Int.ofNat (k+1)-Int.ofNat k)=Int.ofNat 1:=by
 have:Int.ofNat (k+1)-Int.ofNat k=Int.ofNat 1:=by simp only[Int.ofNat_eq_natCast];omega
 rw[this];exact wrapN (by omega)
theorem wrapS {a b:Nat} (h:b<=a) (ha:a<=281474976710656):IntKind.wrap IntKind.i64 (Int.ofNat a-Int.ofNat b)=Int.ofNat (a-b):=by
 have:Int.ofNat a-Int.ofNat b=Int.ofNat (a-b):=by simp only[Int.ofNat_eq_natCast];omega
 rw[this];exact wrapN (by omega)
theorem Words.end {l:List UInt8} (h:Words l) (hp:0<l.length):eqL (l.drop (l.length-1)) [32]=false:=by
 rw[eqL_eq,Bool.eq_false_iff]
 intro e
 have e:=eq_of_beq e
 have h1:l.getD (l.length-1) 0=32:=by
  have:=congrArg (fun x=>x.getD 0 (0:UInt8)) e
  simpa[List.getD_eq_getElem?_getD,List.getElem?_drop] using this
 have h2:=h.at (i:=l.length-1) (by omega)
 rw[h1] at h2
 have:(32:UInt8).toNat=32:=rfl
 omega
theorem geI {a b:Nat}:(decide (Int.ofNat a≥Int.ofNat b))=true↔b<=a:=by simp
theorem geI' {a b:Nat}:(decide (Int.ofNat a≥Int.ofNat b))=false↔a<b:=by simp
theorem hasT_ne {T:TD} {i j:Nat} (h:T.hasT i j=true):T.tx i j≠[]:=by
 intro e;simp[TD.hasT,e,nilB] at h
inductive CS where
 |a|b|tr0|trn (i:Nat)|td0 (i:Nat)|tdn (i j:Nat)|txd (i j:Nat)|tdu (i j:Nat)|tru (i:Nat)|tbu|tlu|dou
structure CJ where
 pn:Bool
 p:SId
 n:SId
 tn:Bool
 t:SId
 m:Nat
def cS (T:TD):Nat->Nat
 |0=>0
 |i+1=>cS T i+(2+3*T.C i)
theorem cS_le {T:TD} {i j:Nat} (h:i<=j):cS T i<=cS T j:=by
 induction j with
 |zero=>have:i=0:=by omega
        subst this;exact Nat.le_refl _
 |succ j ih=>
  by_cases e:i=j+1
  ·subst e;exact Nat.le_refl _
  ·have:=ih (by omega)
   simp only[cS];omega
def CS.rep (T:TD) (o:Bool) (a b:Nat):CS->CJ
 | .a=>⟨true,doc,tbl,true,doc,0⟩
 | .b=>⟨false,tbl,tbd,true,doc,1⟩
 | .tr0=>⟨false,tbd,tr 0,o,tx a b,3⟩
 | .trn i=>⟨false,tr i,tr (i+1),o,tx a b,3+cS T (i+1)⟩
 | .td0 i=>⟨false,tr i,td i 0,o,tx a b,4+cS T i⟩
 | .tdn i j=>⟨false,td i j,td i (j+1),o,tx a b,4+cS T i+3*(j+1)⟩
 | .txd i j=>⟨false,td i j,tx i j,o,tx a b,5+cS T i+3*j⟩
 | .tdu i j=>⟨false,tx i j,td i j,o,tx a b,6+cS T i+3*j⟩
 | .tru i=>⟨false,td i (T.C i-1),tr i,o,tx a b,4+cS T i+3*T.C i⟩
 | .tbu=>⟨false,tr (T.R-1),tbd,o,tx a b,3+cS T T.R⟩
 | .tlu=>⟨false,tbd,tbl,o,tx a b,4+cS T T.R⟩
 | .dou=>⟨false,tbl,doc,true,doc,5+cS T T.R⟩
def CS.ok (T:TD):CS->Prop
 | .trn i=>i+1<T.R
 | .td0 i=>i<T.R
 | .tdn i j=>i<T.R/\j+1<T.C i
 | .txd i j=>i<T.R/\j<T.C i/\T.hasT i j=true
 | .tdu i j=>i<T.R/\j<T.C i/\T.hasT i j=true
 | .tru i=>i<T.R
 |_=>True
def lastOk (T:TD) (o:Bool) (a b:Nat):Prop:=o=false->a<T.R/\b<T.C a/\T.hasT a b=true
def coSd (T:TD) (j:CJ):Prop:=∃(s:CS) (o:Bool) (a b:Nat),s.ok T/\lastOk T o a b/\j=s.rep T o a b
def coMu (T:TD) (j:CJ):Nat:=6+cS T T.R-j.m
theorem co_go {T:TD} {x:CJ} {P:CJ->Prop} (s:CS) (o:Bool) (a b:Nat) (hb:lastOk T o a b) (ho:s.ok T) (hm:x.m<(s.rep T o a b).m) (hl:(s.rep T o a b).m<6+cS T T.R) (hP:P (s.rep T o a b)):∃j':CJ,coSd T j'/\coMu T j'<coMu T x/\P j':=⟨_,⟨s,o,a,b,ho,hb,rfl⟩,by simp only[coMu];omega,hP⟩
theorem lastN {T:TD} {a b:Nat}:lastOk T true a b:=fun h=>(by cases h)
theorem co_sd0 {T:TD}:coSd T (CS.a.rep T true 0 0):=⟨.a,true,0,0,trivial,lastN,rfl⟩
def TD.wh (T:TD) (b:Bool):TD:={T with hd:=b}
theorem cS_i {T:TD} {i:Nat} (h:i<T.R):cS T i+(2+3*T.C i)<=cS T T.R:=cS_le (i:=i+1) h
def orS (S:GenS) (s2:Sx.Spec):Sx.Spec:=fun args H K=>match S.dec args H with
 |some _=>S.spec args H K
 |none=>s2 args H K
theorem orS_ok {P:Program} {f:FuncId} {S:GenS} {s2:Sx.Spec} (h1:SpecOk P f S.spec) (h2:SpecOk P f s2):SpecOk P f (orS S s2):=by
 intro args H K h
 simp only[orS] at h
 split at h
 ·exact h1 _ _ _ h
 ·exact h2 _ _ _ h
structure TD.Nx (T:TD) (a b:SId×Bool):Prop where
 m:T.mu b<T.mu a
 s:T.Sd b
 e:b.1.k≠6->T.SdE b
theorem TD.S_i (T:TD) {i:Nat} (h:i<T.R):T.S i+(1+2*T.C i)<=T.S T.R:=by
 have h1:=T.S_le (i:=i+1) (j:=T.R) h
 have h2:T.S (i+1)=T.S i+(1+2*T.C i):=rfl
 omega
theorem TD.nx_of {T:TD} {a b:SId} (hb:T.Val b) (h1:T.pos a<T.pos b) (h2:T.pos b<=3+T.S T.R):T.Nx (a,false) (b,false):=
 ⟨by simp only[TD.mu,cond_false];omega,fun _=>hb,fun h=>fun _=>⟨hb,h⟩⟩
theorem TD.nx_end {T:TD} {a:SId} (y:SId) (h:T.pos a<=3+T.S T.R):T.Nx (a,false) (y,true):=
 ⟨by simp only[TD.mu,cond_false,cond_true];omega,fun h=>(by cases h),fun _ h=>(by cases h)⟩
variable {T:TD} {i j:Nat}
theorem nx_doc:T.Nx (doc,false) (tbl,false):=TD.nx_of (.inr (.inl rfl)) (by simp[TD.pos,doc,tbl]) (by simp[TD.pos,tbl];omega)
theorem nx_tbl:T.Nx (tbl,false) (tbd,false):=TD.nx_of (.inr (.inr (.inl rfl))) (by simp[TD.pos,tbl,tbd]) (by simp[TD.pos,tbd];omega)
theorem nx_tbd (h:0<T.R):T.Nx (tbd,false) (tr 0,false):=TD.nx_of (.inr (.inr (.inr (.inl ⟨0,h,rfl⟩)))) (by show 2<3+T.S 0;omega) (by have:=T.S_le (Nat.zero_le T.R);show 3+T.S 0<=3+T.S T.R;omega)
theorem nx_tr (h:i<T.R) (hc:0<T.C i):T.Nx (tr i,false) (td i 0,false):=TD.nx_of (.inr (.inr (.inr (.inr (.inl ⟨i,0,h,hc,rfl⟩))))) (by simp[TD.pos,tr,td]) (by have:=T.S_i h;simp[TD.pos,td];omega)
theorem nx_td (h:i<T.R) (hc:j<T.C i):T.Nx (td i j,false) (tx i j,false):=TD.nx_of (.inr (.inr (.inr (.inr (.inr ⟨i,j,h,hc,rfl⟩))))) (by simp[TD.pos,td,tx]) (by have:=T.S_i h;simp[TD.pos,tx];omega)
theorem nx_tdn (h:i<T.R) (hc:j+1<T.C i):T.Nx (td i j,false) (td i (j+1),false):=TD.nx_of (.inr (.inr (.inr (.inr (.inl ⟨i,j+1,h,hc,rfl⟩))))) (by simp[TD.pos,td]) (by have:=T.S_i h;simp[TD.pos,td];omega)
theorem nx_txn (h:i<T.R) (hc:j+1<T.C i):T.Nx (tx i j,false) (td i (j+1),false):=TD.nx_of (.inr (.inr (.inr (.inr (.inl ⟨i,j+1,h,hc,rfl⟩))))) (by simp[TD.pos,td,tx];omega) (by have:=T.S_i h;simp[TD.pos,td];omega)
theorem nx_tdr (h:i+1<T.R) (hc:j<T.C i):T.Nx (td i j,false) (tr (i+1),false):=TD.nx_of (.inr (.inr (.inr (.inl ⟨i+1,h,rfl⟩)))) (by simp[TD.pos,td,tr,TD.S];omega) (by have:=T.S_i h;simp[TD.pos,tr];omega)
theorem nx_txr (h:i+1<T.R) (hc:j<T.C i):T.Nx (tx i j,false) (tr (i+1),false):=TD.nx_of (.inr (.inr (.inr (.inl ⟨i+1,h,rfl⟩)))) (by simp[TD.pos,tx,tr,TD.S];omega) (by have:=T.S_i h;simp[TD.pos,tr];omega)
theorem nx_tde (h:i<T.R) (hc:j<T.C i):T.Nx (td i j,false) (doc,true):=TD.nx_end _ (by have:=T.S_i h;simp[TD.pos,td];omega)
theorem nx_txe (h:i<T.R) (hc:j<T.C i):T.Nx (tx i j,false) (doc,true):=TD.nx_end _ (by have:=T.S_i h;simp[TD.pos,tx];omega)
theorem nx_goE {a b:SId×Bool} {P:SId×Bool->Prop} (h:T.Nx a b) (he:Nat.beq b.1.k 6=false) (hP:P b):∃j':SId×Bool,T.SdE j'/\T.mu j'<T.mu a/\P j':=⟨b,h.e (beqN_iff'.1 he),h.m,hP⟩
theorem nx_goN {a b:SId×Bool} {P:SId×Bool->Prop} (h:T.Nx a b) (hP:P b):∃j':SId×Bool,T.Sd j'/\T.mu j'<T.mu a/\P j':=⟨b,h.s,h.m,hP⟩
theorem TD.sd0 (T:TD):T.Sd (doc,false):=fun _=>.inl rfl
theorem TD.sdE0 (T:TD):T.SdE (doc,false):=fun _=>⟨.inl rfl,by decide⟩
def sj0:=And.intro @and_true (And.intro @true_and (And.intro @and_false (And.intro @exists_const.{1} (And.intro @exists_const.{0} (And.intro @exists_false.{1} (And.intro @exists_false.{0} (And.intro @false_or (And.intro @List.length_cons.{0} (And.intro @List.length_append.{0} (And.intro @List.length_nil.{0} (And.intro @or_false (@exists_eq_left.{1}))))))))))))
def sj1:=And.intro @br_iff (And.intro @gd_iff (And.intro @Bool.and_eq_true (And.intro @decide_eq_true_eq (And.intro @decide_eq_false_iff_not (And.intro @beqN_iff (And.intro @blt_iff (And.intro @blt_iff' (@leB_iff))))))))
def sj2:=And.intro @List.drop_zero.{0} (And.intro @Nat.zero_add (And.intro @Nat.add_zero (And.intro @Int.ofNat_eq_natCast (And.intro @Int.toNat_natCast (And.intro @Int.ofNat_lt (@Int.ofNat_le))))))
def sj3:=And.intro @and_true (And.intro @true_and (And.intro @implies_true.{1} (And.intro @implies_true.{0} (And.intro @forall_const.{1} (And.intro @forall_const.{0} (And.intro @exists_const.{1} (And.intro @exists_const.{0} (@Nat.le_eq))))))))
def sj4:=And.intro @Int.ofNat_eq_natCast (And.intro @Int.ofNat_lt (And.intro @forall_eq.{1} (And.intro @Value.int.injEq (And.intro @Int.ofNat_inj (And.intro @Int.natCast_inj (And.intro @true_and (And.intro @and_true (And.intro @eq_self.{1} (And.intro @and_false (And.intro @false_and (And.intro @exists_false.{1} (And.intro @exists_false.{0} (And.intro @or_false (And.intro @false_or (@exists_eq_left.{1})))))))))))))))
def sj5:=And.intro @beqN_iff (And.intro @beqN_iff' (And.intro @blt_iff (@blt_iff')))
def sj6:=And.intro @br_iff (And.intro @gd_iff (And.intro @Bool.and_eq_true (And.intro @beqN_iff (And.intro @blt_iff (@blt_iff')))))
def sj7:=And.intro @imp_self (And.intro @Nat.add_zero (And.intro @exists_eq_left.{1} (@forall_eq.{1})))
def sj8:=And.intro @and_true (And.intro @true_and (And.intro @implies_true.{1} (And.intro @implies_true.{0} (And.intro @Nat.le_eq (And.intro @forall_const.{1} (@forall_const.{0}))))))
def sj9:=And.intro @eqI (And.intro @eqI' (And.intro @ltI (And.intro @ltI' (And.intro @leI (And.intro @leI' (And.intro @br_iff (And.intro @gd_iff (And.intro @Bool.and_eq_true (@Bool.not_eq_true')))))))))
def sj10:=And.intro @br_iff (And.intro @gd_iff (And.intro @decide_eq_true_eq (@decide_eq_false_iff_not)))
def sj11:=And.intro @br_iff (And.intro @gd_iff (And.intro @Bool.and_eq_true (And.intro @Bool.and_false (@Bool.false_eq_true))))
def sj12:=And.intro @eq_self.{1} (And.intro @implies_true.{1} (And.intro @implies_true.{0} (And.intro @Nat.le_eq (And.intro @not_true_eq_false (And.intro @false_implies (And.intro @true_implies (@beqN_iff')))))))
def sj13:=And.intro @and_true (And.intro @true_and (And.intro @Int.ofNat_eq_natCast (And.intro @and_false (And.intro @exists_const.{1} (And.intro @exists_const.{0} (And.intro @exists_false.{1} (And.intro @exists_false.{0} (And.intro @false_or (And.intro @List.length_cons.{0} (And.intro @List.length_append.{0} (And.intro @List.length_nil.{0} (@or_false))))))))))))
end Tk
namespace Tk
abbrev By:=List UInt8
abbrev Row:=List By
def isE (r:Row):Bool:=r.all fun c=>c.isEmpty
def rmEmpty:List Row->List Row
 |[]=>[]
 |h::t=>if(t.filter fun r=> !isE r).isEmpty&&isE h then[] else h::t.filter fun r=> !isE r
def rmFirst:List Row->List Row
 |[]=>[]
 |h::t=>if isE h then t else h::t
def finalRows (hd promote:Bool) (rows:List Row):List Row:=
 let r1:=rmEmpty (if hd then rows else[]::rows)
 if promote then rmFirst r1 else r1
def insRow {α:Type} (rows:List α) (i:Nat) (r:α):List α:=rows.take i++r::rows.drop i
theorem filter_ins {rows:List Row} {i:Nat} {r:Row} (h:isE r=true):(insRow rows i r).filter (fun r=> !isE r)=rows.filter fun r=> !isE r:=by
 unfold insRow
 rw[List.filter_append,List.filter_cons]
 simp only[h,Bool.not_true,Bool.false_eq_true,if_false]
 rw[←List.filter_append,List.take_append_drop]
theorem finalRows_ins (hd promote:Bool) {rows:List Row} {i:Nat} {r:Row} (h:isE r=true) (h0:0<i) (h1:i<=rows.length):finalRows hd promote (insRow rows i r)=finalRows hd promote rows:=by
 have key:rmEmpty (if hd then insRow rows i r else[]::insRow rows i r)=rmEmpty (if hd then rows else[]::rows):=by
  cases hd with
  |false=>simp only[Bool.false_eq_true,if_false,rmEmpty,filter_ins h]
  |true=>
   simp only[if_true]
   cases rows with
   |nil=>simp at h1;omega
   |cons x xs=>
    obtain⟨j,rfl⟩:∃j,i=j+1:=⟨i-1,by omega⟩
    have e:insRow (x::xs) (j+1) r=x::insRow xs j r:=rfl
    rw[e]
    simp only[rmEmpty,filter_ins h]
 unfold finalRows
 rw[key]
def step (s:Nat×By×By) (c:UInt8):Nat×By×By:=
 if c=10 then(s.1+1,[],if s.1+1<=2 then s.2.2++s.2.1++[10] else s.2.2)
 else if c=32 then(s.1,s.2.1++[32],s.2.2)
 else(0,[],s.2.2++s.2.1++[c])
def tcn (l:By):By:=let s:=l.foldl step (0,[],[]);s.2.2++s.2.1
def Alike (s t:Nat×By×By):Prop:=s.2=t.2/\(s.1=t.1\/(2<=s.1/\2<=t.1))
theorem alike_step {s t:Nat×By×By} (h:Alike s t) (c:UInt8):Alike (step s c) (step t c):=by
 obtain⟨h1,h2⟩:=h
 unfold step
 by_cases hc:c=10
 ·simp only[hc,if_true]
  refine⟨?_,?_⟩
  ·simp only[h1,Prod.mk.injEq,true_and]
   rcases h2 with h2|⟨h2,h3⟩
   ·rw[h2]
   ·rw[if_neg (by omega),if_neg (by omega)]
  ·simp only
   rcases h2 with h2|⟨h2,h3⟩
   ·exact .inl (by omega)
   ·exact .inr ⟨by omega,by omega⟩
 ·simp only[hc,if_false]
  by_cases hs:c=32
  ·simp only[hs,if_true,h1]
   exact⟨rfl,h2⟩
  ·simp only[hs,if_false,h1]
   exact⟨rfl,.inl rfl⟩
theorem alike_fold:∀(l:By) {s t:Nat×By×By},Alike s t->(l.foldl step s).2=(l.foldl step t).2
 |[],_,_,h=>h.1
 |c::l,_,_,h=>alike_fold l (alike_step h c)
def nn:By:=[10,10]
theorem fold_nn (s:Nat×By×By):(nn.foldl step s).2.1=[]/\2<=(nn.foldl step s).1:=by
 simp[nn,step]
theorem tcn_more (a b:By):tcn (a++nn++nn++nn++b)=tcn (a++nn++b):=by
 unfold tcn
 have:((a++nn++nn++nn++b).foldl step (0,[],[])).2=((a++nn++b).foldl step (0,[],[])).2:=by
  simp only[List.foldl_append]
  refine alike_fold b ?_
  generalize (a.foldl step (0,[],[]))=s0
  have h:=fold_nn s0
  generalize nn.foldl step s0=s at h
  obtain⟨n,b1,o⟩:=s
  simp only at h
  obtain⟨rfl,hn⟩:=h
  have e1:nn.foldl step (n,[],o)=(n+2,[],o):=by
   simp only[nn,List.foldl_cons,List.foldl_nil,step,if_true]
   rw[if_neg (by omega),if_neg (by omega)]
  have e2:nn.foldl step (n+2,[],o)=(n+4,[],o):=by
   simp only[nn,List.foldl_cons,List.foldl_nil,step,if_true]
   rw[if_neg (by omega),if_neg (by omega)]
  rw[e1,e2]
  exact⟨rfl,.inr ⟨by simp,by simpa using hn⟩⟩
 simp only[this]
def fbRows (rows:List Row):By:=rows.flatMap fun r=>nn++r.flatten++nn
def fb (rows:List Row):By:=nn++fbRows rows++nn
theorem fbRows_append (a b:List Row):fbRows (a++b)=fbRows a++fbRows b:=by unfold fbRows;exact List.flatMap_append
theorem fbRows_cons (r:Row) (b:List Row):fbRows (r::b)=nn++r.flatten++nn++fbRows b:=by unfold fbRows;rw[List.flatMap_cons]
theorem fb_ins {rows:List Row} {i:Nat} {r:Row} (h:isE r=true) (h0:0<i) (h1:i<=rows.length):tcn (fb (insRow rows i r))=tcn (fb rows):=by
 have hr:r.flatten=[]:=by
  rw[List.flatten_eq_nil_iff]
  intro x hx
  have:=List.all_eq_true.1 h x hx
  simpa using this
 have hsplit:∃a,fbRows (rows.take i)=a++nn:=by
  obtain⟨j,rfl⟩:∃j,i=j+1:=⟨i-1,by omega⟩
  have hj:j<rows.length:=by omega
  have e:rows.take (j+1)=rows.take j++[rows[j]]:=by rw[List.take_add_one,List.getElem?_eq_getElem hj];rfl
  refine⟨fbRows (rows.take j)++(nn++rows[j].flatten),?_⟩
  rw[e,fbRows_append,fbRows_cons]
  simp[fbRows]
 obtain⟨a,ha⟩:=hsplit
 have e1:fb (insRow rows i r)=(nn++a)++nn++nn++nn++(fbRows (rows.drop i)++nn):=by
  unfold fb insRow
  rw[fbRows_append,fbRows_cons,ha,hr]
  simp
 have e2:fb rows=(nn++a)++nn++(fbRows (rows.drop i)++nn):=by
  unfold fb
  have:fbRows rows=fbRows (rows.take i)++fbRows (rows.drop i):=by
   rw[←fbRows_append,List.take_append_drop]
  rw[this,ha]
  simp
 rw[e1,e2]
 exact tcn_more _ _
end Tk
section
open Go Go.Sx Go.Proofs
namespace Tk.Q
end Tk.Q
namespace Tk
variable [Syms]
set_option maxRecDepth 100000 in
theorem rec378:SpecOkD Tryz.prog 378 recA0:=rec0_ok (fn:=Tryz.f378) ⟨by kernel_rfl,rfl,by kernel_rfl,rfl,rfl,rfl,rfl,rfl,rfl,rfl,rfl,⟨_,rfl⟩,rfl⟩
set_option maxRecDepth 100000 in
theorem rec20:SpecOkD Tryz.prog 20 recA:=rec_ok (fn:=Tryz.f20) ⟨by kernel_rfl,rfl,by kernel_rfl,rfl,rfl,rfl,rfl,rfl,rfl,rfl,rfl,⟨_,rfl⟩,rfl⟩
def iteS (S:GenS) (c:S.A->Bool) (s1 s2:Sx.Spec):Sx.Spec:=fun args H K=>match S.dec args H with
 |some a=>br (c a) (s1 args H K) (s2 args H K)
 |none=>False
theorem iteS_ok {P:Program} {f:FuncId} {S:GenS} {c:S.A->Bool} {s1 s2:Sx.Spec} (h1:SpecOk P f s1) (h2:SpecOk P f s2):SpecOk P f (iteS S c s1 s2):=by
 intro args H K h
 simp only[iteS] at h
 split at h
 ·rcases br_out h with⟨_,h⟩|⟨_,h⟩
  ·exact h1 _ _ _ h
  ·exact h2 _ _ _ h
 ·exact h.elim
theorem leB_iff' {a b:Nat}:Nat.ble a b=false↔b<a:=by rw[←Bool.not_eq_true,leB_iff];omega
theorem wrapI {k:Int} (h0: -9223372036854775808<=k) (h:k<9223372036854775808):IntKind.wrap IntKind.i64 k=k:=by
 have h2:(2:Int) ^ 64=18446744073709551616:=by decide
 have h3:(2:Int) ^ (64-1)=9223372036854775808:=by decide
 simp only[IntKind.wrap,IntKind.bits,IntKind.signed,h2,h3,Bool.true_and,decide_eq_true_eq]
 rcases Int.lt_or_le k 0 with hk|hk
 ·have e:k % 18446744073709551616=k+18446744073709551616:=by omega
  rw[e]
  split<;>omega
 ·have e:k % 18446744073709551616=k:=by omega
  rw[e]
  split<;>omega
def bufB (p q c:Nat) (l:By):List (Nat×ABlk):=[(p,.row [.slc q 0 l.length (.u c 0),.lit (.int .i64 0),.lit (.int .i8 0)] 141 (.n 3)),(q,.bytes l 5 (.u c 1))]
def bufO (p q d:Nat) (l:By):List (Nat×ABlk):=[(p,.row [.slc q 0 l.length (.n d),.lit (.int .i64 0),.lit (.int .i8 0)] 141 (.n 3)),(q,.bytes l 5 (.n d))]
def bufN (p:Nat):List (Nat×ABlk):=[(p,.row [ns,.lit (.int .i64 0),.lit (.int .i8 0)] 141 (.n 3))]
def bufMax:Nat:=70368744177664
theorem bufOpen {w0 w:World} {F0:Fp} {ι:Inj} {D:HD} {l:By} (hi:Inv w0 F0 ι (hpD D (bufB 0 1 2 l) []) w):∃d,d<9223372036854775808/\l.length<=d/\Inv w0 F0 ι (hpD D (bufO 0 1 d l) []) w:=by
 obtain⟨r,o,hr,ho,hb,_⟩:=hi.blk 0 _ rfl
 obtain⟨vs,rest,rfl,hd,_⟩:=hb
 cases hd with
 |cons h1 h2=>
 cases h1 with
 |slc hr1 hl hoff hc=>
 obtain⟨d,hd,h63,e⟩:=hc
 refine⟨d,h63,by omega,hi.reB (H':=hpD D (bufO 0 1 d l) []) rfl rfl rfl fun id b hg=>?_⟩
 have:=hpD_get hg
 simp only[bufO,List.mem_cons,List.not_mem_nil,or_false,Prod.mk.injEq] at this
 rcases this with⟨rfl,rfl⟩|⟨rfl,rfl⟩
 ·refine⟨_,rfl,fun o hbd=>?_⟩
  obtain⟨vs,rest,rfl,hd',ht⟩:=hbd
  refine⟨vs,rest,rfl,?_,ht⟩
  cases hd' with
  |cons h1' h2'=>
  refine .cons ?_ h2'
  cases h1' with
  |slc hr1 hl hoff hc=>
  obtain⟨d',hd',_,e'⟩:=hc
  rw[hd] at hd';cases hd'
  exact .slc hr1 hl hoff (by show _=_;omega)
 ·refine⟨_,rfl,fun o hbd=>?_⟩
  obtain⟨rest,fz,rfl,ht,hfz⟩:=hbd
  obtain⟨d',hd',e'⟩:=ht
  rw[hd] at hd';cases hd'
  exact⟨rest,fz,rfl,by show _<=_;omega,hfz⟩
theorem spliceB_eq:∀(c:By) (n:Nat) (v:By),n+v.length<=c.length->spliceB c n v=c.take n++v++c.drop (n+v.length)
 |c,0,[],_=>by cases c<;>simp[spliceB]
 |[],0,_::_,h=>by simp at h
 |c::cs,0,v::vs,h=>by
  have:=spliceB_eq cs 0 vs (by simp at h⊢;omega)
  simp only[spliceB,this]
  simp
 |[],n+1,v,h=>by simp at h
 |c::cs,n+1,v,h=>by
  have:=spliceB_eq cs n v (by simp at h⊢;omega)
  simp only[spliceB,this]
  have e:n+1+v.length=(n+v.length)+1:=by omega
  rw[e]
  simp
theorem bufA {l p:By} {k:Nat} (h:p.length<=k):∃r:By,l++p.take k=l++p++r:=⟨[],by rw[List.take_of_length_le h];simp⟩
theorem bufA0 {l p:By} {k n:Nat} (h:p.length=0):∃r:By,spliceB l n (p.take k)=l++p++r:=by
 have:p=[]:=List.length_eq_zero_iff.1 h
 subst this
 refine⟨[],?_⟩
 rw[List.take_nil,List.append_nil,List.append_nil]
 induction l generalizing n with
 |nil=>cases n<;>rfl
 |cons c l ih=>cases n with
  |zero=>rfl
  |succ n=>simp[spliceB,ih]
theorem bufG {l p l' p':By} {c n:Nat} (hl:l'=l) (hp:p'=p) (hn:n=l.length) (h:l.length+p.length<=c):∃r:By,spliceB (spliceB (List.replicate c 0) 0 l') n p'=l++p++r:=by
 subst hl;subst hp;subst hn
 rw[spliceB_eq (List.replicate c 0) 0 l' (by simp;omega),spliceB_eq _ _ _ (by simp;omega)]
 refine⟨(List.drop (l'.length+p'.length) (List.take 0 (List.replicate c 0)++l'++List.drop (0+l'.length) (List.replicate c 0))),?_⟩
 congr 2
 simp
theorem grG {l l':By} {n c:Nat} (hl:l'=l) (h:l.length+n<=c):∃x:By×Nat,(x.1.length=l.length+n/\x.1.take l.length=l/\x.2=l.length)/\∃r:By,spliceB (List.replicate c 0) 0 l'=x.1++r:=by
 subst hl
 rw[spliceB_eq _ _ _ (by simp;omega)]
 refine⟨((List.take 0 (List.replicate c 0)++l'++List.drop (0+l'.length) (List.replicate c 0)).take (l'.length+n),l'.length),⟨by simp;omega,?_,rfl⟩,(List.take 0 (List.replicate c 0)++l'++List.drop (0+l'.length) (List.replicate c 0)).drop (l'.length+n),by rw[List.take_append_drop]⟩
 simp[List.take_take]
theorem grL {l l':By} {n c dd:Nat} (hl:l'=l) (h:l.length+n<=c) (h63:dd<9223372036854775808):∃x:By×Nat,(x.1.length=l.length+n/\x.1.take l.length=l/\x.2=l.length)/\Value.int IntKind.i64 (l.length:Int)=Value.int IntKind.i64 (x.2:Int)/\l.length+n=x.1.length/\dd<9223372036854775808/\(∃r:By,spliceB (List.replicate c 0) 0 l'=x.1++r)/\dd*1<=dd:=by
 obtain⟨x,hx,hr⟩:=grG hl h
 exact⟨x,hx,by rw[hx.2.2],hx.1.symm,h63,hr,by omega⟩
theorem natMin {a b:Nat}:Nat.min a b=min a b:=rfl
theorem wsL {l p x1:By} {n k:Nat} (h1:x1.length=l.length+p.length) (h2:x1.take l.length=l) (hn:n=l.length) (hk:p.length<=k):∃r:By,spliceB x1 n (p.take k)=l++p++r:=by
 subst hn
 rw[List.take_of_length_le hk,spliceB_eq _ _ _ (by omega),h2]
 exact⟨_,rfl⟩
theorem wnL {p:By} {c:Nat} (h:p.length<=c):∃r:By,spliceB (List.replicate c 0) 0 p=p++r:=by
 rw[spliceB_eq _ _ _ (by simp;omega)]
 exact⟨List.drop (0+p.length) (List.replicate c 0),by simp⟩
theorem wnL2 {p:By} {c k:Nat} (h:p.length<=c) (hk:p.length<=k):∃r:By,spliceB (List.replicate c 0) 0 (p.take k)=p++r:=by
 rw[List.take_of_length_le hk];exact wnL h
theorem wnL3 {p:By} {c:Nat} (h:p.length<=c):∃r:By,spliceB (spliceB (List.replicate c 0) 0 []) 0 p=p++r:=by
 rw[spliceB_eq (List.replicate c 0) 0 [] (by simp)]
 simpa using wnL h
theorem wqL {l x1:By} {n:Nat} (h1:x1.length=l.length+1) (h2:x1.take l.length=l) (hn:n=l.length):∃r:By,x1.set n 10=l++[10]++r:=by
 subst hn
 have e:x1=l++[x1.getD l.length 0]:=by
  have e1:x1.drop l.length=[x1.getD l.length 0]:=by
   rw[List.getD_eq_getElem?_getD,List.getElem?_eq_getElem (by omega),Option.getD_some,List.drop_eq_getElem_cons (by omega),List.drop_of_length_le (by omega)]
  have:=List.take_append_drop l.length x1
  rw[h2,e1] at this
  exact this.symm
 rw[e]
 refine⟨[],?_⟩
 rw[List.set_append_right _ _ (by omega)]
 simp
end Tk
end
