/- Lemmas of this claim; the last text says what is proved. -/
import Derived.Test.YtblencgndjjleaaGreatDoorK11
import Derived.Test.YtblencgndjjleaaGreatDoorProg
set_option linter.all false
namespace Tk
open Go Go.Sx Go.Proofs
theorem r_X:(Tryz.prog.funcs.toList.all fun fn=> !(fn.name== "runtime.NumGoroutine"))=true:=aa
noncomputable def a_b(f:Func):Code:=f.body.getD .skip
noncomputable def ft:FuncId->Option Func:=fun f=>Tryz.prog.funcs[f]?
theorem a_l:o_5 Tryz.prog ft:=by
 intro f fn h
 refine⟨h,?_⟩
 have h1:=List.all_eq_true.1 r_X fn
 have h2:fn∈Tryz.prog.funcs.toList:=by
  have h:Tryz.prog.funcs[f]?=some fn:=h
  rw[←Array.getElem?_toList] at h
  exact List.mem_of_getElem? h
 simpa using h1 h2
variable [Syms]
def nof:Tabs:=⟨fun _=>none,fun _=>none⟩
theorem a_y:TabOk Tryz.prog nof:={c:=fun _ _ h=>am,d:=fun _ _ h=>am}
structure TD where
 R:Nat
 C:Nat->Nat
 hd:Bool
 tx:Nat->Nat->List UInt8
 pad:List UInt8
 keep:List UInt8
 span:List UInt8
 promote:Bool
 pres:Bool
 skip:Bool
 role:Bool
 hh:Nat->Nat->Bool
 al:Nat->Nat->List UInt8
 cc:Nat->Nat->Int
 rr:Nat->Nat->Int
 oP:Int
 oK:Bool
 oM:Bool
def b_X:List UInt8->Bool
 |[]=>true
 |_::_=>false
def m_u(c:UInt8):Bool:=(Nat.ble 97 c.toNat&&Nat.ble c.toNat 122)||((Nat.ble 65 c.toNat&&Nat.ble c.toNat 90)||(Nat.ble 48 c.toNat&&Nat.ble c.toNat 57))
def Words(l:List UInt8):Prop:=∀i,i<l.length->m_u (l.getD i 0)=true\/(l.getD i 0=32/\0<i/\i+1<l.length/\l.getD (i-1) 0≠32)
def b_O(l:List UInt8):Nat->Bool
 |0=>false
 |k+1=>Nat.beq (l.getD k 0).toNat 32
def TD.hasT(T:TD)(i j:Nat):Bool:= !b_X (T.tx i j)
def doc:SId:=⟨1,0,0⟩
def tbl:SId:=⟨2,0,0⟩
def tbd:SId:=⟨3,0,0⟩
def tr(i:Nat):SId:=⟨4,i,0⟩
def td(i j:Nat):SId:=⟨5,i,j⟩
def tx(i j:Nat):SId:=⟨6,i,j⟩
def cv(k:Nat):SId:=⟨0,k,0⟩
def b_1(T:TD)(i:Nat):Nat->List SId
 |0=>[]
 |j+1=>b_1 T i j++(td i j::cond (T.hasT i j) [tx i j] [])
def c_V(T:TD):Nat->List SId
 |0=>[doc,tbl,tbd]
 |i+1=>c_V T i++(tr i::b_1 T i (T.C i))
def nfn(T:TD)(k:Nat):SId:=(c_V T T.R).getD k doc
def nfA(T:TD)(k:Nat):AVal:=.sp (nfn T k) 0
def ixR(T:TD)(i:Nat):Nat:=(c_V T i).length
def ixD(T:TD)(i j:Nat):Nat:=ixR T i+1+(b_1 T i j).length
def nN(T:TD):Nat:=ixR T T.R
def h_g:List UInt8:=[97,108,105,103,110,101,100]
def k_C:List UInt8:=[109,105,110,105,109,97,108]
def m_v:List UInt8:=[110,111,110,101]
structure TD.Ok (T:TD):Prop where
 r:0<T.R
 c:∀i,i<T.R->0<T.C i
 n:nN T<=1099511627776
 w:∀i j,Words (T.tx i j)
 l:∀i j,(T.tx i j).length<=2147483647
 r2:T.R<=13
 c2:∀i,T.C i<=12
 g:∀c,c<256->Syms.gn 2 c=true
 pd:T.pad=h_g\/T.pad=k_C\/T.pad=m_v
theorem d_i{T:TD}{i j:Nat}(h:i<=j):c_V T i<+:c_V T j:=by
 induction j with
 |zero=>have:i=0:=by omega
        subst this;exact List.prefix_rfl
 |succ j ih=>
  by_cases e:i=j+1
  ·subst e;exact List.prefix_rfl
  ·exact(ih ac).trans (List.prefix_append ..)
theorem i_p{T:TD}{k i j:Nat}(h:i<=j):b_1 T k i<+:b_1 T k j:=by
 induction j with
 |zero=>have:i=0:=by omega
        subst this;exact List.prefix_rfl
 |succ j ih=>
  by_cases e:i=j+1
  ·subst e;exact List.prefix_rfl
  ·exact(ih ac).trans (List.prefix_append ..)
theorem e_p{T:TD}{l:List SId}{x:SId}{r:List SId}(h:(l++x::r)<+:c_V T T.R):nfn T l.length=x:=by
 obtain⟨t,e⟩:=h
 unfold nfn
 rw[←e,List.getD_eq_getElem?_getD,List.append_assoc,List.getElem?_append_right (Nat.le_refl _),Nat.sub_self]
 rfl
theorem t_S{T:TD}{i:Nat}(h:i<T.R):nfn T (ixR T i)=tr i:=e_p (d_i (i:=i+1) h)
theorem i_q{T:TD}{i j:Nat}(h:i<T.R)(hc:j<T.C i):(c_V T i++tr i::b_1 T i j++(td i j::cond (T.hasT i j) [tx i j] []))<+:c_V T T.R:=by
 refine List.IsPrefix.trans ?_ (d_i (i:=i+1) h)
 show _<+:c_V T i++(tr i::b_1 T i (T.C i))
 rw[List.append_assoc]
 refine(List.prefix_append_right_inj _).2 ?_
 show tr i::(b_1 T i j++_)<+:_
 exact List.prefix_cons_inj _ |>.2 (i_p (T:=T) (k:=i) (i:=j+1) hc)
theorem m_w{T:TD}{i j:Nat}:(c_V T i++tr i::b_1 T i j).length=ixD T i j:=by
 simp[ixD,ixR];omega
theorem t_T{T:TD}{i j:Nat}(h:i<T.R)(hc:j<T.C i):nfn T (ixD T i j)=td i j:=by
 rw[←m_w];exact e_p (i_q h hc)
theorem t_U{T:TD}{i j:Nat}(h:i<T.R)(hc:j<T.C i)(ht:T.hasT i j=true):nfn T (ixD T i j+1)=tx i j:=by
 have h1:=i_q h hc
 rw[ht] at h1
 have h2:(c_V T i++tr i::b_1 T i j++[td i j])++tx i j::[]<+:c_V T T.R:=by
  rw[List.append_assoc];exact h1
 have:=e_p h2
 rwa [List.length_append,m_w] at this
theorem x_7{T:TD}{i:Nat}:ixD T i 0=ixR T i+1:=rfl
theorem x_8{T:TD}{i j:Nat}(ht:T.hasT i j=true):ixD T i (j+1)=ixD T i j+2:=by
 simp[ixD,b_1,ht];omega
theorem x_9{T:TD}{i j:Nat}(ht:T.hasT i j=false):ixD T i (j+1)=ixD T i j+1:=by
 simp[ixD,b_1,ht];omega
theorem t_V{T:TD}{i:Nat}:ixD T i (T.C i)=ixR T (i+1):=by
 simp[ixD,ixR,c_V];omega
theorem p_0{T:TD}{i:Nat}(h:i<=T.R):ixR T i<=nN T:=(d_i h).length_le
theorem m_x{T:TD}{i j:Nat}(h:i<T.R)(hc:j<=T.C i):ixD T i j<=nN T:=by
 have h1:ixD T i j<=ixD T i (T.C i):=by
  have:=(i_p (T:=T) (k:=i) hc).length_le
  simp only[ixD];omega
 rw[t_V] at h1
 exact Nat.le_trans h1 (p_0 h)
theorem t_W{T:TD}:nfn T 0=doc:=e_p (l:=[]) (r:=[tbl,tbd]) (d_i (i:=0) (Nat.zero_le _))
theorem t_X{T:TD}:nfn T 1=tbl:=e_p (l:=[doc]) (r:=[tbd]) (d_i (i:=0) (Nat.zero_le _))
theorem y_a{T:TD}:nfn T 2=tbd:=e_p (l:=[doc,tbl]) (r:=[]) (d_i (i:=0) (Nat.zero_le _))
def np:AVal:=.lit (.pointer none)
def ns:AVal:=.lit (.slice none 0 0)
def c_d(par fst lst prv nxt:AVal)(ty:Nat)(data:AVal):ABlk:=.row [par,fst,lst,prv,nxt,.lit (.int .u32 ty),.lit (.int .u32 0),data,.str [],ns] 173 (.n 10)
def roleL:List UInt8:=[114,111,108,101]
def presL:List UInt8:=[112,114,101,115,101,110,116,97,116,105,111,110]
def atL:List AVal:=[.str [],.str roleL,.str presL]
def atA(r:Bool):AVal:=.ite r (.fmw (fun _=>atL) 3 1) ns
def b_w(par fst lst prv nxt:AVal)(ty:Nat)(data q:AVal):ABlk:=.row [par,fst,lst,prv,nxt,.lit (.int .u32 ty),.lit (.int .u32 0),data,.str [],q] 173 (.n 10)
def trP(i:Nat):AVal:=.sp (tr i) 0
def tdP(i j:Nat):AVal:=.sp (td i j) 0
def txP(i j:Nat):AVal:=.sp (tx i j) 0
def G_F:AVal:=.str [116,100]
def G_G:AVal:=.str [116,104]
def i_9:AVal:=.str [116,114]
def b_A:AVal:=.str [116,98,111,100,121]
def b_Y:AVal:=.str [116,97,98,108,101]
def t_Y:List (AVal×AVal×Nat):=
    [(.str [35,99,111,109,109,101,110,116],.top,0),
    (.str [104,101,97,100],.top,1),
    (.str [115,99,114,105,112,116],.top,2),
    (.str [115,116,121,108,101],.top,3),
    (.str [108,105,110,107],.top,4),
    (.str [109,101,116,97],.top,5),
    (.str [105,102,114,97,109,101],.top,6),
    (.str [110,111,115,99,114,105,112,116],.top,7),
    (.str [105,110,112,117,116],.top,8),
    (.str [116,101,120,116,97,114,101,97],.top,9)]
def mdL:List Nat:=[92,42,95,45,43,46,62,124,36,35,61,91,93,40,41,33,126,96,34,39]
def y_b:Nat->List Nat->List (AVal×AVal×Nat)
 |_,[]=>[]
 |i,c::r=>(.lit (.int .i32 c),.top,i)::y_b (i+1) r
def cmR:List AVal:=[.str [42],.str [42,42],.str [42,32,42,32,42],.str [45],.lit (.bool false),.str [96,96,96],.str [97,116,120],.str [105,110,108,105,110,101,100],.str [114,101,110,100,101,114],.str [114,101,110,100,101,114]]
def pr(n:Nat):AVal:=.lit (.int .i64 n)
def cvB(T:TD):Nat->Option ABlk
 |0=>some (.row [.lit .nilIface,.ssl (cv 1) 0 3,.ssl (cv 2) 0 4,.ssl (cv 3) 0 2,.ssl (cv 4) 0 3,.ssl (cv 5) 0 2,.smp (cv 6),.ssl (cv 7) 0 11,.smp (cv 8),.str [],.top] 124 (.n 11))
 |1=>some (.row [.str [98,97,115,101],.str [99,111,109,109,111,110,109,97,114,107],.str [116,97,98,108,101]] 9 (.n 3))
 |2=>some (.row [.fn (.func 144) [.sp (cv 10) 0] [],pr 100,.fn (.func 145) [.sp (cv 10) 0] [],pr 1000,.fn (.func 194) [.sp (cv 11) 0] [],pr 500,.fn (.func 195) [] [.sp (cv 12) 0],pr 1100] 153 (.n 8))
 |3=>some (.row [.fn (.func 211) [.sp (cv 11) 0] [],pr 500,.fn (.func 410) [.sp (cv 9) 0] [],pr 500] 208 (.n 4))
 |4=>some (.row [.fn (.func 149) [.sp (cv 10) 0] [],pr 500,.fn (.func 150) [.sp (cv 10) 0] [],pr 520,.fn (.func 212) [.agg cmR] [],pr 1000] 166 (.n 6))
 |5=>some (.row [.fn (.func 147) [.sp (cv 10) 0] [],pr 500,.fn (.func 190) [.agg cmR] [],pr 1000] 223 (.n 4))
 |6=>some (.map (y_b 0 mdL) 20)
 |7=>some (.row [] 344 (.n 0))
 |8=>some (.map t_Y 10)
 |9=>some (.row [.lit .nilIface,.str T.span,.str T.keep,.lit (.bool T.skip),.lit (.bool T.promote),.lit (.bool T.pres),.str T.pad] 180 (.n 7))
 |10=>some (.row [] 78 (.n 0))
 |11=>some (.row cmR 90 (.n 10))
 |12=>some (.row [.sp (cv 11) 0] 91 (.n 1))
 |_=>none
def a_f(T:TD):SId->Option ABlk:=fun x=>match x.k with
 |0=>cvB T x.i
 |1=>some (c_d np (.sp tbl 0) (.sp tbl 0) np np 2 (.str []))
 |2=>some (b_w (.sp doc 0) (.sp tbd 0) (.sp tbd 0) np np 3 b_Y (atA T.role))
 |3=>some (c_d (.sp tbl 0) (trP 0) (trP (T.R-1)) np np 3 b_A)
 |4=>some (c_d (.sp tbd 0) (tdP x.i 0) (tdP x.i (T.C x.i-1)) (.ite (Nat.beq x.i 0) np (trP (x.i-1))) (.ite (Nat.blt (x.i+1) T.R) (trP (x.i+1)) np) 3 i_9)
 |5=>some (c_d (trP x.i) (.ite (T.hasT x.i x.j) (txP x.i x.j) np) (.ite (T.hasT x.i x.j) (txP x.i x.j) np) (.ite (Nat.beq x.j 0) np (tdP x.i (x.j-1))) (.ite (Nat.blt (x.j+1) (T.C x.i)) (tdP x.i (x.j+1)) np) 3 (.ite (Nat.beq x.i 0&&T.hd) G_G G_F))
 |6=>some (c_d (tdP x.i x.j) np np np np 1 (.str (T.tx x.i x.j)))
 |_=>none
def d_n(n:Nat):AVal:=.ifc 201 (.ptr n 0)
def G_W:AVal:=.ifc 217 (.agg [.ifc 217 (.agg [.ifc 217 (.agg [.ifc 217 (.agg [.ifc 217 (.agg [.ifc 191 (.agg []),.ifc 193 .top,.top]),.ifc 193 .top,.top]),.ifc 193 .top,.top]),.ifc 193 .top,.top]),.ifc 193 .top,.top])
def c_8:ABlk:=.row [G_W,.sp (cv 0) 0] 203 (.n 2)
def b_n:AVal:=.tup []
theorem a_7{x:SId}{o:Nat}{p:Nat}:SubA p (.sp x o) (.sp x o):=a_g rfl
def TD.S(T:TD):Nat->Nat
 |0=>0
 |i+1=>T.S i+(1+2*T.C i)
theorem TD.S_le(T:TD){i j:Nat}(h:i<=j):T.S i<=T.S j:=by
 induction j with
 |zero=>have:i=0:=by omega
        subst this;exact Nat.le_refl _
 |succ j ih=>
  by_cases e:i=j+1
  ·subst e;exact Nat.le_refl _
  ·have:=ih ac
   simp only[TD.S];omega
def TD.pos(T:TD)(x:SId):Nat:=match x.k with
 |1=>0
 |2=>1
 |3=>2
 |4=>3+T.S x.i
 |5=>4+T.S x.i+2*x.j
 |_=>5+T.S x.i+2*x.j
def TD.Val(T:TD)(x:SId):Prop:=x=doc\/x=tbl\/x=tbd\/(∃i,i<T.R/\x=tr i)\/(∃i j,i<T.R/\j<T.C i/\x=Tk.td i j)\/(∃i j,i<T.R/\j<T.C i/\x=Tk.tx i j)
theorem g_a{T:TD}{i:Nat}(h:i<T.R):∀{j:Nat},j<=T.C i->∀x∈b_1 T i j,T.Val x
 |0,_,x,hx=>bv
 |j+1,hj,x,hx=>by
  rcases List.mem_append.1 hx with hx|hx
  ·exact g_a h ac x hx
  ·rcases List.mem_cons.1 hx with rfl|hx
   ·exact .inr (.inr (.inr (.inr (.inl ⟨i,j,h,hj,rfl⟩))))
   ·cases ht:T.hasT i j with
    |true=>rw[ht] at hx;rw[List.mem_singleton.1 hx];exact .inr (.inr (.inr (.inr (.inr ⟨i,j,h,hj,rfl⟩))))
    |false=>rw[ht] at hx;cases hx
theorem i_r{T:TD}:∀{i:Nat},i<=T.R->∀x∈c_V T i,T.Val x
 |0,_,x,hx=>by
  simp only[c_V,List.mem_cons,List.not_mem_nil,or_false] at hx
  rcases hx with h|h|h
  ·exact .inl h
  ·exact .inr (.inl h)
  ·exact .inr (.inr (.inl h))
 |i+1,hi,x,hx=>by
  rcases List.mem_append.1 hx with hx|hx
  ·exact i_r ac x hx
  ·rcases List.mem_cons.1 hx with rfl|hx
   ·exact .inr (.inr (.inr (.inl ⟨i,hi,rfl⟩)))
   ·exact g_a hi (Nat.le_refl _) x hx
theorem r_Y{T:TD}(k:Nat):T.Val (nfn T k):=by
 unfold nfn
 rw[List.getD_eq_getElem?_getD]
 cases h:(c_V T T.R)[k]? with
 |none=>exact .inl rfl
 |some x=>exact i_r (Nat.le_refl _) x (List.mem_of_getElem? h)
theorem c_e{T:TD}{n:Nat}{us:List (Nat×AVal)}:SubF (nfA T) (nfA T) n us:=fun _ _ _=>a_7
def TD.Sd(T:TD)(j:SId×Bool):Prop:=j.2=false->T.Val j.1
def TD.SdE(T:TD)(j:SId×Bool):Prop:=j.2=false->T.Val j.1/\j.1.k≠6
def TD.mu(T:TD)(j:SId×Bool):Nat:=cond j.2 0 (4+T.S T.R-T.pos j.1)
def b_S(j:SId×Bool):AVal:=.ite j.2 np (.sp j.1 0)
theorem a_k{a b:Nat}:Nat.beq a b=true↔a=b:=⟨Nat.eq_of_beq_eq_true,fun h=>h▸Nat.beq_refl a⟩
theorem a_X{a b:Nat}:Nat.beq a b=false↔¬a=b:=by rw[←Bool.not_eq_true,a_k]
theorem a_m{a b:Nat}:Nat.ble a b=true↔a<=b:=⟨Nat.le_of_ble_eq_true,Nat.ble_eq_true_of_le⟩
theorem m_y{k:Nat}(h:k<=281474976710656):IntKind.wrap IntKind.i64 (Int.ofNat k)=Int.ofNat k:=d_K (Int.natCast_nonneg k) (by show(k:Int)<=_;omega)
theorem ltI{a b:Nat}:(decide (Int.ofNat a<Int.ofNat b))=true↔a<b:=an
theorem x_u{a b:Nat}:(decide (Int.ofNat a<Int.ofNat b))=false↔b<=a:=an
theorem eqI{a b:Nat}:(Int.ofNat a==Int.ofNat b)=true↔a=b:=by rw[beq_iff_eq];exact Int.ofNat_inj
theorem t_Z{a b:Nat}:(Int.ofNat a==Int.ofNat b)=false↔¬a=b:=by rw[←Bool.not_eq_true,eqI]
theorem leI{a b:Nat}:(decide (Int.ofNat a<=Int.ofNat b))=true↔a<=b:=an
theorem y_c{a b:Nat}:(decide (Int.ofNat a<=Int.ofNat b))=false↔b<a:=an
theorem Words.at{l:List UInt8}(h:Words l){i:Nat}(hi:i<l.length):((48<=(l.getD i 0).toNat/\(l.getD i 0).toNat<=57)\/(65<=(l.getD i 0).toNat/\(l.getD i 0).toNat<=90)\/(97<=(l.getD i 0).toNat/\(l.getD i 0).toNat<=122))\/((l.getD i 0).toNat=32/\0<i/\i+1<l.length/\(l.getD (i-1) 0).toNat≠32):=by
 rcases h i hi with h|⟨h1,h2,h3,h4⟩
 ·left
  simp only[m_u,Bool.or_eq_true,Bool.and_eq_true] at h
  rcases h with⟨h1,h2⟩|⟨h1,h2⟩|⟨h1,h2⟩
  ·exact .inr (.inr ⟨Nat.le_of_ble_eq_true h1,Nat.le_of_ble_eq_true h2⟩)
  ·exact .inr (.inl ⟨Nat.le_of_ble_eq_true h1,Nat.le_of_ble_eq_true h2⟩)
  ·exact .inl ⟨Nat.le_of_ble_eq_true h1,Nat.le_of_ble_eq_true h2⟩
 ·right
  refine⟨by rw[h1];rfl,h2,h3,fun e=>h4 (UInt8.toNat_inj.1 bu)⟩
theorem p_1{l:List UInt8}{k:Nat}(h:(l.getD k 0).toNat=32):true=b_O l (k+1):=by simp only[b_O,h];rfl
theorem p_2{l:List UInt8}{k:Nat}(h:¬(l.getD k 0).toNat=32):false=b_O l (k+1):=(a_X.2 h).symm
theorem m_z{l:List UInt8}{k:Nat}(h:true=b_O l (k+1)):(l.getD k 0).toNat=32:=a_k.1 h.symm
theorem p_3{k:Nat}:IntKind.wrap IntKind.i64 (Int.ofNat (k+1)-Int.ofNat k)=Int.ofNat 1:=by
 have:Int.ofNat (k+1)-Int.ofNat k=Int.ofNat 1:=ab
 rw[this];exact m_y ac
theorem h_h{a b:Nat}(h:b<=a)(ha:a<=281474976710656):IntKind.wrap IntKind.i64 (Int.ofNat a-Int.ofNat b)=Int.ofNat (a-b):=by
 have:Int.ofNat a-Int.ofNat b=Int.ofNat (a-b):=ab
 rw[this];exact m_y ac
theorem Words.end{l:List UInt8}(h:Words l)(hp:0<l.length):eqL (l.drop (l.length-1)) [32]=false:=by
 rw[d_s,Bool.eq_false_iff]
 intro e
 have e:=eq_of_beq e
 have h1:l.getD (l.length-1) 0=32:=by
  have:=congrArg (fun x=>x.getD 0 (0:UInt8)) e
  simpa[List.getD_eq_getElem?_getD,List.getElem?_drop] using this
 have h2:=h.at (i:=l.length-1) ac
 rw[h1] at h2
 have:(32:UInt8).toNat=32:=rfl
 omega
theorem geI{a b:Nat}:(decide (Int.ofNat a≥Int.ofNat b))=true↔b<=a:=an
theorem G_H{a b:Nat}:(decide (Int.ofNat a≥Int.ofNat b))=false↔a<b:=an
theorem f_m{T:TD}{i j:Nat}(h:T.hasT i j=true):T.tx i j≠[]:=by
 intro e;simp[TD.hasT,e,b_X] at h
inductive CS where
 |a|b|tr0|trn (i:Nat)|td0 (i:Nat)|tdn (i j:Nat)|txd (i j:Nat)|tdu (i j:Nat)|tru (i:Nat)|tbu|tlu|dou
structure CJ where
 pn:Bool
 p:SId
 n:SId
 tn:Bool
 t:SId
 m:Nat
def cS(T:TD):Nat->Nat
 |0=>0
 |i+1=>cS T i+(2+3*T.C i)
theorem y_d{T:TD}{i j:Nat}(h:i<=j):cS T i<=cS T j:=by
 induction j with
 |zero=>have:i=0:=by omega
        subst this;exact Nat.le_refl _
 |succ j ih=>
  by_cases e:i=j+1
  ·subst e;exact Nat.le_refl _
  ·have:=ih ac
   simp only[cS];omega
def CS.rep(T:TD)(o:Bool)(a b:Nat):CS->CJ
 | .a=>⟨true,doc,tbl,true,doc,0⟩
 | .b=>⟨false,tbl,tbd,true,doc,1⟩
 | .tr0=>⟨false,tbd,tr 0,o,tx a b,3⟩
 | .trn i=>⟨false,tr i,tr (i+1),o,tx a b,3+cS T (i+1)⟩
 | .td0 i=>⟨false,tr i,td i 0,o,tx a b,4+cS T i⟩
 | .tdn i j=>⟨false,td i j,td i (j+1),o,tx a b,4+cS T i+3*(j+1)⟩
 | .txd i j=>⟨false,td i j,tx i j,o,tx a b,5+cS T i+3*j⟩
 | .tdu i j=>⟨false,tx i j,td i j,o,tx a b,6+cS T i+3*j⟩
 | .tru i=>⟨false,td i (T.C i-1),tr i,o,tx a b,4+cS T i+3*T.C i⟩
 | .tbu=>⟨false,tr (T.R-1),tbd,o,tx a b,3+cS T T.R⟩
 | .tlu=>⟨false,tbd,tbl,o,tx a b,4+cS T T.R⟩
 | .dou=>⟨false,tbl,doc,true,doc,5+cS T T.R⟩
def CS.ok(T:TD):CS->Prop
 | .trn i=>i+1<T.R
 | .td0 i=>i<T.R
 | .tdn i j=>i<T.R/\j+1<T.C i
 | .txd i j=>i<T.R/\j<T.C i/\T.hasT i j=true
 | .tdu i j=>i<T.R/\j<T.C i/\T.hasT i j=true
 | .tru i=>i<T.R
 |_=>True
def b_E(T:TD)(o:Bool)(a b:Nat):Prop:=o=false->a<T.R/\b<T.C a/\T.hasT a b=true
def a_W(T:TD)(j:CJ):Prop:=∃(s:CS) (o:Bool) (a b:Nat),s.ok T/\b_E T o a b/\j=s.rep T o a b
def a_G(T:TD)(j:CJ):Nat:=6+cS T T.R-j.m
theorem a_F{T:TD}{x:CJ}{P:CJ->Prop}(s:CS)(o:Bool)(a b:Nat)(hb:b_E T o a b)(ho:s.ok T)(hm:x.m<(s.rep T o a b).m)(hl:(s.rep T o a b).m<6+cS T T.R)(hP:P (s.rep T o a b)):∃j':CJ,a_W T j'/\a_G T j'<a_G T x/\P j':=⟨_,⟨s,o,a,b,ho,hb,rfl⟩,by simp only[a_G];omega,hP⟩
theorem a_E{T:TD}{a b:Nat}:b_E T true a b:=fun h=>am
theorem t_0{T:TD}:a_W T (CS.a.rep T true 0 0):=⟨.a,true,0,0,trivial,a_E,rfl⟩
def TD.wh(T:TD)(b:Bool):TD:={T with hd:=b}
theorem e_f{T:TD}{i:Nat}(h:i<T.R):cS T i+(2+3*T.C i)<=cS T T.R:=y_d (i:=i+1) h
def orS(S:GenS)(s2:Sx.Spec):Sx.Spec:=fun args H K=>match S.dec args H with
 |some _=>S.spec args H K
 |none=>s2 args H K
theorem c_X{P:Program}{f:FuncId}{S:GenS}{s2:Sx.Spec}(h1:b_q P f S.spec)(h2:b_q P f s2):b_q P f (orS S s2):=by
 intro args H K h
 simp only[orS] at h
 split at h
 ·exact h1 _ _ _ h
 ·exact h2 _ _ _ h
structure TD.Nx (T:TD) (a b:SId×Bool):Prop where
 m:T.mu b<T.mu a
 s:T.Sd b
 e:b.1.k≠6->T.SdE b
theorem TD.S_i(T:TD){i:Nat}(h:i<T.R):T.S i+(1+2*T.C i)<=T.S T.R:=by
 have h1:=T.S_le (i:=i+1) (j:=T.R) h
 have h2:T.S (i+1)=T.S i+(1+2*T.C i):=rfl
 omega
theorem TD.nx_of{T:TD}{a b:SId}(hb:T.Val b)(h1:T.pos a<T.pos b)(h2:T.pos b<=3+T.S T.R):T.Nx (a,false) (b,false):=
 ⟨by simp only[TD.mu,cond_false];omega,fun _=>hb,fun h=>fun _=>⟨hb,h⟩⟩
theorem TD.nx_end{T:TD}{a:SId}(y:SId)(h:T.pos a<=3+T.S T.R):T.Nx (a,false) (y,true):=
 ⟨by simp only[TD.mu,cond_false,cond_true];omega,fun h=>am,fun _ h=>am⟩
variable {T:TD} {i j:Nat}
theorem p_4:T.Nx (doc,false) (tbl,false):=TD.nx_of (.inr (.inl rfl)) (by simp[TD.pos,doc,tbl]) (by simp[TD.pos,tbl];omega)
theorem p_5:T.Nx (tbl,false) (tbd,false):=TD.nx_of (.inr (.inr (.inl rfl))) (by simp[TD.pos,tbl,tbd]) (by simp[TD.pos,tbd];omega)
theorem m_A(h:0<T.R):T.Nx (tbd,false) (tr 0,false):=TD.nx_of (.inr (.inr (.inr (.inl ⟨0,h,rfl⟩)))) (by show 2<3+T.S 0;omega) (by have:=T.S_le (Nat.zero_le T.R);show 3+T.S 0<=3+T.S T.R;omega)
theorem r_Z(h:i<T.R)(hc:0<T.C i):T.Nx (tr i,false) (td i 0,false):=TD.nx_of (.inr (.inr (.inr (.inr (.inl ⟨i,0,h,hc,rfl⟩))))) (by simp[TD.pos,tr,td]) (by have:=T.S_i h;simp[TD.pos,td];omega)
theorem p_h(h:i<T.R)(hc:j<T.C i):T.Nx (td i j,false) (tx i j,false):=TD.nx_of (.inr (.inr (.inr (.inr (.inr ⟨i,j,h,hc,rfl⟩))))) (by simp[TD.pos,td,tx]) (by have:=T.S_i h;simp[TD.pos,tx];omega)
theorem g_b(h:i<T.R)(hc:j+1<T.C i):T.Nx (td i j,false) (td i (j+1),false):=TD.nx_of (.inr (.inr (.inr (.inr (.inl ⟨i,j+1,h,hc,rfl⟩))))) (by simp[TD.pos,td]) (by have:=T.S_i h;simp[TD.pos,td];omega)
theorem p_6(h:i<T.R)(hc:j+1<T.C i):T.Nx (tx i j,false) (td i (j+1),false):=TD.nx_of (.inr (.inr (.inr (.inr (.inl ⟨i,j+1,h,hc,rfl⟩))))) (by simp[TD.pos,td,tx];omega) (by have:=T.S_i h;simp[TD.pos,td];omega)
theorem g_c(h:i+1<T.R)(hc:j<T.C i):T.Nx (td i j,false) (tr (i+1),false):=TD.nx_of (.inr (.inr (.inr (.inl ⟨i+1,h,rfl⟩)))) (by simp[TD.pos,td,tr,TD.S];omega) (by have:=T.S_i h;simp[TD.pos,tr];omega)
theorem p_7(h:i+1<T.R)(hc:j<T.C i):T.Nx (tx i j,false) (tr (i+1),false):=TD.nx_of (.inr (.inr (.inr (.inl ⟨i+1,h,rfl⟩)))) (by simp[TD.pos,tx,tr,TD.S];omega) (by have:=T.S_i h;simp[TD.pos,tr];omega)
theorem g_d(h:i<T.R)(hc:j<T.C i):T.Nx (td i j,false) (doc,true):=TD.nx_end _ (by have:=T.S_i h;simp[TD.pos,td];omega)
theorem p_8(h:i<T.R)(hc:j<T.C i):T.Nx (tx i j,false) (doc,true):=TD.nx_end _ (by have:=T.S_i h;simp[TD.pos,tx];omega)
theorem d_t{a b:SId×Bool}{P:SId×Bool->Prop}(h:T.Nx a b)(he:Nat.beq b.1.k 6=false)(hP:P b):∃j':SId×Bool,T.SdE j'/\T.mu j'<T.mu a/\P j':=⟨b,h.e (a_X.1 he),h.m,hP⟩
theorem c_9{a b:SId×Bool}{P:SId×Bool->Prop}(h:T.Nx a b)(hP:P b):∃j':SId×Bool,T.Sd j'/\T.mu j'<T.mu a/\P j':=⟨b,h.s,h.m,hP⟩
theorem TD.sd0(T:TD):T.Sd (doc,false):=fun _=>.inl rfl
theorem TD.sdE0(T:TD):T.SdE (doc,false):=fun _=>⟨.inl rfl,ar⟩
def sj0:=And.intro @and_true (And.intro @true_and (And.intro @and_false (And.intro @exists_const.{1} (And.intro @exists_const.{0} (And.intro @exists_false.{1} (And.intro @exists_false.{0} (And.intro @false_or (And.intro @List.length_cons.{0} (And.intro @List.length_append.{0} (And.intro @List.length_nil.{0} (And.intro @or_false (@exists_eq_left.{1}))))))))))))
def sj1:=And.intro @Int.ofNat_eq_natCast (And.intro @Int.ofNat_lt (And.intro @forall_eq.{1} (And.intro @Value.int.injEq (And.intro @Int.ofNat_inj (And.intro @Int.natCast_inj (And.intro @true_and (And.intro @and_true (And.intro @eq_self.{1} (And.intro @and_false (And.intro @false_and (And.intro @exists_false.{1} (And.intro @exists_false.{0} (And.intro @or_false (And.intro @false_or (@exists_eq_left.{1})))))))))))))))
def sj2:=And.intro @a_j (And.intro @a_p (And.intro @Bool.and_eq_true (And.intro @decide_eq_true_eq (And.intro @decide_eq_false_iff_not (And.intro @a_k (And.intro @a_z (And.intro @a_C (@a_m))))))))
def sj3:=And.intro @List.drop_zero.{0} (And.intro @Nat.zero_add (And.intro @Nat.add_zero (And.intro @Int.ofNat_eq_natCast (And.intro @Int.toNat_natCast (And.intro @Int.ofNat_lt (@Int.ofNat_le))))))
def sj4:=And.intro @and_true (And.intro @true_and (And.intro @implies_true.{1} (And.intro @implies_true.{0} (And.intro @forall_const.{1} (And.intro @forall_const.{0} (And.intro @exists_const.{1} (And.intro @exists_const.{0} (@Nat.le_eq))))))))
def sj5:=And.intro @a_k (And.intro @a_X (And.intro @a_z (@a_C)))
def sj6:=And.intro @a_j (And.intro @a_p (And.intro @decide_eq_true_eq (@decide_eq_false_iff_not)))
def sj7:=And.intro @a_j (And.intro @a_p (And.intro @Bool.and_eq_true (And.intro @a_k (And.intro @a_z (@a_C)))))
def sj8:=And.intro @imp_self (And.intro @Nat.add_zero (And.intro @exists_eq_left.{1} (@forall_eq.{1})))
def sj9:=And.intro @and_true (And.intro @true_and (And.intro @implies_true.{1} (And.intro @implies_true.{0} (And.intro @Nat.le_eq (And.intro @forall_const.{1} (@forall_const.{0}))))))
def d_o:=And.intro @eqI (And.intro @t_Z (And.intro @ltI (And.intro @x_u (And.intro @leI (And.intro @y_c (And.intro @a_j (And.intro @a_p (And.intro @Bool.and_eq_true (@Bool.not_eq_true')))))))))
def d_p:=And.intro @Nat.le_eq (And.intro @Bool.and_eq_true (And.intro @decide_eq_true_eq (And.intro @a_m (And.intro @a_z (@a_C)))))
def p_9:=And.intro @a_j (And.intro @a_p (And.intro @Bool.and_eq_true (And.intro @Bool.and_false (@Bool.false_eq_true))))
def m_B:=And.intro @eq_self.{1} (And.intro @implies_true.{1} (And.intro @implies_true.{0} (And.intro @Nat.le_eq (And.intro @not_true_eq_false (And.intro @false_implies (And.intro @true_implies (@a_X)))))))
theorem coP{P:Prop}(h:P:=by simp[a_j,a_p,doc,tbl,tbd,Tk.tr,Tk.td,Tk.tx,CS.rep]<;>omega):P:=h
theorem coM{P:Prop}(h:P:=by first|(simp only[CS.rep,cS];omega)|(simp only[CS.rep,CS.ok];omega)|trivial|(simp only[CS.ok];first|trivial|and_intros<;>first|omega|assumption)):P:=h
theorem nxs{P:Prop}(h:P:=by simp[a_j,a_p,doc,tbl,tbd,Tk.tr,Tk.td,Tk.tx]<;>fail):P:=h
end Tk
namespace Tk
abbrev By:=List UInt8
def step(s:Nat×By×By)(c:UInt8):Nat×By×By:=
 if c=10 then(s.1+1,[],if s.1+1<=2 then s.2.2++s.2.1++[10] else s.2.2)
 else if c=32 then(s.1,s.2.1++[32],s.2.2)
 else(0,[],s.2.2++s.2.1++[c])
def tcn(l:By):By:=let s:=l.foldl step (0,[],[]);s.2.2++s.2.1
def nn:By:=[10,10]
end Tk
section
open Go Go.Sx Go.Proofs
namespace Tk.Q
end Tk.Q
namespace Tk
variable [Syms]
set_option maxRecDepth 100000 in
theorem q_a:e_m Tryz.prog 385 m_t:=r_W (fn:=Tryz.f385) ⟨aa,rfl,aa,rfl,rfl,rfl,rfl,rfl,rfl,rfl,rfl,⟨_,rfl⟩,rfl⟩
set_option maxRecDepth 100000 in
theorem t_1:e_m Tryz.prog 25 t_H:=t_I (fn:=Tryz.f25) ⟨aa,rfl,aa,rfl,rfl,rfl,rfl,rfl,rfl,rfl,rfl,⟨_,rfl⟩,rfl⟩
def o_I(S:GenS)(c:S.A->Bool)(s1 s2:Sx.Spec):Sx.Spec:=fun args H K=>match S.dec args H with
 |some a=>br (c a) (s1 args H K) (s2 args H K)
 |none=>False
theorem d_a{P:Program}{f:FuncId}{S:GenS}{c:S.A->Bool}{s1 s2:Sx.Spec}(h1:b_q P f s1)(h2:b_q P f s2):b_q P f (o_I S c s1 s2):=by
 intro args H K h
 simp only[o_I] at h
 split at h
 ·rcases a_4 h with⟨_,h⟩|⟨_,h⟩
  ·exact h1 _ _ _ h
  ·exact h2 _ _ _ h
 ·exact h.elim
theorem a_e{a b:Nat}:Nat.ble a b=false↔b<a:=by rw[←Bool.not_eq_true,a_m];omega
theorem a_o{k:Int}(h0: -9223372036854775808<=k)(h:k<9223372036854775808):IntKind.wrap IntKind.i64 k=k:=by
 have h2:(2:Int) ^ 64=18446744073709551616:=ar
 have h3:(2:Int) ^ (64-1)=9223372036854775808:=ar
 simp only[IntKind.wrap,IntKind.bits,IntKind.signed,h2,h3,Bool.true_and,decide_eq_true_eq]
 rcases Int.lt_or_le k 0 with hk|hk
 ·have e:k % 18446744073709551616=k+18446744073709551616:=ac
  rw[e]
  split<;>omega
 ·have e:k % 18446744073709551616=k:=ac
  rw[e]
  split<;>omega
def f_W(p q c:Nat)(l:By):List (Nat×ABlk):=[(p,.row [.slc q 0 l.length (.u c 0),.lit (.int .i64 0),.lit (.int .i8 0)] 157 (.n 3)),(q,.bytes l 5 (.u c 1))]
def o_J(p q d:Nat)(l:By):List (Nat×ABlk):=[(p,.row [.slc q 0 l.length (.n d),.lit (.int .i64 0),.lit (.int .i8 0)] 157 (.n 3)),(q,.bytes l 5 (.n d))]
def l_o(p:Nat):List (Nat×ABlk):=[(p,.row [ns,.lit (.int .i64 0),.lit (.int .i8 0)] 157 (.n 3))]
def a_i:Nat:=70368744177664
theorem j_a{w0 w:World}{F0:Fp}{ι:Inj}{D:HD}{l:By}(hi:Inv w0 F0 ι (hpD D (f_W 0 1 2 l) []) w):∃d,d<9223372036854775808/\l.length<=d/\Inv w0 F0 ι (hpD D (o_J 0 1 d l) []) w:=by
 obtain⟨r,o,hr,ho,hb,_⟩:=hi.blk 0 _ rfl
 obtain⟨vs,rest,rfl,hd,_⟩:=hb
 cases hd with
 |cons h1 h2=>
 cases h1 with
 |slc hr1 hl hoff hc=>
 obtain⟨d,hd,h63,e⟩:=hc
 refine⟨d,h63,ac,hi.reB (H':=hpD D (o_J 0 1 d l) []) rfl rfl rfl fun id b hg=>?_⟩
 have:=a_1 hg
 simp only[o_J,List.mem_cons,List.not_mem_nil,or_false,Prod.mk.injEq] at this
 rcases this with⟨rfl,rfl⟩|⟨rfl,rfl⟩
 ·refine⟨_,rfl,fun o hbd=>?_⟩
  obtain⟨vs,rest,rfl,hd',ht⟩:=hbd
  refine⟨vs,rest,rfl,?_,ht⟩
  cases hd' with
  |cons h1' h2'=>
  refine .cons ?_ h2'
  cases h1' with
  |slc hr1 hl hoff hc=>
  obtain⟨d',hd',_,e'⟩:=hc
  rw[hd] at hd';cases hd'
  exact .slc hr1 hl hoff (by show _=_;omega)
 ·refine⟨_,rfl,fun o hbd=>?_⟩
  obtain⟨rest,fz,rfl,ht,hfz⟩:=hbd
  obtain⟨d',hd',e'⟩:=ht
  rw[hd] at hd';cases hd'
  exact⟨rest,fz,rfl,by show _<=_;omega,hfz⟩
theorem b_8:∀(c:By) (n:Nat) (v:By),n+v.length<=c.length->a_J c n v=c.take n++v++c.drop (n+v.length)
 |c,0,[],_=>by cases c<;>simp[a_J]
 |[],0,_::_,h=>bm
 |c::cs,0,v::vs,h=>by
  have:=b_8 cs 0 vs aQ
  simp only[a_J,this]
  simp
 |[],n+1,v,h=>bm
 |c::cs,n+1,v,h=>by
  have:=b_8 cs n v aQ
  simp only[a_J,this]
  have e:n+1+v.length=(n+v.length)+1:=ac
  rw[e]
  simp
theorem G_X{l p:By}{k:Nat}(h:p.length<=k):∃r:By,l++p.take k=l++p++r:=⟨[],by rw[List.take_of_length_le h];simp⟩
theorem y_e{l p:By}{k n:Nat}(h:p.length=0):∃r:By,a_J l n (p.take k)=l++p++r:=by
 have:p=[]:=List.length_eq_zero_iff.1 h
 subst this
 refine⟨[],?_⟩
 rw[List.take_nil,List.append_nil,List.append_nil]
 induction l generalizing n with
 |nil=>cases n<;>rfl
 |cons c l ih=>cases n with
  |zero=>rfl
  |succ n=>simp[a_J,ih]
theorem grG{l l':By}{n c:Nat}(hl:l'=l)(h:l.length+n<=c):∃x:By×Nat,(x.1.length=l.length+n/\x.1.take l.length=l/\x.2=l.length)/\∃r:By,a_J (List.replicate c 0) 0 l'=x.1++r:=by
 subst hl
 rw[b_8 _ _ _ af]
 refine⟨((List.take 0 (List.replicate c 0)++l'++List.drop (0+l'.length) (List.replicate c 0)).take (l'.length+n),l'.length),⟨af,?_,rfl⟩,(List.take 0 (List.replicate c 0)++l'++List.drop (0+l'.length) (List.replicate c 0)).drop (l'.length+n),by rw[List.take_append_drop]⟩
 simp[List.take_take]
theorem grL{l l':By}{n c dd:Nat}(hl:l'=l)(h:l.length+n<=c)(h63:dd<9223372036854775808):∃x:By×Nat,(x.1.length=l.length+n/\x.1.take l.length=l/\x.2=l.length)/\Value.int IntKind.i64 (l.length:Int)=Value.int IntKind.i64 (x.2:Int)/\l.length+n=x.1.length/\dd<9223372036854775808/\(∃r:By,a_J (List.replicate c 0) 0 l'=x.1++r)/\dd*1<=dd:=by
 obtain⟨x,hx,hr⟩:=grG hl h
 exact⟨x,hx,by rw[hx.2.2],hx.1.symm,h63,hr,ac⟩
theorem g_e{a b:Nat}:Nat.min a b=min a b:=rfl
theorem wsL{l p x1:By}{n k:Nat}(h1:x1.length=l.length+p.length)(h2:x1.take l.length=l)(hn:n=l.length)(hk:p.length<=k):∃r:By,a_J x1 n (p.take k)=l++p++r:=by
 subst hn
 rw[List.take_of_length_le hk,b_8 _ _ _ ac,h2]
 exact⟨_,rfl⟩
theorem wnL{p:By}{c:Nat}(h:p.length<=c):∃r:By,a_J (List.replicate c 0) 0 p=p++r:=by
 rw[b_8 _ _ _ af]
 exact⟨List.drop (0+p.length) (List.replicate c 0),an⟩
theorem G_Y{p:By}{c k:Nat}(h:p.length<=c)(hk:p.length<=k):∃r:By,a_J (List.replicate c 0) 0 (p.take k)=p++r:=by
 rw[List.take_of_length_le hk];exact wnL h
theorem G_Z{p:By}{c:Nat}(h:p.length<=c):∃r:By,a_J (a_J (List.replicate c 0) 0 []) 0 p=p++r:=by
 rw[b_8 (List.replicate c 0) 0 [] an]
 simpa using wnL h
theorem wqL{l x1:By}{n:Nat}(h1:x1.length=l.length+1)(h2:x1.take l.length=l)(hn:n=l.length):∃r:By,x1.set n 10=l++[10]++r:=by
 subst hn
 have e:x1=l++[x1.getD l.length 0]:=by
  have e1:x1.drop l.length=[x1.getD l.length 0]:=by
   rw[List.getD_eq_getElem?_getD,List.getElem?_eq_getElem ac,Option.getD_some,List.drop_eq_getElem_cons ac,List.drop_of_length_le ac]
  have:=List.take_append_drop l.length x1
  rw[h2,e1] at this
  exact this.symm
 rw[e]
 refine⟨[],?_⟩
 rw[List.set_append_right _ _ ac]
 simp
end Tk
end

