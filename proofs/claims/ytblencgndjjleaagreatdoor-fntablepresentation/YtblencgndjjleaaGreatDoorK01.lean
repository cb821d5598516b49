/- Lemmas of this claim; the last text says what is proved. -/
import Derived.WalkKit
set_option linter.all false
theorem aa{P:Prop}(h:P:=by kernel_rfl):P:=h
theorem ab{P:Prop}(h:P:=by simp only[Int.ofNat_eq_natCast];omega):P:=h
theorem ac{P:Prop}(h:P:=by omega):P:=h
theorem ae{P:Prop}(h:P:=by rw[a_o (by simp only[Int.ofNat_eq_natCast];omega) (by simp only[Int.ofNat_eq_natCast];omega)]):P:=h
theorem af{P:Prop}(h:P:=by simp;omega):P:=h
theorem ag{P:Prop}(h:P:=by cases T;simp only[TD.wh] at hh⊢;rw[hh]):P:=h
theorem ah{P:Prop}(h:P:=by rw[a_o (by simp only[Int.ofNat_eq_natCast];omega) (by simp only[Int.ofNat_eq_natCast];omega)];simp only[Int.ofNat_eq_natCast];omega):P:=h
theorem ai{P:Prop}(h:P:=by assumption):P:=h
theorem am{P:Prop}(h:P:=by cases h):P:=h
theorem an{P:Prop}(h:P:=by simp):P:=h
theorem ao{P:Prop}(h:P:=by simp[Op.equalIn,a_a hu]):P:=h
theorem aq{P:Prop}(h:P:=by simp[Builtin.lenOf]):P:=h
theorem ar{P:Prop}(h:P:=by decide):P:=h
theorem au{P:Prop}(h:P:=by rw[List.take_of_length_le (l:=List.take i l) (List.length_take_le _ _),List.take_of_length_le (by omega)]):P:=h
theorem aw{P:Prop}(h:P:=by simp[Builtin.len_,ht,a_a hu,goInt]):P:=h
theorem ax{P:Prop}(h:P:=by simp only[sub,←hc,kid]):P:=h
theorem ay{P:Prop}(h:P:=by first|omega|(simp;done)|(simp;omega)):P:=h
theorem az{P:Prop}(h:P:=by rw[List.take_of_length_le (l:=List.take i l) (List.length_take_le _ _),List.append_nil,h_j g]):P:=h
theorem aB{P:Prop}(h:P:=by rw[List.length_take];omega):P:=h
theorem aC{P:Prop}(h:P:=by first|exact hb _|exact Int.ofNat_lt.2 (hb _)):P:=h
theorem aD{P:Prop}(h:P:=by rw[List.getD_eq_getElem?_getD,List.getElem?_eq_getElem hp];exact List.getElem_mem hp):P:=h
theorem aE{P:Prop}(h:P:=by unfold bar0;rw[a_X.2 h];rfl):P:=h
theorem aF{P:Prop}(h:P:=by simp[←Array.toList_inj]):P:=h
theorem aG{P:Prop}(h:P:=by simp[ByteArray.size]):P:=h
theorem aH{P:Prop}(h:P:=by rw[←Array.toList_inj];simp):P:=h
theorem aI{P:Prop}(h:P:=by simp only[fits,a_i,List.length_append,List.length_cons,List.length_nil];omega):P:=h
theorem aJ{P:Prop}(h:P:=by simp only[];omega):P:=h
theorem aK{P:Prop}(h:P:=by rw[show l.getD i 0=32 from UInt8.toNat_inj.1 (by rw[c2];rfl)];exact hbl c2):P:=h
theorem aL{P:Prop}(h:P:=by simp[Builtin.firstCells]):P:=h
theorem aM{P:Prop}(h:P:=by first|omega|(simp;omega)):P:=h
theorem aN{P:Prop}(h:P:=by rw[a_w s0];exact e0):P:=h
theorem aO{P:Prop}(h:P:=by simpa only[Nat.zero_add] using g2):P:=h
theorem aP{P:Prop}(h:P:=by simp at hh):P:=h
theorem aQ{P:Prop}(h:P:=by simp at h⊢;omega):P:=h
theorem aR{P:Prop}(h:P:=by rw[hw'];exact ho):P:=h
theorem aS{P:Prop}(h:P:=by simp[Region.wanted,hg,hy]):P:=h
theorem aT{P:Prop}(h:P:=by simp at hlen⊢;omega):P:=h
theorem aU{P:Prop}(h:P:=by rw[he,Bool.not_true,Bool.or_false];exact a_X.2 (by omega)):P:=h
theorem aV{P:Prop}(h:P:=by cases x<;>first|rfl|cases h):P:=h
theorem aW{P:Prop}(h:P:=by cases e):P:=h
theorem aX{P:Prop}(h:P:=by simpa using hvl):P:=h
theorem aY{P:Prop}(h:P:=by rw[List.length_drop];omega):P:=h
theorem aZ{P:Prop}(h:P:=by simp[H0,AHeap.get,Tr.get_nil] at h):P:=h
theorem ba{P:Prop}(h:P:=by rw[Array.length_toList,c_O];simp[a_v,Value.cells]):P:=h
theorem bc{P:Prop}(h:P:=by simp[Inj.bare] at h):P:=h
theorem bd{P:Prop}(h:P:=by rw[a_w s1];exact e1):P:=h
theorem bg{P:Prop}(h:P:=by rw[a_w s2];exact e2):P:=h
theorem bh{P:Prop}(h:P:=by rw[List.take_take,Nat.min_eq_left hks];exact hd):P:=h
theorem bm{P:Prop}(h:P:=by simp at h):P:=h
theorem bn{P:Prop}(h:P:=by simp[Op.equalIn,a_a hu,e_k,hb]):P:=h
theorem bo{P:Prop}(h:P:=by simp at hcf⊢;omega):P:=h
theorem bq{P:Prop}(h:P:=by simp[fzs]):P:=h
theorem bu{P:Prop}(h:P:=by rw[e];rfl):P:=h
theorem bv{P:Prop}(h:P:=by cases hx):P:=h
theorem bw{P:Prop}(h:P:=by simpa[Nat.add_assoc] using d3):P:=h
theorem bx{P:Prop}(h:P:=by simpa[Instr.loadAt,Instr.sureAddr] using hl):P:=h
theorem bz{P:Prop}(h:P:=by simpa using hk):P:=h
theorem bA{P:Prop}(h:P:=by simp[Instr.typeAssert,a_a hu,a_u hinf,hm]):P:=h
theorem bB{P:Prop}(h:P:=by cases n with|zero=>rfl|succ _=>cases hnil):P:=h
theorem bC{P:Prop}(h:P:=by rw[h];rfl):P:=h
theorem bD{P:Prop}(h:P:=by rw[e] at hj;cases hj):P:=h
theorem bF{P:Prop}(h:P:=by simpa using DenL.nil):P:=h
theorem bG{P:Prop}(h:P:=by rw[b_v];exact hd):P:=h
theorem bH{P:Prop}(h:P:=by rw[(List.mem_replicate.1 hb).2];exact h):P:=h
theorem bI{P:Prop}(h:P:=by rw[←Int.ofNat_eq_natCast,e2 (by omega)]):P:=h
theorem bJ{P:Prop}(h:P:=by rw[ei] at hri;simpa[ι'] using hri.symm):P:=h
theorem bK{P:Prop}(h:P:=by rw[ej] at hrj;simpa[ι'] using hrj.symm):P:=h
theorem bL{P:Prop}(h:P:=by rw[←h_j hi,List.foldl_append,h4,e];rfl):P:=h
theorem bM{P:Prop}(h:P:=by rw[←Nat.eq_of_beq_eq_true hb];exact e):P:=h
theorem bN{P:Prop}(h:P:=by cases hb):P:=h
theorem bO{P:Prop}(h:P:=by rw[b_y hwa];simp):P:=h
theorem bP{P:Prop}(h:P:=by rw[b_y hwb];simp):P:=h
theorem bQ{P:Prop}(h:P:=by simpa using hlt):P:=h
theorem bR{P:Prop}(h:P:=by simpa using hn):P:=h
theorem bT{P:Prop}(h:P:=by simpa using h):P:=h
namespace Go.Sx
inductive Tr (α:Type) where
 |nil
 |node (v:Option α) (l r:Tr α)
def Tr.get{α:Type}:Tr α->Nat->Option α
 | .nil,_=>none
 | .node v _ _,0=>v
 | .node _ l r,t+1=>cond (Nat.beq (t % 2) 0) (l.get (t / 2)) (r.get (t / 2))
def Tr.put{α:Type}:Nat->Tr α->Nat->Option α->Tr α
 |0,s,_,_=>s
 |n+1,.nil,0,x=>.node x .nil .nil
 |n+1,.nil,t+1,x=>cond (Nat.beq (t % 2) 0) (.node none (Tr.put n .nil (t / 2) x) .nil) (.node none .nil (Tr.put n .nil (t / 2) x))
 |n+1,.node _ l r,0,x=>.node x l r
 |n+1,.node v l r,t+1,x=>cond (Nat.beq (t % 2) 0) (.node v (Tr.put n l (t / 2) x) r) (.node v l (Tr.put n r (t / 2) x))
theorem b_b{i j:Nat}(h:i≠j):Nat.beq i j=false:=by
 cases hb:Nat.beq i j with
 |false=>rfl
 |true=>exact absurd (Nat.eq_of_beq_eq_true hb) h
theorem beq_self(i:Nat):Nat.beq i i=true:=Nat.beq_refl i
theorem Tr.get_nil{α:Type}(t:Nat):(Tr.nil:Tr α).get t=none:=by cases t<;>rfl
theorem Tr.get_put{α:Type}:∀(n:Nat) (s:Tr α) (t:Nat) (x:Option α) (j:Nat),t+1<2 ^ n->(Tr.put n s t x).get j=if j=t then x else s.get j:=by
 intro n
 induction n with
 |zero=>intro s t x j h;simp at h
 |succ n ih=>
  intro s t x j h
  have hb:∀t,t+1+1<2 ^ (n+1)->t / 2+1<2 ^ n:=fun t ht=>by rw[Nat.pow_succ] at ht;omega
  cases t with
  |zero=>
   cases s with
   |nil=>cases j with
    |zero=>simp[Tr.put,Tr.get]
    |succ j=>simp[Tr.put,Tr.get,Tr.get_nil]
   |node v l r=>cases j with
    |zero=>simp[Tr.put,Tr.get]
    |succ j=>simp[Tr.put,Tr.get]
  |succ t=>
   have hh:=hb t h
   cases hm:Nat.beq (t % 2) 0 with
   |true=>
    have hm':t % 2=0:=Nat.eq_of_beq_eq_true hm
    cases s with
    |nil=>cases j with
     |zero=>simp[Tr.put,hm,Tr.get]
     |succ j=>
      simp only[Tr.put,hm,cond_true,Tr.get,Tr.get_nil]
      cases hj:Nat.beq (j % 2) 0 with
      |true=>
       have hj':j % 2=0:=Nat.eq_of_beq_eq_true hj
       simp only[cond_true,ih _ _ _ _ hh,Tr.get_nil]
       by_cases e:j=t
       ·subst e;simp
       ·rw[if_neg ac,if_neg ac]
      |false=>
       have hj':j % 2≠0:=fun e=>bD
       simp only[cond_false]
       rw[if_neg (by intro e;apply hj';have:j=t:=by omega
                     rw[this];exact hm')]
    |node v l r=>cases j with
     |zero=>simp[Tr.put,hm,Tr.get]
     |succ j=>
      simp only[Tr.put,hm,cond_true,Tr.get]
      cases hj:Nat.beq (j % 2) 0 with
      |true=>
       have hj':j % 2=0:=Nat.eq_of_beq_eq_true hj
       simp only[cond_true,ih _ _ _ _ hh]
       by_cases e:j=t
       ·subst e;simp
       ·rw[if_neg ac,if_neg ac]
      |false=>
       have hj':j % 2≠0:=fun e=>bD
       simp only[cond_false]
       rw[if_neg (by intro e;apply hj';have:j=t:=by omega
                     rw[this];exact hm')]
   |false=>
    have hm':t % 2≠0:=fun e=>by rw[e] at hm;cases hm
    cases s with
    |nil=>cases j with
     |zero=>simp[Tr.put,hm,Tr.get]
     |succ j=>
      simp only[Tr.put,hm,cond_false,Tr.get,Tr.get_nil]
      cases hj:Nat.beq (j % 2) 0 with
      |true=>
       have hj':j % 2=0:=Nat.eq_of_beq_eq_true hj
       simp only[cond_true]
       rw[if_neg (by intro e;apply hm';have:j=t:=by omega
                     rw[←this];exact hj')]
      |false=>
       have hj':j % 2≠0:=fun e=>bD
       simp only[cond_false,ih _ _ _ _ hh,Tr.get_nil]
       by_cases e:j=t
       ·subst e;simp
       ·rw[if_neg ac,if_neg ac]
    |node v l r=>cases j with
     |zero=>simp[Tr.put,hm,Tr.get]
     |succ j=>
      simp only[Tr.put,hm,cond_false,Tr.get]
      cases hj:Nat.beq (j % 2) 0 with
      |true=>
       have hj':j % 2=0:=Nat.eq_of_beq_eq_true hj
       simp only[cond_true]
       rw[if_neg (by intro e;apply hm';have:j=t:=by omega
                     rw[←this];exact hj')]
      |false=>
       have hj':j % 2≠0:=fun e=>bD
       simp only[cond_false,ih _ _ _ _ hh]
       by_cases e:j=t
       ·subst e;simp
       ·rw[if_neg ac,if_neg ac]
def Tr.set{α:Type}(s:Tr α)(t:Nat)(x:Option α):Tr α:=Tr.put (Nat.succ (Nat.succ t)) s t x
theorem Tr.get_set{α:Type}(s:Tr α)(t:Nat)(x:Option α)(j:Nat):(s.set t x).get j=if j=t then x else s.get j:=by
 refine Tr.get_put _ s t x j ?_
 have:=@Nat.lt_two_pow_self (t+1)
 rw[Nat.pow_succ]
 omega
end Go.Sx
namespace Go.Sx
open Go
structure SId where
 k:Nat
 i:Nat
 j:Nat
inductive ACap where
 |n (k:Nat)
 |u (i s:Nat)
 |x
inductive ATot where
 |n (k:Nat)
 |u (i m:Nat)
structure Cls where
 lo:Nat
 hi:Nat
 all:Nat
 fst:Nat
 lst:Nat
def c_y(m n:Nat):Bool:=Nat.beq (Nat.land (Nat.shiftRight m n) 1) 1
structure Cls.Holds (c:Cls) (l:List UInt8):Prop where
 lo:c.lo<=l.length
 hi:l.length<=c.hi
 all:∀b∈l,c_y c.all b.toNat=true
 fst:∀b,l.head?=some b->c_y c.fst b.toNat=true
 lst:∀b,l.getLast?=some b->c_y c.lst b.toNat=true
class Syms where
 cls:Nat->Cls
 w:Nat->List UInt8
 ok:∀i,(cls i).Holds (w i)
 ng:Nat
 good:World->Prop
 mono:∀w w',(∀r,r<ng->w'.heap[r]?=w.heap[r]?)->good w->good w'
 gn:Nat->Nat->Bool
 gf:Nat->Nat->UInt8
 gok:∀w g k,good w->gn g k=true->∃c e fz,w.heap[g]?=some (.cells c e fz)/\c[k]?=some (.int .u8 (gf g k).toNat)
variable [Syms]
def o_N(t:Nat):List UInt8:=cond (Nat.blt t 256) [UInt8.ofNat t] (Syms.w (t-256))
def a_3:List Nat->List UInt8
 |[]=>[]
 |t::r=>o_N t++a_3 r
structure Inj where
 f:Nat->Option Nat
 m:Nat->Option Obj
 ad:SId->Option Nat
instance:CoeFun Inj (fun _=>Nat->Option Nat):=⟨Inj.f⟩
structure Inj.le (ι ι':Inj):Prop where
 f:∀i r,ι i=some r->ι' i=some r
 m:∀r o,ι.m r=some o->ι'.m r=some o
 ad:∀x r,ι.ad x=some r->ι'.ad x=some r
instance (ι ι':Inj):CoeFun (ι.le ι') (fun _=>∀i r,ι i=some r->ι' i=some r):=⟨Inj.le.f⟩
structure MP where
 p:Inj->Value->Prop
 mono:∀ι ι' v,ι.le ι'->p ι v->p ι' v
 one:∀ι v,p ι v->v.oneCell'=true
 kp:List Nat
inductive AVal where
 |lit (v:Value)
 |any
 |top
 |str (l:List UInt8)
 |rope (r:List Nat)
 |lenr (r:List Nat)
 |ub (m:Nat)
 |rsl (id:Nat) (pre mid:List Nat) (cap:ACap)
 |ptr (id off:Nat)
 |slc (id off len:Nat) (cap:ACap)
 |map (id:Nat)
 |fn (f:Fn) (first captured:List AVal)
 |ifc (t:TypeId) (v:AVal)
 |agg (cs:List AVal)
 |tup (cs:List AVal)
 |sp (x:SId) (off:Nat)
 |ssl (x:SId) (off len:Nat)
 |smp (x:SId)
 |by_ (l:List UInt8)
 |bp (l:List UInt8) (k:Nat)
 |fam (f:Nat->AVal) (n:Nat)
 |fmp (f:Nat->AVal) (n k:Nat)
 |famx (f:Nat->AVal) (n:Nat)
 |fmw (f:Nat->List AVal) (wd n:Nat)
 |fwp (f:Nat->List AVal) (wd n k off:Nat)
 |fpt (cs:List AVal) (off:Nat)
 |ite (c:Bool) (a b:AVal)
 |e0
 |mp (q:MP)
def a_v(b:UInt8):Value:=.int .u8 b.toNat
def ACap.den(ι:Inj):ACap->Nat->Prop
 | .n k,c=>c=k
 | .u i s,c=>∃d,ι i=some d/\d<9223372036854775808/\c=d-s
 | .x,_=>True
def ATot.ok(ι:Inj):ATot->Nat->Prop
 | .n k,x=>k<=x
 | .u i m,x=>∃d,ι i=some d/\d*m<=x
def b_H(m:Nat):ACap->ATot->Bool
 | .n k,.n t=>Nat.ble (k*m) t&&Nat.blt k 9223372036854775808
 | .u i _,.u j m'=>Nat.beq i j&&Nat.beq m m'
 |_,_=>false
theorem b_u{ι:Inj}{m:Nat}{a:ACap}{t:ATot}{c x:Nat}(h:b_H m a t=true)(ha:a.den ι c)(ht:t.ok ι x):c*m<=x:=by
 cases a with
 |n k=>
  cases t with
  |n t=>
   simp only[b_H,Bool.and_eq_true] at h
   cases ha;exact Nat.le_trans (Nat.le_of_ble_eq_true h.1) ht
  |u j m'=>cases h
 |u i s=>
  cases t with
  |n t=>cases h
  |u j m'=>
   simp only[b_H,Bool.and_eq_true] at h
   have h1:=Nat.eq_of_beq_eq_true h.1
   have h2:=Nat.eq_of_beq_eq_true h.2
   subst h1;subst h2
   obtain⟨d,hd,_,rfl⟩:=ha
   obtain⟨d',hd',hx⟩:=ht
   rw[hd] at hd';cases hd'
   exact Nat.le_trans (Nat.mul_le_mul_right _ (Nat.sub_le _ _)) hx
 |x=>cases h
theorem b_I{ι:Inj}{m:Nat}{a:ACap}{t:ATot}{c:Nat}(h:b_H m a t=true)(ha:a.den ι c):c<9223372036854775808:=by
 cases a with
 |n k=>
  cases t with
  |n t=>
   simp only[b_H,Bool.and_eq_true] at h
   cases ha;exact Nat.le_of_ble_eq_true h.2
  |u j m'=>cases h
 |u i s=>
  obtain⟨d,_,h63,rfl⟩:=ha
  omega
 |x=>cases t<;>cases h
mutual
inductive Den (ι:Inj):AVal->Value->Prop where
 |lit {v:Value}:Den ι (.lit v) v
 |any {v:Value} (h:v.cells=#[v]) (h':v.oneCell'=true):Den ι .any v
 |top {v:Value}:Den ι .top v
 |str {l:List UInt8}:Den ι (.str l) (.string ⟨l.toArray⟩)
 |rope {r:List Nat}:Den ι (.rope r) (.string ⟨(a_3 r).toArray⟩)
 |lenr {r:List Nat}:Den ι (.lenr r) (.int .i64 (a_3 r).length)
 |ub {m:Nat} {b:UInt8} (h:c_y m b.toNat=true):Den ι (.ub m) (.int .u8 b.toNat)
 |rsl {id:Nat} {pre mid:List Nat} {off' b c:Nat} {cap:ACap} (h:ι id=some b) (hl:(a_3 mid).length<=c) (ho:off'=(a_3 pre).length\/c=0) (hc:cap.den ι c):Den ι (.rsl id pre mid cap) (.slice (some ⟨b,off',none⟩) (a_3 mid).length c)
 |ptr {id off b:Nat} (h:ι id=some b):Den ι (.ptr id off) (.pointer (some ⟨b,off,none⟩))
 |slc {id off off' len b c:Nat} {cap:ACap} (h:ι id=some b) (hl:len<=c) (ho:off'=off\/c=0) (hc:cap.den ι c):Den ι (.slc id off len cap) (.slice (some ⟨b,off',none⟩) len c)
 |map {id b:Nat} (h:ι id=some b):Den ι (.map id) (.map (some b))
 |fn {f:Fn} {a b:List AVal} {x y:List Value} (h:DenL ι a x) (h':DenL ι b y):Den ι (.fn f a b) (.func f x.toArray y.toArray)
 |ifc {t:TypeId} {a:AVal} {x:Value} (h:Den ι a x):Den ι (.ifc t a) (.iface t x)
 |agg {a:List AVal} {x:List Value} (h:DenL ι a x):Den ι (.agg a) (.agg x.toArray)
 |tup {a:List AVal} {x:List Value} (h:DenL ι a x):Den ι (.tup a) (.tuple x.toArray)
 |sp {x:SId} {off r:Nat} (h:ι.ad x=some r):Den ι (.sp x off) (.pointer (some ⟨r,off,none⟩))
 |ssl {x:SId} {off len c r:Nat} (h:ι.ad x=some r) (hl:len<=c):Den ι (.ssl x off len) (.slice (some ⟨r,off,none⟩) len c)
 |smp {x:SId} {r:Nat} (h:ι.ad x=some r):Den ι (.smp x) (.map (some r))
 |by_ {l:List UInt8} {r c off:Nat} {pre rest:List Value} {e:TypeId} {fz:Nat×Nat} (h:ι.m r=some (.cells (pre++(l.map a_v++rest)).toArray e fz)) (hl:l.length<=c) (ho:off=pre.length):Den ι (.by_ l) (.slice (some ⟨r,off,none⟩) l.length c)
 |by0 {a:Option Addr} {c:Nat}:Den ι (.by_ []) (.slice a 0 c)
 |bp {l:List UInt8} {k r off:Nat} {pre rest:List Value} {e:TypeId} {fz:Nat×Nat} (h:ι.m r=some (.cells (pre++(l.map a_v++rest)).toArray e fz)) (ho:off=pre.length+k):Den ι (.bp l k) (.pointer (some ⟨r,off,none⟩))
 |fam {f:Nat->AVal} {n r c off:Nat} {pre vs rest:List Value} {e:TypeId} {fz:Nat×Nat} (h:ι.m r=some (.cells (pre++(vs++rest)).toArray e fz)) (hn:vs.length=n) (hv:∀k v,vs[k]?=some v->Den ι (f k) v) (hl:n<=c) (ho:off=pre.length):Den ι (.fam f n) (.slice (some ⟨r,off,none⟩) n c)
 |fam0 {f:Nat->AVal} {a:Option Addr} {c:Nat}:Den ι (.fam f 0) (.slice a 0 c)
 |fmp {f:Nat->AVal} {n k r off:Nat} {pre vs rest:List Value} {e:TypeId} {fz:Nat×Nat} (h:ι.m r=some (.cells (pre++(vs++rest)).toArray e fz)) (hn:vs.length=n) (hv:∀k v,vs[k]?=some v->Den ι (f k) v) (ho:off=pre.length+k):Den ι (.fmp f n k) (.pointer (some ⟨r,off,none⟩))
 |famx {f:Nat->AVal} {n:Nat} {a:Option Addr} (h:Den ι (.fam f n) (.slice a n n)):Den ι (.famx f n) (.slice a n n)
 |fmw {f:Nat->List AVal} {wd n r c off:Nat} {pre vs rest:List Value} {e:TypeId} {fz:Nat×Nat} (h:ι.m r=some (.cells (pre++(vs++rest)).toArray e fz)) (hn:vs.length=n*wd) (hv:∀k,k<n->DenL ι (f k) ((vs.drop (k*wd)).take wd)) (hl:n<=c) (ho:off=pre.length):Den ι (.fmw f wd n) (.slice (some ⟨r,off,none⟩) n c)
 |fmw0 {f:Nat->List AVal} {wd:Nat} {a:Option Addr} {c:Nat}:Den ι (.fmw f wd 0) (.slice a 0 c)
 |fwp {f:Nat->List AVal} {wd n k o r off:Nat} {pre vs rest:List Value} {e:TypeId} {fz:Nat×Nat} (h:ι.m r=some (.cells (pre++(vs++rest)).toArray e fz)) (hn:vs.length=n*wd) (hv:∀k,k<n->DenL ι (f k) ((vs.drop (k*wd)).take wd)) (hk:k<n) (ho:off=pre.length+(k*wd+o)):Den ι (.fwp f wd n k o) (.pointer (some ⟨r,off,none⟩))
 |fpt {cs:List AVal} {off r:Nat} {vs rest:List Value} {e:TypeId} {fz:Nat×Nat} (h:ι.m r=some (.cells (vs++rest).toArray e fz)) (hv:DenL ι cs vs):Den ι (.fpt cs off) (.pointer (some ⟨r,off,none⟩))
 |ite {c:Bool} {a b:AVal} {v:Value} (ht:c=true->Den ι a v) (hf:c=false->Den ι b v):Den ι (.ite c a b) v
 |e0 {a:Option Addr} {c:Nat}:Den ι .e0 (.slice a 0 c)
 |mp {q:MP} {v:Value} (h:q.p ι v):Den ι (.mp q) v
inductive DenL (ι:Inj):List AVal->List Value->Prop where
 |nil:DenL ι [] []
 |cons {a:AVal} {x:Value} {as:List AVal} {xs:List Value} (h:Den ι a x) (hs:DenL ι as xs):DenL ι (a::as) (x::xs)
end
def Inj.bare(ι:Inj)(p:Nat):Inj:=⟨fun i=>if i<p then ι i else none,ι.m,ι.ad⟩
theorem ACap.mono{ι ι':Inj}(hi:ι.le ι'){a:ACap}{c:Nat}(h:a.den ι c):a.den ι' c:=by
 cases a with
 |n k=>exact h
 |u i s=>
  obtain⟨d,hd,e⟩:=h
  exact⟨d,hi _ _ hd,e⟩
 |x=>trivial
theorem ATot.mono{ι ι':Inj}(hi:ι.le ι'){a:ATot}{c:Nat}(h:a.ok ι c):a.ok ι' c:=by
 cases a with
 |n k=>exact h
 |u i s=>
  obtain⟨d,hd,e⟩:=h
  exact⟨d,hi _ _ hd,e⟩
theorem Inj.le_refl(ι:Inj):ι.le ι:=⟨fun _ _ h=>h,fun _ _ h=>h,fun _ _ h=>h⟩
theorem Inj.le_trans{a b c:Inj}(h:a.le b)(h':b.le c):a.le c:=⟨fun i r x=>h' i r (h i r x),fun r o x=>h'.m r o (h.m r o x),fun x r e=>h'.ad x r (h.ad x r e)⟩
theorem Inj.bare_le(ι:Inj)(p:Nat):(ι.bare p).le ι:=⟨fun i r h=>by
 by_cases hi:i<p
 ·simpa[Inj.bare,hi] using h
 ·simp[Inj.bare,hi] at h,fun _ _ h=>h,fun _ _ h=>h⟩
theorem Inj.bare_mono{ι ι':Inj}(h:ι.le ι')(p:Nat):(ι.bare p).le (ι'.bare p):=⟨fun i r hr=>by
 by_cases hi:i<p
 ·have:ι i=some r:=by simpa[Inj.bare,hi] using hr
  simpa[Inj.bare,hi] using h i r this
 ·simp[Inj.bare,hi] at hr,h.m,h.ad⟩
mutual
theorem Den.mono{ι ι':Inj}(hi:ι.le ι'):∀{a v},Den ι a v->Den ι' a v
 |_,_,.lit=>.lit
 |_,_,.str=>.str
 |_,_,.any h h'=>.any h h'
 |_,_,.top=>.top
 |_,_,.rope=>.rope
 |_,_,.lenr=>.lenr
 |_,_,.ub h=>.ub h
 |_,_,.rsl h hl ho hc=>.rsl (hi _ _ h) hl ho (ACap.mono hi hc)
 |_,_,.ptr h=>.ptr (hi _ _ h)
 |_,_,.slc h hl ho hc=>.slc (hi _ _ h) hl ho (ACap.mono hi hc)
 |_,_,.map h=>.map (hi _ _ h)
 |_,_,.fn h h'=>.fn (DenL.mono hi h) (DenL.mono hi h')
 |_,_,.ifc h=>.ifc (Den.mono hi h)
 |_,_,.agg h=>.agg (DenL.mono hi h)
 |_,_,.tup h=>.tup (DenL.mono hi h)
 |_,_,.sp h=>.sp (hi.ad _ _ h)
 |_,_,.ssl h hl=>.ssl (hi.ad _ _ h) hl
 |_,_,.smp h=>.smp (hi.ad _ _ h)
 |_,_,.by_ h hl ho=>.by_ (hi.m _ _ h) hl ho
 |_,_,.by0=>.by0
 |_,_,.bp h ho=>.bp (hi.m _ _ h) ho
 |_,_,.fam h hn hv hl ho=>.fam (hi.m _ _ h) hn (fun k v hk=>Den.mono hi (hv k v hk)) hl ho
 |_,_,.fam0=>.fam0
 |_,_,.fmp h hn hv ho=>.fmp (hi.m _ _ h) hn (fun k v hk=>Den.mono hi (hv k v hk)) ho
 |_,_,.famx h=>.famx (Den.mono hi h)
 |_,_,.fmw h hn hv hl ho=>.fmw (hi.m _ _ h) hn (fun k hk=>DenL.mono hi (hv k hk)) hl ho
 |_,_,.fmw0=>.fmw0
 |_,_,.fwp h hn hv hk ho=>.fwp (hi.m _ _ h) hn (fun k hk=>DenL.mono hi (hv k hk)) hk ho
 |_,_,.fpt h hv=>.fpt (hi.m _ _ h) (DenL.mono hi hv)
 |_,_,.ite ht hf=>.ite (fun e=>Den.mono hi (ht e)) (fun e=>Den.mono hi (hf e))
 |_,_,.e0=>.e0
 |_,_,.mp (q:=q) h=>.mp (q.mono _ _ _ hi h)
theorem DenL.mono{ι ι':Inj}(hi:ι.le ι'):∀{a v},DenL ι a v->DenL ι' a v
 |_,_,.nil=>.nil
 |_,_,.cons h hs=>.cons (Den.mono hi h) (DenL.mono hi hs)
end
theorem DenL.length{ι:Inj}:∀{a v},DenL ι a v->a.length=v.length
 |_,_,.nil=>rfl
 |_,_,.cons _ hs=>by simp[DenL.length hs]
theorem DenL.get{ι:Inj}:∀{a v} (_:DenL ι a v) (i:Nat) {x:AVal},a[i]?=some x->∃y,v[i]?=some y/\Den ι x y
 |_,_,.nil,i,x,h=>bm
 |_,_,.cons h hs,0,x,hx=>by simp at hx;subst hx;exact⟨_,rfl,h⟩
 |_,_,.cons h hs,i+1,x,hx=>by simpa using DenL.get hs i (by simpa using hx)
theorem DenL.append{ι:Inj}:∀{a v a' v'},DenL ι a v->DenL ι a' v'->DenL ι (a++a') (v++v')
 |_,_,_,_,.nil,h=>h
 |_,_,_,_,.cons h hs,h'=>.cons h (DenL.append hs h')
theorem DenL.take{ι:Inj}:∀{a v} (_:DenL ι a v) (n:Nat),DenL ι (a.take n) (v.take n)
 |_,_,_,0=>bF
 |_,_,.nil,_+1=>bF
 |_,_,.cons h hs,n+1=>by simpa using DenL.cons h (DenL.take hs n)
theorem DenL.drop{ι:Inj}:∀{a v} (_:DenL ι a v) (n:Nat),DenL ι (a.drop n) (v.drop n)
 |_,_,h,0=>bT
 |_,_,.nil,_+1=>bF
 |_,_,.cons h hs,n+1=>by simpa using DenL.drop hs n
theorem DenL.set{ι:Inj}:∀{a v} (_:DenL ι a v) (i:Nat) {x y},Den ι x y->DenL ι (a.set i x) (v.set i y)
 |_,_,.nil,_,_,_,_=>bF
 |_,_,.cons h hs,0,_,_,hx=>by simpa using DenL.cons hx hs
 |_,_,.cons h hs,i+1,_,_,hx=>by simpa using DenL.cons h (DenL.set hs i hx)
theorem DenL.replicate{ι:Inj}{x y}(h:Den ι x y):∀n,DenL ι (List.replicate n x) (List.replicate n y)
 |0=>.nil
 |n+1=>by simpa[List.replicate_succ] using DenL.cons h (DenL.replicate h n)
def ofValue:Nat->Value->AVal
 |_,.string s=>.str s.data.toList
 |n+1,.iface t v=>.ifc t (ofValue n v)
 |n+1,.agg cs=>.agg (cs.toList.map (ofValue n))
 |n+1,.tuple cs=>.tup (cs.toList.map (ofValue n))
 |_,v=>.lit v
theorem DenL.map_of{ι:Inj}{f:Value->AVal}(h:∀v,Den ι (f v) v):∀(l:List Value),DenL ι (l.map f) l
 |[]=>.nil
 |_::l=>.cons (h _) (DenL.map_of h l)
theorem a_Q{ι:Inj}:∀(n:Nat) (v:Value),Den ι (ofValue n v) v:=by
 intro n
 induction n with
 |zero=>intro v;cases v<;>first|exact .lit|exact .str
 |succ n ih=>
  intro v
  cases v<;>first|exact .lit|exact .str|exact .ifc (ih _)|exact .agg (DenL.map_of ih _)|exact .tup (DenL.map_of ih _)
inductive ABlk where
 |row (cs:List AVal) (elem:TypeId) (tot:ATot)
 |bytes (l:List UInt8) (elem:TypeId) (tot:ATot)
 |rbytes (r:List Nat) (elem:TypeId) (tot:ATot)
 |fam (f:Nat->AVal) (n:Nat) (us:List (Nat×AVal)) (xs:List AVal) (elem:TypeId) (tot:ATot)
 |famw (f:Nat->List AVal) (wd n:Nat) (xs:List AVal) (elem:TypeId) (tot:ATot)
 |map (es:List (AVal×AVal×Nat)) (clock:Nat)
 |siter (l:List UInt8) (pos:Nat)
def c_q(f:Nat->AVal):List (Nat×AVal)->Nat->AVal
 |[],k=>f k
 |(i,v)::r,k=>.ite (Nat.beq k i) v (c_q f r k)
def EDen(ι:Inj):List (AVal×AVal×Nat)->List MapEntry->Prop
 |[],[]=>True
 |(k,v,n)::r,e::es=>Den ι k e.key/\Den ι v e.val/\e.born=n/\EDen ι r es
 |_,_=>False
def BDen(ι:Inj):ABlk->Obj->Prop
 | .row cs elem tot,o=>∃vs rest,o=.cells (vs++rest).toArray elem (0,0)/\DenL ι cs vs/\tot.ok ι (vs.length+rest.length)
 | .bytes l elem tot,o=>∃(rest:List Value) (fz:Nat×Nat),o=.cells ((l.map a_v)++rest).toArray elem fz/\tot.ok ι (l.length+rest.length)/\(∀k,k<l.length+rest.length->¬(fz.1<=k/\(k<fz.2\/fz.2<fz.1)))
 | .rbytes r elem tot,o=>∃(rest:List Value) (fz:Nat×Nat),o=.cells (((a_3 r).map a_v)++rest).toArray elem fz/\tot.ok ι ((a_3 r).length+rest.length)/\(∀k,k<(a_3 r).length+rest.length->¬(fz.1<=k/\(k<fz.2\/fz.2<fz.1)))
 | .fam f n us xs elem tot,o=>∃vs ys rest,o=.cells (vs++ys++rest).toArray elem (0,0)/\vs.length=n/\(∀k v,vs[k]?=some v->Den ι (c_q f us k) v)/\DenL ι xs ys/\tot.ok ι (vs.length+ys.length+rest.length)
 | .famw f wd n xs elem tot,o=>∃vs ys rest,o=.cells (vs++ys++rest).toArray elem (0,0)/\vs.length=n*wd/\(∀k,k<n->DenL ι (f k) ((vs.drop (k*wd)).take wd))/\DenL ι xs ys/\tot.ok ι (vs.length+ys.length+rest.length)
 | .map es clock,o=>∃entries:Array MapEntry,o=.map entries clock/\EDen ι es entries.toList
 | .siter l pos,o=>o=.stringIter ⟨l.toArray⟩ pos
theorem EDen.mono{ι ι':Inj}(hi:ι.le ι'):∀{a e},EDen ι a e->EDen ι' a e
 |[],[],_=>trivial
 |(_,_,_)::r,_::es,h=>⟨h.1.mono hi,h.2.1.mono hi,h.2.2.1,EDen.mono hi h.2.2.2⟩
 |[],_::_,h=>h
 |_::_,[],h=>am
theorem BDen.mono{ι ι':Inj}(hi:ι.le ι'):∀{b o},BDen ι b o->BDen ι' b o
 | .row ..,_,⟨vs,rest,h,h',h''⟩=>⟨vs,rest,h,h'.mono hi,ATot.mono hi h''⟩
 | .bytes ..,_,⟨rest,fz,h,h',h''⟩=>⟨rest,fz,h,ATot.mono hi h',h''⟩
 | .rbytes ..,_,⟨rest,fz,h,h',h''⟩=>⟨rest,fz,h,ATot.mono hi h',h''⟩
 | .fam ..,_,⟨vs,ys,rest,h,hn,hv,hx,ht⟩=>⟨vs,ys,rest,h,hn,fun k v hk=>(hv k v hk).mono hi,hx.mono hi,ATot.mono hi ht⟩
 | .famw ..,_,⟨vs,ys,rest,h,hn,hv,hx,ht⟩=>⟨vs,ys,rest,h,hn,fun k hk=>(hv k hk).mono hi,hx.mono hi,ATot.mono hi ht⟩
 | .map ..,_,⟨e,h,h'⟩=>⟨e,h,h'.mono hi⟩
 | .siter ..,_,h=>h
inductive DItem where
 |one (g:Nat) (as:List AVal)
 |fam (g:Nat) (f:Nat->List AVal) (n:Nat)
structure AHeap where
 blks:Tr ABlk
 next:Nat
 defs:List DItem
 ros:List Nat
 st:SId->Option ABlk
def AHeap.get(H:AHeap)(id:Nat):Option ABlk:=H.blks.get id
def AHeap.set(H:AHeap)(id:Nat)(b:ABlk):AHeap:=⟨H.blks.set id (some b),H.next,H.defs,H.ros,H.st⟩
def AHeap.del(H:AHeap)(id:Nat):AHeap:=⟨H.blks.set id none,H.next,H.defs,H.ros,H.st⟩
def AHeap.new(H:AHeap)(b:ABlk):AHeap:=⟨H.blks.set H.next (some b),Nat.succ H.next,H.defs,H.ros,H.st⟩
def AHeap.nm(H:AHeap):AHeap:=⟨H.blks,Nat.succ H.next,H.defs,H.ros,H.st⟩
def AHeap.withD(H:AHeap)(ds:List DItem):AHeap:=⟨H.blks,H.next,ds,H.ros,H.st⟩
theorem AHeap.get_set(H:AHeap)(id:Nat)(b:ABlk)(j:Nat):(H.set id b).get j=if j=id then some b else H.get j:=Tr.get_set ..
theorem AHeap.get_del(H:AHeap)(id j:Nat):(H.del id).get j=if j=id then none else H.get j:=Tr.get_set ..
theorem AHeap.get_new(H:AHeap)(b:ABlk)(j:Nat):(H.new b).get j=if j=H.next then some b else H.get j:=Tr.get_set ..
def d_F:List Nat->Nat->Bool
 |[],_=>false
 |x::r,i=>cond (Nat.beq x i) true (d_F r i)
def AHeap.isRo(H:AHeap)(id:Nat):Bool:=d_F H.ros id
structure Fp where
 w:Nat->Prop
 r:Nat->Prop
 z:Nat->Prop
structure Fz (w0:World) (F0:Fp) (ι:Inj) (H:AHeap) (w:World):Prop where
 frz:∀r o,ι.m r=some o->w.heap[r]?=some o/\(F0.z r\/F0.w r\/w0.heap.size<=r)
 nofz:∀k b r,H.get k=some b->ι k=some r->ι.m r=none
 st:∀x b r,H.st x=some b->ι.ad x=some r->∃o,ι.m r=some o/\BDen (ι.bare 0) b o
 stinj:∀x y r,ι.ad x=some r->ι.ad y=some r->x=y
 stad:∀x r,ι.ad x=some r->∃b,H.st x=some b
structure Inv (w0:World) (F0:Fp) (ι:Inj) (H:AHeap) (w:World):Prop where
 blk:∀id b,H.get id=some b->∃r o,ι id=some r/\w.heap[r]?=some o/\BDen ι b o/\(F0.w r\/w0.heap.size<=r\/(F0.r r/\H.isRo id=true))
 inj:∀i j b c r,H.get i=some b->H.get j=some c->ι i=some r->ι j=some r->i=j
 fresh:∀id,H.next<=id->ι id=none
 frame:∀r,r<w0.heap.size->¬F0.w r->w.heap[r]?=w0.heap[r]?
 size:w0.heap.size<=w.heap.size
 tape:w.tape=w0.tape
 os:w.os=w0.os
 output:w.output=w0.output
 glob:Syms.good w0/\∀r,r<Syms.ng->r<w0.heap.size/\¬F0.w r
 fz:Fz w0 F0 ι H w
theorem Inv.good{w0:World}{F0:Fp}{ι:Inj}{H:AHeap}{w:World}(h:Inv w0 F0 ι H w):Syms.good w:=
 Syms.mono w0 w (fun r hr=>h.frame r (h.glob.2 r hr).1 (h.glob.2 r hr).2) h.glob.1
def Ok(w0:World)(F0:Fp)(ι:Inj)(K:AVal->AHeap->Prop):Result Value->Prop
 | .ok v w'=>∃a H' ι',K a H'/\Den ι' a v/\ι.le ι'/\Inv w0 F0 ι' H' w'
 | .halt _ _=>False
theorem Inv.drew{w0:World}{F0:Fp}{ι:Inj}{H:AHeap}{w:World}(h:Inv w0 F0 ι H w)(n:Nat):Inv w0 F0 ι H {w with drawn:=n}:=
 ⟨h.blk,h.inj,h.fresh,h.frame,h.size,h.tape,h.os,h.output,h.glob,⟨h.fz.frz,h.fz.nofz,h.fz.st,h.fz.stinj,h.fz.stad⟩⟩
theorem Inv.withD{w0:World}{F0:Fp}{ι:Inj}{H:AHeap}{w:World}(h:Inv w0 F0 ι H w)(ds:List DItem):Inv w0 F0 ι (H.withD ds) w:=
 ⟨h.blk,h.inj,h.fresh,h.frame,h.size,h.tape,h.os,h.output,h.glob,⟨h.fz.frz,h.fz.nofz,h.fz.st,h.fz.stinj,h.fz.stad⟩⟩
theorem Inv.new{w0:World}{F0:Fp}{ι:Inj}{H:AHeap}{w:World}(h:Inv w0 F0 ι H w){b:ABlk}{o:Obj}(hb:BDen ι b o):
 ∃ι',ι.le ι'/\ι' H.next=some w.heap.size/\Inv w0 F0 ι' (H.new b) {w with heap:=w.heap.push o}:=by
 have hn:ι H.next=none:=h.fresh _ (Nat.le_refl _)
 let ι':Inj:=⟨fun i=>if i=H.next then some w.heap.size else ι i,ι.m,ι.ad⟩
 have hle:ι.le ι':=⟨fun i r hi=>by
  by_cases e:i=H.next
  ·subst e;rw[hn] at hi;cases hi
  ·simp[ι',e,hi],fun _ _ h=>h,fun _ _ h=>h⟩
 have hsz:=h.size
 have hlt:∀r o,ι.m r=some o->r<w.heap.size:=fun r o hm=>by
  have:=(h.fz.frz r o hm).1
  rcases Nat.lt_or_ge r w.heap.size with h'|h'
  ·exact h'
  ·simp[Array.getElem?_eq_none h'] at this
 refine⟨ι',hle,by simp[ι'],?_,?_,?_,?_,?_,h.tape,h.os,h.output,h.glob,⟨?_,?_,?_,h.fz.stinj,h.fz.stad⟩⟩
 rotate_left 5
 ·intro r o hm
  obtain⟨h1,h2⟩:=h.fz.frz r o hm
  have:=hlt r o hm
  refine⟨?_,h2⟩
  simp only[Array.getElem?_push]
  rw[if_neg ac]
  exact h1
 ·intro k c r hc hr
  rw[AHeap.get_new] at hc
  by_cases e:k=H.next
  ·have hr':w.heap.size=r:=by simpa[ι',e] using hr
   cases hm:ι.m r with
   |none=>rfl
   |some o=>have:=hlt r o hm;omega
  ·rw[if_neg e] at hc
   exact h.fz.nofz k c r hc (by simpa[ι',e] using hr)
 ·intro x c r hx hr
  obtain⟨o',h1,h2⟩:=h.fz.st x c r hx hr
  exact⟨o',h1,h2.mono (Inj.bare_mono hle 0)⟩
 ·intro id c hc
  rw[AHeap.get_new] at hc
  by_cases e:id=H.next
  ·rw[if_pos e] at hc
   cases hc
   refine⟨w.heap.size,o,by simp[ι',e],an,hb.mono hle,.inr (.inl hsz)⟩
  ·rw[if_neg e] at hc
   obtain⟨r,o',hr,ho,hbd,hf⟩:=h.blk id c hc
   refine⟨r,o',hle _ _ hr,?_,hbd.mono hle,hf⟩
   have hlt:r<w.heap.size:=by
    rcases Nat.lt_or_ge r w.heap.size with h'|h'
    ·exact h'
    ·simp[Array.getElem?_eq_none h'] at ho
   simp only[Array.getElem?_push]
   rw[if_neg ac]
   exact ho
 ·intro i j bi bj r hi hj hri hrj
  rw[AHeap.get_new] at hi hj
  have old:∀k c,k≠H.next->H.get k=some c->ι' k=some r->ι k=some r/\r<w.heap.size:=by
   intro k c hk hg hr
   have:ι k=some r:=by simpa[ι',hk] using hr
   obtain⟨r',o',hr',ho,_⟩:=h.blk k c hg
   rw[this] at hr';cases hr'
   refine⟨this,?_⟩
   rcases Nat.lt_or_ge r w.heap.size with h'|h'
   ·exact h'
   ·simp[Array.getElem?_eq_none h'] at ho
  by_cases ei:i=H.next<;>by_cases ej:j=H.next
  ·rw[ei,ej]
  ·rw[if_neg ej] at hj
   have:=(old j bj ej hj hrj).2
   have:r=w.heap.size:=bJ
   omega
  ·rw[if_neg ei] at hi
   have:=(old i bi ei hi hri).2
   have:r=w.heap.size:=bK
   omega
  ·rw[if_neg ei] at hi;rw[if_neg ej] at hj
   exact h.inj i j bi bj r hi hj (old i bi ei hi hri).1 (old j bj ej hj hrj).1
 ·intro id hid
  have:id≠H.next:=fun e=>by subst e;simp[AHeap.new] at hid;omega
  simp only[ι',if_neg this]
  exact h.fresh id (by simp[AHeap.new] at hid;omega)
 ·intro r hr hf
  simp only[Array.getElem?_push]
  rw[if_neg ac]
  exact h.frame r hr hf
 ·simp;omega
theorem Inv.name{w0:World}{F0:Fp}{ι:Inj}{H:AHeap}{w:World}(h:Inv w0 F0 ι H w)(c:Nat):∃ι',ι.le ι'/\ι' H.next=some c/\Inv w0 F0 ι' H.nm w:=by
 have hn:ι H.next=none:=h.fresh _ (Nat.le_refl _)
 let ι':Inj:=⟨fun i=>if i=H.next then some c else ι i,ι.m,ι.ad⟩
 have hle:ι.le ι':=⟨fun i r hi=>by
  by_cases e:i=H.next
  ·subst e;rw[hn] at hi;cases hi
  ·simp[ι',e,hi],fun _ _ h=>h,fun _ _ h=>h⟩
 have back:∀{i b r},H.get i=some b->ι' i=some r->ι i=some r:=by
  intro i b r hg hr
  by_cases e:i=H.next
  ·subst e
   obtain⟨r0,_,hr0,_⟩:=h.blk _ _ hg
   rw[hn] at hr0;cases hr0
  ·simpa[ι',e] using hr
 refine⟨ι',hle,by simp[ι'],?_,?_,?_,h.frame,h.size,h.tape,h.os,h.output,h.glob,⟨h.fz.frz,fun k b r hk hr=>h.fz.nofz k b r hk (back hk hr),fun x b r hx hr=>?_,h.fz.stinj,h.fz.stad⟩⟩
 rotate_left 3
 ·obtain⟨o,h1,h2⟩:=h.fz.st x b r hx hr
  exact⟨o,h1,h2.mono (Inj.bare_mono hle 0)⟩
 ·intro id b hg
  obtain⟨r,o,hr,ho,hb,hf⟩:=h.blk id b hg
  exact⟨r,o,hle _ _ hr,ho,hb.mono hle,hf⟩
 ·intro i j b c' r hi hj h1 h2
  exact h.inj i j b c' r hi hj (back hi h1) (back hj h2)
 ·intro id hid
  have hid:H.next+1<=id:=hid
  have:id≠H.next:=ac
  simp only[ι',if_neg this]
  exact h.fresh id ac
theorem Inv.set{w0:World}{F0:Fp}{ι:Inj}{H:AHeap}{w:World}(h:Inv w0 F0 ι H w){id r:Nat}{b b':ABlk}{o':Obj}(hg:H.get id=some b)(hr:ι id=some r)(hro:H.isRo id=false)
 (hb:BDen ι b' o') {w':World} (hw:w'.heap[r]?=some o') (hoth:∀k,k≠r->w'.heap[k]?=w.heap[k]?) (hsz:w'.heap.size=w.heap.size) (ht:w'.tape=w.tape) (hos:w'.os=w.os) (hout:w'.output=w.output):
 Inv w0 F0 ι (H.set id b') w':=by
 obtain⟨r0,o0,hr0,ho0,_,hf0⟩:=h.blk id b hg
 rw[hr] at hr0;cases hr0
 have hnm:ι.m r=none:=h.fz.nofz id b r hg hr
 refine⟨?_,?_,h.fresh,?_,by rw[hsz];exact h.size,ht.trans h.tape,hos.trans h.os,hout.trans h.output,h.glob,⟨fun k o hm=>?_,fun k c x hk hx=>?_,h.fz.st,h.fz.stinj,h.fz.stad⟩⟩
 rotate_left 3
 ·obtain⟨h1,h2⟩:=h.fz.frz k o hm
  refine⟨?_,h2⟩
  rw[hoth k (fun e=>by rw[e,hnm] at hm;cases hm)]
  exact h1
 ·rw[AHeap.get_set] at hk
  by_cases e:k=id
  ·subst e
   rw[hr] at hx;cases hx
   exact hnm
  ·rw[if_neg e] at hk
   exact h.fz.nofz k c x hk hx
 ·intro j c hc
  rw[AHeap.get_set] at hc
  by_cases e:j=id
  ·subst e
   rw[if_pos rfl] at hc
   cases hc
   exact⟨r,o',hr,hw,hb,hf0⟩
  ·rw[if_neg e] at hc
   obtain⟨r1,o1,hr1,ho1,hb1,hf1⟩:=h.blk j c hc
   have hne:r1≠r:=fun e'=>e (h.inj j id c b r hc hg (e'▸hr1) hr)
   exact⟨r1,o1,hr1,by rw[hoth r1 hne];exact ho1,hb1,hf1⟩
 ·intro i j bi bj r' hi hj hri hrj
  rw[AHeap.get_set] at hi hj
  have back:∀k c,(if k=id then some b' else H.get k)=some c->∃c',H.get k=some c':=by
   intro k c hk
   by_cases e:k=id
   ·subst e;exact⟨b,hg⟩
   ·rw[if_neg e] at hk;exact⟨c,hk⟩
  obtain⟨ci,hci⟩:=back i bi hi
  obtain⟨cj,hcj⟩:=back j bj hj
  exact h.inj i j ci cj r' hci hcj hri hrj
 ·intro k hk hf
  have hne:k≠r:=fun e=>by
   subst e
   rcases hf0 with hf0|hf0|hf0
   ·exact hf hf0
   ·omega
   ·rw[hro] at hf0;cases hf0.2
  rw[hoth k hne]
  exact h.frame k hk hf
theorem Inv.del{w0:World}{F0:Fp}{ι:Inj}{H:AHeap}{w:World}(h:Inv w0 F0 ι H w)(id:Nat):Inv w0 F0 ι (H.del id) w:=by
 refine⟨?_,?_,h.fresh,h.frame,h.size,h.tape,h.os,h.output,h.glob,⟨h.fz.frz,fun k c x hk hx=>?_,h.fz.st,h.fz.stinj,h.fz.stad⟩⟩
 rotate_left 2
 ·rw[AHeap.get_del] at hk
  by_cases e:k=id
  ·simp[e] at hk
  ·rw[if_neg e] at hk;exact h.fz.nofz k c x hk hx
 ·intro j c hc
  rw[AHeap.get_del] at hc
  by_cases e:j=id
  ·simp[e] at hc
  ·rw[if_neg e] at hc;exact h.blk j c hc
 ·intro i j bi bj r hi hj hri hrj
  rw[AHeap.get_del] at hi hj
  by_cases ei:i=id
  ·simp[ei] at hi
  by_cases ej:j=id
  ·simp[ej] at hj
  rw[if_neg ei] at hi;rw[if_neg ej] at hj
  exact h.inj i j bi bj r hi hj hri hrj
end Go.Sx
namespace Go.Sx
open Go
variable [Syms]
def gd(b:Bool)(p:Prop):Prop:=cond b p False
def br(b:Bool)(p q:Prop):Prop:=cond b p q
theorem a_h{b:Bool}{p:Prop}(h:gd b p):b=true/\p:=by
 cases b
 ·exact h.elim
 ·exact⟨rfl,h⟩
theorem l_q{b:Bool}{p:Prop}(h:b=true)(h':p):gd b p:=by subst h;exact h'
theorem x_I{b:Bool}{p q:Prop}(h:b=true->p)(h':b=false->q):br b p q:=by
 cases b
 ·exact h' rfl
 ·exact h rfl
theorem a_4{b:Bool}{p q:Prop}(h:br b p q):(b=true/\p)\/(b=false/\q):=by
 cases b
 ·exact .inr ⟨rfl,h⟩
 ·exact .inl ⟨rfl,h⟩
def d_r:AVal:=.tup []
def AVal.cells:AVal->List AVal
 | .agg cs=>cs
 | .lit (.agg cs)=>cs.toList.map (ofValue 2)
 | .lit (.string s)=>[.str s.data.toList]
 |v=>[v]
def oneB:AVal->Bool
 | .lit v=>v.oneCell'
 | .agg _=>false
 | .tup _=>false
 | .top=>false
 | .ite _ _ _=>false
 |_=>true
def i_T:AVal->Bool
 | .ite _ a b=>oneB a&&oneB b
 |v=>oneB v
theorem Den.oneB{ι:Inj}{a v}(h:Den ι a v)(ho:oneB a=true):v.oneCell'=true:=by
 cases h<;>first|exact ho|rfl|assumption|(rename_i q h;exact q.one _ _ h)|cases ho
theorem Den.one{ι:Inj}{a v}(h:Den ι a v)(ho:i_T a=true):v.oneCell'=true:=by
 cases h with
 |@ite c a b v ht hf=>
  simp only[i_T,Bool.and_eq_true] at ho
  cases c with
  |true=>exact(ht rfl).oneB ho.1
  |false=>exact(hf rfl).oneB ho.2
 |lit=>exact ho
 |any h1 h2=>exact h2
 |top=>cases ho
 |agg h1=>cases ho
 |tup h1=>cases ho
 |@mp q v h1=>exact q.one _ _ h1
 |_=>rfl
theorem h_Q{v:Value}(h:v.oneCell'=true):v.cells=#[v]:=by cases v<;>first|rfl|cases h
def nt:AVal->Bool
 | .top=>false
 | .ite _ a b=>oneB a&&oneB b
 |_=>true
theorem Den.cells{ι:Inj}{a v}(h:Den ι a v)(hnt:nt a=true):DenL ι a.cells v.cells.toList:=by
 cases h with
 |top=>cases hnt
 |lit=>cases v<;>first|exact .cons .lit .nil|exact DenL.map_of (a_Q 2) _|exact .cons .str .nil
 |agg h=>exact h
 |str=>exact .cons .str .nil
 |any h h'=>rw[h];exact .cons (.any h h') .nil
 |rope=>exact .cons .rope .nil
 |lenr=>exact .cons .lenr .nil
 |ub h=>exact .cons (.ub h) .nil
 |rsl h hl ho hc=>exact .cons (.rsl h hl ho hc) .nil
 |ptr h=>exact .cons (.ptr h) .nil
 |slc h hl ho hc=>exact .cons (.slc h hl ho hc) .nil
 |map h=>exact .cons (.map h) .nil
 |fn h h'=>exact .cons (.fn h h') .nil
 |ifc h=>exact .cons (.ifc h) .nil
 |tup h=>exact .cons (.tup h) .nil
 |sp h=>exact .cons (.sp h) .nil
 |ssl h hl=>exact .cons (.ssl h hl) .nil
 |smp h=>exact .cons (.smp h) .nil
 |by_ h hl ho=>exact .cons (.by_ h hl ho) .nil
 |by0=>exact .cons .by0 .nil
 |bp h ho=>exact .cons (.bp h ho) .nil
 |fam h hn hv hl ho=>exact .cons (.fam h hn hv hl ho) .nil
 |fam0=>exact .cons .fam0 .nil
 |fmp h hn hv ho=>exact .cons (.fmp h hn hv ho) .nil
 |famx h=>exact .cons (.famx h) .nil
 |fmw h hn hv hl ho=>exact .cons (.fmw h hn hv hl ho) .nil
 |fmw0=>exact .cons .fmw0 .nil
 |fwp h hn hv hk ho=>exact .cons (.fwp h hn hv hk ho) .nil
 |fpt h hv=>exact .cons (.fpt h hv) .nil
 |ite ht hf=>
  have h1:=(Den.ite ht hf).one hnt
  rw[h_Q h1]
  exact .cons (.ite ht hf) .nil
 |e0=>exact .cons .e0 .nil
 |@mp q v h1=>
  rw[h_Q (q.one _ _ h1)]
  exact .cons (.mp h1) .nil
theorem DenL.one{ι:Inj}:∀{a v},DenL ι a v->a.all i_T=true->∀x∈v,x.oneCell'=true
 |_,_,.nil,_,_,hx=>bv
 |_,_,.cons h hs,ho,x,hx=>by
  simp only[List.all_cons,Bool.and_eq_true] at ho
  rcases List.mem_cons.1 hx with rfl|hx
  ·exact h.one ho.1
  ·exact DenL.one hs ho.2 x hx
def splice:List AVal->Nat->List AVal->List AVal
 |c::cs,0,v::vs=>v::splice cs 0 vs
 |c::cs,n+1,vs=>c::splice cs n vs
 |cs,_,_=>cs
def a_x:List Value->Nat->List Value->List Value
 |c::cs,0,v::vs=>v::a_x cs 0 vs
 |c::cs,n+1,vs=>c::a_x cs n vs
 |cs,_,_=>cs
theorem DenL.splice{ι:Inj}:∀{c d} (_:DenL ι c d) (n:Nat) {v w} (_:DenL ι v w),DenL ι (splice c n v) (a_x d n w)
 |_,_,.nil,n,_,_,h=>by cases n<;>cases h<;>exact .nil
 |_,_,.cons hc hcs,0,_,_,.nil=>.cons hc hcs
 |_,_,.cons hc hcs,0,_,_,.cons h hs=>.cons h (DenL.splice hcs 0 hs)
 |_,_,.cons hc hcs,n+1,_,_,h=>.cons hc (DenL.splice hcs n h)
theorem b_o:∀(c:List Value) (n:Nat) (v:List Value),(a_x c n v).length=c.length
 |[],0,_=>by cases ‹List Value› <;>rfl
 |[],_+1,_=>rfl
 |_::_,0,[]=>rfl
 |_::cs,0,_::vs=>by simp[a_x,b_o cs 0 vs]
 |_::cs,n+1,vs=>by simp[a_x,b_o cs n vs]
theorem c_r:∀(c r:List Value) (n:Nat) (v:List Value),n+v.length<=c.length->a_x (c++r) n v=a_x c n v++r
 |[],r,0,[],_=>by cases r<;>rfl
 |[],r,0,_::_,h=>bm
 |[],r,n+1,v,h=>bm
 |_::_,r,0,[],_=>rfl
 |_::cs,r,0,_::vs,h=>by
  simp only[List.cons_append,a_x]
  rw[c_r cs r 0 vs aQ]
 |_::cs,r,n+1,vs,h=>by
  simp only[List.cons_append,a_x]
  rw[c_r cs r n vs aQ]
theorem b_j:∀(c:List Value) (n:Nat) (x:Value) (v:List Value),n<c.length->a_x c n (x::v)=a_x (c.set n x) (n+1) v
 |[],_,_,_,h=>bm
 |c::cs,0,x,v,_=>by simp[a_x]
 |c::cs,n+1,x,v,h=>by
  simp only[List.set_cons_succ,a_x]
  rw[b_j cs n x v bT]
theorem a_R:∀(c:List Value) (n:Nat),a_x c n []=c
 |[],0=>rfl
 |[],_+1=>rfl
 |_::_,0=>rfl
 |_::cs,n+1=>by simp[a_x,a_R cs n]
def h_R{α:Type}:List α->Nat->Option α
 |[],_=>none
 |x::_,0=>some x
 |_::xs,n+1=>h_R xs n
theorem b_J{α:Type}:∀(l:List α) (n:Nat),h_R l n=l[n]?
 |[],_=>rfl
 |_::_,0=>rfl
 |_::xs,n+1=>by simpa[h_R] using b_J xs n
theorem cell_at{w:World}{r:Nat}{c:Array Value}{e:TypeId}{fz:Nat×Nat}(h:w.heap[r]?=some (.cells c e fz))(off:Nat):w.cell? ⟨r,off,none⟩=c[off]?:=by
 simp[World.cell?,h]
theorem b_y{w:World}{r:Nat}{c:Array Value}{e:TypeId}{fz:Nat×Nat}(h:w.heap[r]?=some (.cells c e fz))(off:Nat):w.frozen? ⟨r,off,none⟩=(decide (fz.1<=off)&&decide (off<fz.2)):=by
 simp[World.frozen?,h]
theorem e_g{P:Program}{w:World}{r:Nat}{c:Array Value}{e:TypeId}{fz:Nat×Nat}(h:w.heap[r]?=some (.cells c e fz))(off:Nat):
 ∀(n i:Nat) (acc:Array Value),off+i+n<=c.size->(loadCellsFrom ⟨r,off,none⟩ i n acc).run P w=.ok (acc++((c.toList.drop (off+i)).take n).toArray) w:=by
 intro n
 induction n with
 |zero=>intro i acc _;simp[loadCellsFrom]
 |succ n ih=>
  intro i acc hle
  have ha:(⟨r,off,none⟩:Addr).add i=⟨r,off+i,none⟩:=by
   unfold Addr.add;split
   ·next h0=>subst h0;rfl
   ·rfl
  simp only[loadCellsFrom,Sem.run_bind,run_load,ha,cell_at h]
  have hlt:off+i<c.size:=ac
  rw[Array.getElem?_eq_getElem hlt]
  simp only[Result.andThen_ok]
  rw[ih (i+1) _ ac]
  congr 1
  have hd:(c.toList.drop (off+i)).take (n+1)=c[off+i]::(c.toList.drop (off+(i+1))).take n:=by
   have hcons:c.toList.drop (off+i)=c[off+i]::c.toList.drop (off+i+1):=by
    rw[List.drop_eq_getElem_cons bQ];simp
   rw[hcons,List.take_succ_cons]
   rfl
  rw[hd]
  simp
theorem a_T{P:Program}{w:World}{r:Nat}{c:Array Value}{e:TypeId}{fz:Nat×Nat}(h:w.heap[r]?=some (.cells c e fz))(off n:Nat)(hle:off+n<=c.size):
 (loadCells ⟨r,off,none⟩ n).run P w=.ok ((c.toList.drop off).take n).toArray w:=by
 unfold loadCells
 rw[e_g h off n 0 #[] ac]
 simp
def a_H(w:World)(r:Nat)(o:Obj):World:={w with heap:=w.heap.setIfInBounds r o}
theorem a_M{w:World}{r:Nat}{o o':Obj}(h:w.heap[r]?=some o'):(a_H w r o).heap[r]?=some o:=by
 have:r<w.heap.size:=by
  rcases Nat.lt_or_ge r w.heap.size with h'|h'
  ·exact h'
  ·simp[Array.getElem?_eq_none h'] at h
 simp[a_H,this]
theorem a_A{w:World}{r k:Nat}{o:Obj}(h:k≠r):(a_H w r o).heap[k]?=w.heap[k]?:=by
 simp[a_H,Array.getElem?_setIfInBounds_ne (Ne.symm h)]
theorem a_I{w:World}{r:Nat}{o:Obj}:(a_H w r o).heap.size=w.heap.size:=by simp[a_H]
theorem g_L{w:World}{r:Nat}{o o':Obj}:a_H (a_H w r o) r o'=a_H w r o':=by simp[a_H]
theorem b_s{w:World}{r:Nat}{o:Obj}(h:w.heap[r]?=some o):a_H w r o=w:=by
 have:w.heap.setIfInBounds r o=w.heap:=by
  apply Array.ext_getElem?
  intro i
  by_cases hi:i=r
  ·subst hi
   rw[h]
   have:i<w.heap.size:=by
    rcases Nat.lt_or_ge i w.heap.size with h'|h'
    ·exact h'
    ·simp[Array.getElem?_eq_none h'] at h
   simp[this]
  ·simp[Array.getElem?_setIfInBounds_ne (Ne.symm hi)]
 simp[a_H,this]
theorem i_V{w:World}{r off:Nat}{c:Array Value}{e:TypeId}{fz:Nat×Nat}(h:w.heap[r]?=some (.cells c e fz))(v:Value):
 w.setCell ⟨r,off,none⟩ v=a_H w r (.cells (c.setIfInBounds off v) e fz):=by
 have hlt:r<w.heap.size:=by
  rcases Nat.lt_or_ge r w.heap.size with h'|h'
  ·exact h'
  ·simp[Array.getElem?_eq_none h'] at h
 unfold World.setCell a_H
 congr 1
 apply Array.ext_getElem?
 intro i
 rw[Array.getElem?_modify]
 by_cases hi:r=i
 ·subst hi
  rw[if_pos rfl,h]
  simp[hlt]
 ·simp[hi,Array.getElem?_setIfInBounds_ne hi]
theorem a_D{P:Program}{r off:Nat}{e:TypeId}{fz:Nat×Nat}:
 ∀(vs:List Value) (i:Nat) (w:World) (c:List Value),w.heap[r]?=some (.cells c.toArray e fz)->off+i+vs.length<=c.length->(∀k,off+i<=k->k<off+i+vs.length->¬(fz.1<=k/\(k<fz.2\/fz.2<fz.1)))->(∀x∈vs,x.oneCell'=true)->
  (storeCells ⟨r,off,none⟩ vs i).run P w=.ok () (a_H w r (.cells (a_x c (off+i) vs).toArray e fz)):=by
 intro vs
 induction vs with
 |nil=>
  intro i w c h _ _ _
  simp only[storeCells,Sem.run_pure,a_R]
  rw[b_s h]
 |cons v vs ih=>
  intro i w c h hle hfz hone
  have ha:(⟨r,off,none⟩:Addr).add i=⟨r,off+i,none⟩:=by
   unfold Addr.add;split
   ·next h0=>subst h0;rfl
   ·rfl
  have hlt:off+i<c.length:=by simp at hle;omega
  simp only[storeCells,Sem.run_bind,ha]
  rw[run_store P w _ _ _ (hone v an),cell_at h,b_y h]
  have hg:c.toArray[off+i]?=some c[off+i]:=by simp[hlt]
  rw[hg]
  have hnf:(decide (fz.1<=off+i)&&decide (off+i<fz.2))=false:=by
   have:=hfz (off+i) (Nat.le_refl _) an
   simp only[Bool.and_eq_false_iff,decide_eq_false_iff_not]
   by_cases h1:fz.1<=off+i
   ·exact .inr fun h2=>this ⟨h1,.inl h2⟩
   ·exact .inl h1
  rw[hnf]
  simp only[Bool.false_eq_true,if_false,Result.andThen_ok]
  rw[i_V h]
  have e1:c.toArray.setIfInBounds (off+i) v=(c.set (off+i) v).toArray:=an
  rw[e1]
  have h':=a_M (o:=.cells (c.set (off+i) v).toArray e fz) h
  rw[ih (i+1) _ _ h' (by simp at hle⊢;omega) (fun k h1 h2=>hfz k ac (by simp at h2⊢;omega)) (fun x hx=>hone x (List.mem_cons_of_mem _ hx)),g_L]
  rw[b_j c (off+i) v vs hlt,Nat.add_assoc]
def k_j:Nat->AVal->(AVal->Prop)->Prop
 |n+1,.ite c a b,K=>br c (k_j n a K) (k_j n b K)
 |_,v,K=>K v
theorem b_2{ι:Inj}:∀{n:Nat} {a:AVal} {v:Value} {K:AVal->Prop},k_j n a K->Den ι a v->∃b,Den ι b v/\K b
 |0,a,v,K,h,hd=>⟨a,hd,by simpa[k_j] using h⟩
 |n+1,a,v,K,h,hd=>by
  cases a with
  |ite c x y=>
   simp only[k_j] at h
   cases hd with
   |ite ht hf=>
   rcases a_4 h with⟨hc,h⟩|⟨hc,h⟩
   ·exact b_2 h (ht hc)
   ·exact b_2 h (hf hc)
  |_=>exact⟨_,hd,h⟩
def rd(b:ABlk)(off:Nat)(K:AVal->Prop):Prop:=
 match b with
 | .row cs _ _=>match h_R cs off with|some v=>k_j 4 v K|none=>False
 | .bytes l _ _=>gd (Nat.blt off l.length) (K (.lit (a_v (l.getD off 0))))
 | .fam f n us xs _ _=>match xs with
   |[v]=>br (Nat.blt off n) (k_j 8 (c_q f us off) K) (gd (Nat.beq off n) (k_j 4 v K))
   |_=>gd (Nat.blt off n) (k_j 8 (c_q f us off) K)
 |_=>False
def rdN(b:ABlk)(off n:Nat)(K:List AVal->Prop):Prop:=
 match b with
 | .row cs _ _=>gd (Nat.ble (off+n) cs.length) (K ((cs.drop off).take n))
 |_=>False
def wr(b:ABlk)(off:Nat)(vs:List AVal)(K:ABlk->Prop):Prop:=
 match b with
 | .row cs e tot=>gd (Nat.ble (off+vs.length) cs.length&&vs.all i_T) (K (.row (splice cs off vs) e tot))
 | .bytes l e tot=>match vs with
   |[.lit (.int .u8 n)]=>match tot with
    | .n m=>br (Nat.blt off l.length) (gd (decide (0<=n)&&decide (n<256)) (K (.bytes (l.set off (UInt8.ofNat n.toNat)) e tot)))
      (gd (Nat.beq off l.length&&(Nat.blt off m&&(decide (0<=n)&&decide (n<256)))) (K (.bytes (l++[UInt8.ofNat n.toNat]) e tot)))
    |_=>gd (Nat.blt off l.length&&(decide (0<=n)&&decide (n<256))) (K (.bytes (l.set off (UInt8.ofNat n.toNat)) e tot))
   |_=>False
 | .fam f n us xs e tot=>match vs with
   |[v]=>match xs with
    |[_]=>gd (i_T v) (br (Nat.blt off n) (K (.fam f n ((off,v)::us) xs e tot)) (gd (Nat.beq off n) (K (.fam f n us [v] e tot))))
    |_=>gd (Nat.blt off n&&i_T v) (K (.fam f n ((off,v)::us) xs e tot))
   |_=>False
 |_=>False
theorem a_Y{a b:Nat}(h:Nat.blt a b=true):a<b:=Nat.le_of_ble_eq_true h
theorem a_B{a b:Nat}(h:Nat.ble a b=true):a<=b:=Nat.le_of_ble_eq_true h
theorem x_J{ι:Inj}{b:ABlk}{o:Obj}{off:Nat}{K:AVal->Prop}(hb:BDen ι b o)(h:rd b off K):
 ∃c e fz a v,o=.cells c e fz/\c[off]?=some v/\Den ι a v/\K a:=by
 cases b with
 |row cs e tot=>
  obtain⟨vs,rest,rfl,hd,_⟩:=hb
  simp only[rd] at h
  cases hn:h_R cs off with
  |none=>rw[hn] at h;exact h.elim
  |some a=>
   rw[hn] at h
   obtain⟨y,hy,hden⟩:=hd.get off (by rw[←b_J];exact hn)
   obtain⟨a',hden',h⟩:=b_2 h hden
   refine⟨_,_,_,a',y,rfl,?_,hden',h⟩
   have:off<vs.length:=(List.getElem?_eq_some_iff.1 hy).1
   simp[List.getElem?_append_left this,hy]
 |bytes l e tot=>
  obtain⟨rest,fz,rfl,_,_⟩:=hb
  obtain⟨hlt,hK⟩:=a_h h
  have hlt:=a_Y hlt
  refine⟨_,_,_,_,a_v (l.getD off 0),rfl,?_,.lit,hK⟩
  rw[List.getElem?_toArray,List.getElem?_append_left bQ]
  simp[List.getD,hlt]
 |rbytes r e tot=>exact h.elim
 |fam f n us xs e tot=>
  obtain⟨vs,ys,rest,rfl,hn,hv,hx,_⟩:=hb
  have key:Nat.blt off n=true->k_j 8 (c_q f us off) K->∃c e' fz a v,(Obj.cells (vs++ys++rest).toArray e (0,0))=.cells c e' fz/\c[off]?=some v/\Den ι a v/\K a:=fun hlt hK=>by
   have hlt:=a_Y hlt
   have hlt':off<vs.length:=ac
   obtain⟨a,hden,hK⟩:=b_2 hK (hv off vs[off] (List.getElem?_eq_getElem hlt'))
   refine⟨_,_,_,a,_,rfl,?_,hden,hK⟩
   rw[List.append_assoc]
   simp[List.getElem?_append_left hlt',hlt']
  simp only[rd] at h
  split at h
  ·rename_i v
   rcases a_4 h with⟨hlt,hK⟩|⟨_,h⟩
   ·exact key hlt hK
   ·obtain⟨heq,hK⟩:=a_h h
    have heq:=Nat.eq_of_beq_eq_true heq
    subst heq
    cases hx with
    |@cons _ u _ _ h1 h2=>
    cases h2
    obtain⟨a,hden,hK⟩:=b_2 hK h1
    refine⟨_,_,_,a,u,rfl,?_,hden,hK⟩
    rw[List.append_assoc]
    simp[←hn]
  ·obtain⟨hlt,hK⟩:=a_h h
   exact key hlt hK
 |famw f wd n xs e tot=>exact h.elim
 |map es c=>exact h.elim
 |siter l p=>exact h.elim
theorem t_w{ι:Inj}{b:ABlk}{o:Obj}{off n:Nat}{K:List AVal->Prop}(hb:BDen ι b o)(h:rdN b off n K):
 ∃(c:Array Value) (e:TypeId) (fz:Nat×Nat) (a:List AVal),o=.cells c e fz/\off+n<=c.size/\DenL ι a ((c.toList.drop off).take n)/\K a:=by
 cases b with
 |row cs e tot=>
  obtain⟨vs,rest,rfl,hd,_⟩:=hb
  obtain⟨hle,hK⟩:=a_h h
  have hle:=a_B hle
  have hl:=hd.length
  refine⟨_,_,_,_,rfl,af,?_,hK⟩
  have:((vs++rest).toArray.toList.drop off).take n=(vs.drop off).take n:=by
   simp only[List.drop_append]
   rw[List.take_append_of_le_length af]
  rw[this]
  exact(hd.drop off).take n
 |_=>exact h.elim
theorem d_v(n:Int)(h0:0<=n)(h1:n<256):a_v (UInt8.ofNat n.toNat)=.int .u8 n:=by
 unfold a_v
 congr 1
 simp
 omega
theorem wr_ok{P:Program}{ι:Inj}{b:ABlk}{o:Obj}{off:Nat}{vs:List AVal}{us:List Value}{K:ABlk->Prop}(hb:BDen ι b o)(hv:DenL ι vs us)(h:wr b off vs K){w:World}{r:Nat}(hw:w.heap[r]?=some o):
 ∃b' o',K b'/\BDen ι b' o'/\(storeCells ⟨r,off,none⟩ us).run P w=.ok () (a_H w r o'):=by
 cases b with
 |row cs e tot=>
  obtain⟨c,rest,rfl,hd,ht⟩:=hb
  obtain⟨hc,hK⟩:=a_h h
  simp only[Bool.and_eq_true] at hc
  have hle:=a_B hc.1
  have hl:=hd.length
  have hl':=hv.length
  refine⟨_,.cells (a_x c off us++rest).toArray e (0,0),hK,⟨a_x c off us,rest,rfl,hd.splice off hv,by rw[b_o];exact ht⟩,?_⟩
  have:=a_D (P:=P) (off:=off) (e:=e) (fz:=(0,0)) us 0 w (c++rest) hw af (fun k _ _ hh=>aP) (hv.one hc.2)
  rw[this]
  rw[Nat.add_zero,c_r c rest off us ac]
 |bytes l e tot=>
  obtain⟨rest,fz,rfl,ht,hfz⟩:=hb
  simp only[wr] at h
  split at h
  ·rename_i n
   have key:Nat.blt off l.length=true->(decide (0<=n)&&decide (n<256))=true->K (.bytes (l.set off (UInt8.ofNat n.toNat)) e tot)->∃b' o',K b'/\BDen ι b' o'/\(storeCells ⟨r,off,none⟩ us).run P w=.ok () (a_H w r o'):=fun hlt hc hK=>by
    simp only[Bool.and_eq_true,decide_eq_true_eq] at hc
    have hlt:=a_Y hlt
    have hc:True/\0<=n/\n<256:=⟨trivial,hc⟩
    cases hv with
    |cons hx hs=>
     cases hx
     cases hs
     refine⟨_,.cells ((l.set off (UInt8.ofNat n.toNat)).map a_v++rest).toArray e fz,hK,⟨rest,fz,rfl,by simpa using ht,fun k hk=>hfz k bz⟩,?_⟩
     have:=a_D (P:=P) (off:=off) (e:=e) (fz:=fz) [.int .u8 n] 0 w (l.map a_v++rest) hw af (fun k h1 h2=>hfz k (by simp only[List.length_cons,List.length_nil] at h2;omega)) (by intro x hx;simp at hx;subst hx;rfl)
     rw[this]
     have hsp:a_x (l.map a_v++rest) (off+0) [.int .u8 n]=(l.set off (UInt8.ofNat n.toNat)).map a_v++rest:=by
      rw[b_j _ _ _ _ af,a_R,Nat.add_zero,List.set_append_left _ _ bQ,List.map_set,d_v n hc.2.1 hc.2.2]
     rw[hsp]
   split at h
   ·rename_i m
    rcases a_4 h with⟨hlt,h⟩|⟨_,h⟩
    ·obtain⟨hc,hK⟩:=a_h h
     exact key hlt hc hK
    ·obtain⟨hc,hK⟩:=a_h h
     simp only[Bool.and_eq_true,decide_eq_true_eq] at hc
     have heq:=Nat.eq_of_beq_eq_true hc.1
     have hm:=a_Y hc.2.1
     have ht:m<=l.length+rest.length:=ht
     subst heq
     cases hv with
     |cons hx hs=>
     cases hx
     cases hs
     cases rest with
     |nil=>simp at ht;omega
     |cons y rest=>
     refine⟨_,.cells ((l++[UInt8.ofNat n.toNat]).map a_v++rest).toArray e fz,hK,⟨rest,fz,rfl,by show m<=_;simp at ht⊢;omega,fun k hk=>hfz k (by simp at hk⊢;omega)⟩,?_⟩
     have:=a_D (P:=P) (off:=l.length) (e:=e) (fz:=fz) [.int .u8 n] 0 w (l.map a_v++y::rest) hw an (fun k h1 h2=>hfz k (by simp only[List.length_cons,List.length_nil] at h2⊢;omega)) (by intro x hx;simp at hx;subst hx;rfl)
     rw[this]
     have hsp:a_x (l.map a_v++y::rest) (l.length+0) [.int .u8 n]=(l++[UInt8.ofNat n.toNat]).map a_v++rest:=by
      rw[b_j _ _ _ _ an,a_R,Nat.add_zero,List.set_append_right _ _ an]
      simp[d_v n hc.2.2.1 hc.2.2.2]
     rw[hsp]
   ·obtain⟨hc,hK⟩:=a_h h
    simp only[Bool.and_eq_true] at hc
    exact key hc.1 (by simp only[Bool.and_eq_true];exact hc.2) hK
  ·exact h.elim
 |rbytes r e tot=>exact h.elim
 |fam f n us xs e tot=>
  obtain⟨c,ys,rest,rfl,hn,hcv,hx,ht⟩:=hb
  simp only[wr] at h
  split at h
  ·rename_i v
   cases hv with
   |@cons _ u _ _ h1 h2=>
   cases h2
   have h2:DenL ι [v] [u]:=.cons h1 .nil
   have key:Nat.blt off n=true->i_T v=true->K (.fam f n ((off,v)::us) xs e tot)->∃b' o',K b'/\BDen ι b' o'/\(storeCells ⟨r,off,none⟩ [u]).run P w=.ok () (a_H w r o'):=fun hlt hc hK=>by
    have hlt:=a_Y hlt
    have hc:True/\i_T v=true:=⟨trivial,hc⟩
    refine⟨_,.cells (c.set off u++ys++rest).toArray e (0,0),hK,⟨c.set off u,ys,rest,rfl,bR,fun k x hk=>?_,hx,by simpa using ht⟩,?_⟩
    ·simp only[c_q]
     by_cases e:k=off
     ·subst e
      have hlt':k<c.length:=ac
      simp[hlt'] at hk
      subst hk
      exact .ite (fun _=>h1) (fun h=>by rw[Nat.beq_refl] at h;cases h)
     ·rw[List.getElem?_set_ne ac] at hk
      exact .ite (fun h=>absurd (Nat.eq_of_beq_eq_true h) e) (fun _=>hcv k x hk)
    ·have:=a_D (P:=P) (off:=off) (e:=e) (fz:=(0,0)) [u] 0 w (c++ys++rest) hw af (fun k _ _ hh=>aP) (h2.one (by simpa using hc.2))
     rw[this]
     have e2:a_x (c++ys++rest) (off+0) [u]=c.set off u++ys++rest:=by
      rw[b_j _ _ _ _ af,a_R,Nat.add_zero]
      rw[List.append_assoc,List.set_append_left _ _ ac,List.append_assoc]
     rw[e2]
   split at h
   ·rename_i y0
    obtain⟨hc,h⟩:=a_h h
    rcases a_4 h with⟨hlt,hK⟩|⟨_,h⟩
    ·exact key hlt hc hK
    ·obtain⟨heq,hK⟩:=a_h h
     have heq:=Nat.eq_of_beq_eq_true heq
     cases hx with
     |@cons _ y _ _ hy1 hy2=>
     cases hy2
     refine⟨_,.cells (c++[u]++rest).toArray e (0,0),hK,⟨c,[u],rest,rfl,hn,hcv,h2,by simpa using ht⟩,?_⟩
     have:=a_D (P:=P) (off:=off) (e:=e) (fz:=(0,0)) [u] 0 w (c++[y]++rest) hw af (fun k _ _ hh=>aP) (h2.one (by simpa using hc))
     rw[this]
     have e2:a_x (c++[y]++rest) (off+0) [u]=c++[u]++rest:=by
      rw[b_j _ _ _ _ af,a_R,Nat.add_zero]
      rw[List.append_assoc,List.set_append_right _ _ ac,List.append_assoc]
      have:off-c.length=0:=ac
      rw[this];rfl
     rw[e2]
   ·obtain⟨hc,hK⟩:=a_h h
    simp only[Bool.and_eq_true] at hc
    exact key hc.1 hc.2 hK
  ·exact h.elim
 |famw f wd n xs e tot=>exact h.elim
 |map es c=>exact h.elim
 |siter l p=>exact h.elim
end Go.Sx

