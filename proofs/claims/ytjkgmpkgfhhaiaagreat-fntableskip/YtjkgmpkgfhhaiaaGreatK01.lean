/- Lemmas of this claim; the last text says what is proved. -/
import Derived.WalkKit
set_option linter.all false
namespace Go.Sx
inductive Tr (α:Type) where
 |nil
 |node (v:Option α) (l r:Tr α)
def Tr.get {α:Type}:Tr α->Nat->Option α
 | .nil,_=>none
 | .node v _ _,0=>v
 | .node _ l r,t+1=>cond (Nat.beq (t % 2) 0) (l.get (t / 2)) (r.get (t / 2))
def Tr.put {α:Type}:Nat->Tr α->Nat->Option α->Tr α
 |0,s,_,_=>s
 |n+1,.nil,0,x=>.node x .nil .nil
 |n+1,.nil,t+1,x=>cond (Nat.beq (t % 2) 0) (.node none (Tr.put n .nil (t / 2) x) .nil) (.node none .nil (Tr.put n .nil (t / 2) x))
 |n+1,.node _ l r,0,x=>.node x l r
 |n+1,.node v l r,t+1,x=>cond (Nat.beq (t % 2) 0) (.node v (Tr.put n l (t / 2) x) r) (.node v l (Tr.put n r (t / 2) x))
theorem beq_false {i j:Nat} (h:i≠j):Nat.beq i j=false:=by
 cases hb:Nat.beq i j with
 |false=>rfl
 |true=>exact absurd (Nat.eq_of_beq_eq_true hb) h
theorem beq_self (i:Nat):Nat.beq i i=true:=Nat.beq_refl i
theorem Tr.get_nil {α:Type} (t:Nat):(Tr.nil:Tr α).get t=none:=by cases t<;>rfl
theorem Tr.get_put {α:Type}:∀(n:Nat) (s:Tr α) (t:Nat) (x:Option α) (j:Nat),t+1<2 ^ n->(Tr.put n s t x).get j=if j=t then x else s.get j:=by
 intro n
 induction n with
 |zero=>intro s t x j h;simp at h
 |succ n ih=>
  intro s t x j h
  have hb:∀t,t+1+1<2 ^ (n+1)->t / 2+1<2 ^ n:=fun t ht=>by rw[Nat.pow_succ] at ht;omega
  cases t with
  |zero=>
   cases s with
   |nil=>cases j with
    |zero=>simp[Tr.put,Tr.get]
    |succ j=>simp[Tr.put,Tr.get,Tr.get_nil]
   |node v l r=>cases j with
    |zero=>simp[Tr.put,Tr.get]
    |succ j=>simp[Tr.put,Tr.get]
  |succ t=>
   have hh:=hb t h
   cases hm:Nat.beq (t % 2) 0 with
   |true=>
    have hm':t % 2=0:=Nat.eq_of_beq_eq_true hm
    cases s with
    |nil=>cases j with
     |zero=>simp[Tr.put,hm,Tr.get]
     |succ j=>
      simp only[Tr.put,hm,cond_true,Tr.get,Tr.get_nil]
      cases hj:Nat.beq (j % 2) 0 with
      |true=>
       have hj':j % 2=0:=Nat.eq_of_beq_eq_true hj
       simp only[cond_true,ih _ _ _ _ hh,Tr.get_nil]
       by_cases e:j=t
       ·subst e;simp
       ·rw[if_neg (by omega),if_neg (by omega)]
      |false=>
       have hj':j % 2≠0:=fun e=>by rw[e] at hj;cases hj
       simp only[cond_false]
       rw[if_neg (by intro e;apply hj';have:j=t:=by omega
                     rw[this];exact hm')]
    |node v l r=>cases j with
     |zero=>simp[Tr.put,hm,Tr.get]
     |succ j=>
      simp only[Tr.put,hm,cond_true,Tr.get]
      cases hj:Nat.beq (j % 2) 0 with
      |true=>
       have hj':j % 2=0:=Nat.eq_of_beq_eq_true hj
       simp only[cond_true,ih _ _ _ _ hh]
       by_cases e:j=t
       ·subst e;simp
       ·rw[if_neg (by omega),if_neg (by omega)]
      |false=>
       have hj':j % 2≠0:=fun e=>by rw[e] at hj;cases hj
       simp only[cond_false]
       rw[if_neg (by intro e;apply hj';have:j=t:=by omega
                     rw[this];exact hm')]
   |false=>
    have hm':t % 2≠0:=fun e=>by rw[e] at hm;cases hm
    cases s with
    |nil=>cases j with
     |zero=>simp[Tr.put,hm,Tr.get]
     |succ j=>
      simp only[Tr.put,hm,cond_false,Tr.get,Tr.get_nil]
      cases hj:Nat.beq (j % 2) 0 with
      |true=>
       have hj':j % 2=0:=Nat.eq_of_beq_eq_true hj
       simp only[cond_true]
       rw[if_neg (by intro e;apply hm';have:j=t:=by omega
                     rw[←this];exact hj')]
      |false=>
       have hj':j % 2≠0:=fun e=>by rw[e] at hj;cases hj
       simp only[cond_false,ih _ _ _ _ hh,Tr.get_nil]
       by_cases e:j=t
       ·subst e;simp
       ·rw[if_neg (by omega),if_neg (by omega)]
    |node v l r=>cases j with
     |zero=>simp[Tr.put,hm,Tr.get]
     |succ j=>
      simp only[Tr.put,hm,cond_false,Tr.get]
      cases hj:Nat.beq (j % 2) 0 with
      |true=>
       have hj':j % 2=0:=Nat.eq_of_beq_eq_true hj
       simp only[cond_true]
       rw[if_neg (by intro e;apply hm';have:j=t:=by omega
                     rw[←this];exact hj')]
      |false=>
       have hj':j % 2≠0:=fun e=>by rw[e] at hj;cases hj
       simp only[cond_false,ih _ _ _ _ hh]
       by_cases e:j=t
       ·subst e;simp
       ·rw[if_neg (by omega),if_neg (by omega)]
def Tr.set {α:Type} (s:Tr α) (t:Nat) (x:Option α):Tr α:=Tr.put (Nat.succ (Nat.succ t)) s t x
theorem Tr.get_set {α:Type} (s:Tr α) (t:Nat) (x:Option α) (j:Nat):(s.set t x).get j=if j=t then x else s.get j:=by
 refine Tr.get_put _ s t x j ?_
 have:=@Nat.lt_two_pow_self (t+1)
 rw[Nat.pow_succ]
 omega
end Go.Sx
namespace Go.Sx
open Go
structure SId where
 k:Nat
 i:Nat
 j:Nat
inductive ACap where
 |n (k:Nat)
 |u (i s:Nat)
 |x
inductive ATot where
 |n (k:Nat)
 |u (i m:Nat)
structure Cls where
 lo:Nat
 hi:Nat
 all:Nat
 fst:Nat
 lst:Nat
def hasBit (m n:Nat):Bool:=Nat.beq (Nat.land (Nat.shiftRight m n) 1) 1
structure Cls.Holds (c:Cls) (l:List UInt8):Prop where
 lo:c.lo<=l.length
 hi:l.length<=c.hi
 all:∀b∈l,hasBit c.all b.toNat=true
 fst:∀b,l.head?=some b->hasBit c.fst b.toNat=true
 lst:∀b,l.getLast?=some b->hasBit c.lst b.toNat=true
class Syms where
 cls:Nat->Cls
 w:Nat->List UInt8
 ok:∀i,(cls i).Holds (w i)
 ng:Nat
 good:World->Prop
 mono:∀w w',(∀r,r<ng->w'.heap[r]?=w.heap[r]?)->good w->good w'
 gn:Nat->Nat->Bool
 gf:Nat->Nat->UInt8
 gok:∀w g k,good w->gn g k=true->∃c e fz,w.heap[g]?=some (.cells c e fz)/\c[k]?=some (.int .u8 (gf g k).toNat)
variable [Syms]
def tokB (t:Nat):List UInt8:=cond (Nat.blt t 256) [UInt8.ofNat t] (Syms.w (t-256))
def flat:List Nat->List UInt8
 |[]=>[]
 |t::r=>tokB t++flat r
structure Inj where
 f:Nat->Option Nat
 m:Nat->Option Obj
 ad:SId->Option Nat
instance:CoeFun Inj (fun _=>Nat->Option Nat):=⟨Inj.f⟩
structure Inj.le (ι ι':Inj):Prop where
 f:∀i r,ι i=some r->ι' i=some r
 m:∀r o,ι.m r=some o->ι'.m r=some o
 ad:∀x r,ι.ad x=some r->ι'.ad x=some r
instance (ι ι':Inj):CoeFun (ι.le ι') (fun _=>∀i r,ι i=some r->ι' i=some r):=⟨Inj.le.f⟩
structure MP where
 p:Inj->Value->Prop
 mono:∀ι ι' v,ι.le ι'->p ι v->p ι' v
 one:∀ι v,p ι v->v.oneCell'=true
 kp:List Nat
inductive AVal where
 |lit (v:Value)
 |any
 |top
 |str (l:List UInt8)
 |rope (r:List Nat)
 |lenr (r:List Nat)
 |ub (m:Nat)
 |rsl (id:Nat) (pre mid:List Nat) (cap:ACap)
 |ptr (id off:Nat)
 |slc (id off len:Nat) (cap:ACap)
 |map (id:Nat)
 |fn (f:Fn) (first captured:List AVal)
 |ifc (t:TypeId) (v:AVal)
 |agg (cs:List AVal)
 |tup (cs:List AVal)
 |sp (x:SId) (off:Nat)
 |ssl (x:SId) (off len:Nat)
 |smp (x:SId)
 |by_ (l:List UInt8)
 |bp (l:List UInt8) (k:Nat)
 |fam (f:Nat->AVal) (n:Nat)
 |fmp (f:Nat->AVal) (n k:Nat)
 |famx (f:Nat->AVal) (n:Nat)
 |fmw (f:Nat->List AVal) (wd n:Nat)
 |fwp (f:Nat->List AVal) (wd n k off:Nat)
 |fpt (cs:List AVal) (off:Nat)
 |ite (c:Bool) (a b:AVal)
 |e0
 |mp (q:MP)
def byteV (b:UInt8):Value:=.int .u8 b.toNat
def ACap.den (ι:Inj):ACap->Nat->Prop
 | .n k,c=>c=k
 | .u i s,c=>∃d,ι i=some d/\d<9223372036854775808/\c=d-s
 | .x,_=>True
def ATot.ok (ι:Inj):ATot->Nat->Prop
 | .n k,x=>k<=x
 | .u i m,x=>∃d,ι i=some d/\d*m<=x
def capFits (m:Nat):ACap->ATot->Bool
 | .n k,.n t=>Nat.ble (k*m) t&&Nat.blt k 9223372036854775808
 | .u i _,.u j m'=>Nat.beq i j&&Nat.beq m m'
 |_,_=>false
theorem capFits_ok {ι:Inj} {m:Nat} {a:ACap} {t:ATot} {c x:Nat} (h:capFits m a t=true) (ha:a.den ι c) (ht:t.ok ι x):c*m<=x:=by
 cases a with
 |n k=>
  cases t with
  |n t=>
   simp only[capFits,Bool.and_eq_true] at h
   cases ha;exact Nat.le_trans (Nat.le_of_ble_eq_true h.1) ht
  |u j m'=>cases h
 |u i s=>
  cases t with
  |n t=>cases h
  |u j m'=>
   simp only[capFits,Bool.and_eq_true] at h
   have h1:=Nat.eq_of_beq_eq_true h.1
   have h2:=Nat.eq_of_beq_eq_true h.2
   subst h1;subst h2
   obtain⟨d,hd,_,rfl⟩:=ha
   obtain⟨d',hd',hx⟩:=ht
   rw[hd] at hd';cases hd'
   exact Nat.le_trans (Nat.mul_le_mul_right _ (Nat.sub_le _ _)) hx
 |x=>cases h
theorem capFits_63 {ι:Inj} {m:Nat} {a:ACap} {t:ATot} {c:Nat} (h:capFits m a t=true) (ha:a.den ι c):c<9223372036854775808:=by
 cases a with
 |n k=>
  cases t with
  |n t=>
   simp only[capFits,Bool.and_eq_true] at h
   cases ha;exact Nat.le_of_ble_eq_true h.2
  |u j m'=>cases h
 |u i s=>
  obtain⟨d,_,h63,rfl⟩:=ha
  omega
 |x=>cases t<;>cases h
mutual
inductive Den (ι:Inj):AVal->Value->Prop where
 |lit {v:Value}:Den ι (.lit v) v
 |any {v:Value} (h:v.cells=#[v]) (h':v.oneCell'=true):Den ι .any v
 |top {v:Value}:Den ι .top v
 |str {l:List UInt8}:Den ι (.str l) (.string ⟨l.toArray⟩)
 |rope {r:List Nat}:Den ι (.rope r) (.string ⟨(flat r).toArray⟩)
 |lenr {r:List Nat}:Den ι (.lenr r) (.int .i64 (flat r).length)
 |ub {m:Nat} {b:UInt8} (h:hasBit m b.toNat=true):Den ι (.ub m) (.int .u8 b.toNat)
 |rsl {id:Nat} {pre mid:List Nat} {off' b c:Nat} {cap:ACap} (h:ι id=some b) (hl:(flat mid).length<=c) (ho:off'=(flat pre).length\/c=0) (hc:cap.den ι c):Den ι (.rsl id pre mid cap) (.slice (some ⟨b,off',none⟩) (flat mid).length c)
 |ptr {id off b:Nat} (h:ι id=some b):Den ι (.ptr id off) (.pointer (some ⟨b,off,none⟩))
 |slc {id off off' len b c:Nat} {cap:ACap} (h:ι id=some b) (hl:len<=c) (ho:off'=off\/c=0) (hc:cap.den ι c):Den ι (.slc id off len cap) (.slice (some ⟨b,off',none⟩) len c)
 |map {id b:Nat} (h:ι id=some b):Den ι (.map id) (.map (some b))
 |fn {f:Fn} {a b:List AVal} {x y:List Value} (h:DenL ι a x) (h':DenL ι b y):Den ι (.fn f a b) (.func f x.toArray y.toArray)
 |ifc {t:TypeId} {a:AVal} {x:Value} (h:Den ι a x):Den ι (.ifc t a) (.iface t x)
 |agg {a:List AVal} {x:List Value} (h:DenL ι a x):Den ι (.agg a) (.agg x.toArray)
 |tup {a:List AVal} {x:List Value} (h:DenL ι a x):Den ι (.tup a) (.tuple x.toArray)
 |sp {x:SId} {off r:Nat} (h:ι.ad x=some r):Den ι (.sp x off) (.pointer (some ⟨r,off,none⟩))
 |ssl {x:SId} {off len c r:Nat} (h:ι.ad x=some r) (hl:len<=c):Den ι (.ssl x off len) (.slice (some ⟨r,off,none⟩) len c)
 |smp {x:SId} {r:Nat} (h:ι.ad x=some r):Den ι (.smp x) (.map (some r))
 |by_ {l:List UInt8} {r c off:Nat} {pre rest:List Value} {e:TypeId} {fz:Nat×Nat} (h:ι.m r=some (.cells (pre++(l.map byteV++rest)).toArray e fz)) (hl:l.length<=c) (ho:off=pre.length):Den ι (.by_ l) (.slice (some ⟨r,off,none⟩) l.length c)
 |by0 {a:Option Addr} {c:Nat}:Den ι (.by_ []) (.slice a 0 c)
 |bp {l:List UInt8} {k r off:Nat} {pre rest:List Value} {e:TypeId} {fz:Nat×Nat} (h:ι.m r=some (.cells (pre++(l.map byteV++rest)).toArray e fz)) (ho:off=pre.length+k):Den ι (.bp l k) (.pointer (some ⟨r,off,none⟩))
 |fam {f:Nat->AVal} {n r c off:Nat} {pre vs rest:List Value} {e:TypeId} {fz:Nat×Nat} (h:ι.m r=some (.cells (pre++(vs++rest)).toArray e fz)) (hn:vs.length=n) (hv:∀k v,vs[k]?=some v->Den ι (f k) v) (hl:n<=c) (ho:off=pre.length):Den ι (.fam f n) (.slice (some ⟨r,off,none⟩) n c)
 |fam0 {f:Nat->AVal} {a:Option Addr} {c:Nat}:Den ι (.fam f 0) (.slice a 0 c)
 |fmp {f:Nat->AVal} {n k r off:Nat} {pre vs rest:List Value} {e:TypeId} {fz:Nat×Nat} (h:ι.m r=some (.cells (pre++(vs++rest)).toArray e fz)) (hn:vs.length=n) (hv:∀k v,vs[k]?=some v->Den ι (f k) v) (ho:off=pre.length+k):Den ι (.fmp f n k) (.pointer (some ⟨r,off,none⟩))
 |famx {f:Nat->AVal} {n:Nat} {a:Option Addr} (h:Den ι (.fam f n) (.slice a n n)):Den ι (.famx f n) (.slice a n n)
 |fmw {f:Nat->List AVal} {wd n r c off:Nat} {pre vs rest:List Value} {e:TypeId} {fz:Nat×Nat} (h:ι.m r=some (.cells (pre++(vs++rest)).toArray e fz)) (hn:vs.length=n*wd) (hv:∀k,k<n->DenL ι (f k) ((vs.drop (k*wd)).take wd)) (hl:n<=c) (ho:off=pre.length):Den ι (.fmw f wd n) (.slice (some ⟨r,off,none⟩) n c)
 |fmw0 {f:Nat->List AVal} {wd:Nat} {a:Option Addr} {c:Nat}:Den ι (.fmw f wd 0) (.slice a 0 c)
 |fwp {f:Nat->List AVal} {wd n k o r off:Nat} {pre vs rest:List Value} {e:TypeId} {fz:Nat×Nat} (h:ι.m r=some (.cells (pre++(vs++rest)).toArray e fz)) (hn:vs.length=n*wd) (hv:∀k,k<n->DenL ι (f k) ((vs.drop (k*wd)).take wd)) (hk:k<n) (ho:off=pre.length+(k*wd+o)):Den ι (.fwp f wd n k o) (.pointer (some ⟨r,off,none⟩))
 |fpt {cs:List AVal} {off r:Nat} {vs rest:List Value} {e:TypeId} {fz:Nat×Nat} (h:ι.m r=some (.cells (vs++rest).toArray e fz)) (hv:DenL ι cs vs):Den ι (.fpt cs off) (.pointer (some ⟨r,off,none⟩))
 |ite {c:Bool} {a b:AVal} {v:Value} (ht:c=true->Den ι a v) (hf:c=false->Den ι b v):Den ι (.ite c a b) v
 |e0 {a:Option Addr} {c:Nat}:Den ι .e0 (.slice a 0 c)
 |mp {q:MP} {v:Value} (h:q.p ι v):Den ι (.mp q) v
inductive DenL (ι:Inj):List AVal->List Value->Prop where
 |nil:DenL ι [] []
 |cons {a:AVal} {x:Value} {as:List AVal} {xs:List Value} (h:Den ι a x) (hs:DenL ι as xs):DenL ι (a::as) (x::xs)
end
def Inj.bare (ι:Inj) (p:Nat):Inj:=⟨fun i=>if i<p then ι i else none,ι.m,ι.ad⟩
theorem ACap.mono {ι ι':Inj} (hi:ι.le ι') {a:ACap} {c:Nat} (h:a.den ι c):a.den ι' c:=by
 cases a with
 |n k=>exact h
 |u i s=>
  obtain⟨d,hd,e⟩:=h
  exact⟨d,hi _ _ hd,e⟩
 |x=>trivial
theorem ATot.mono {ι ι':Inj} (hi:ι.le ι') {a:ATot} {c:Nat} (h:a.ok ι c):a.ok ι' c:=by
 cases a with
 |n k=>exact h
 |u i s=>
  obtain⟨d,hd,e⟩:=h
  exact⟨d,hi _ _ hd,e⟩
theorem Inj.le_refl (ι:Inj):ι.le ι:=⟨fun _ _ h=>h,fun _ _ h=>h,fun _ _ h=>h⟩
theorem Inj.le_trans {a b c:Inj} (h:a.le b) (h':b.le c):a.le c:=⟨fun i r x=>h' i r (h i r x),fun r o x=>h'.m r o (h.m r o x),fun x r e=>h'.ad x r (h.ad x r e)⟩
theorem Inj.bare_le (ι:Inj) (p:Nat):(ι.bare p).le ι:=⟨fun i r h=>by
 by_cases hi:i<p
 ·simpa[Inj.bare,hi] using h
 ·simp[Inj.bare,hi] at h,fun _ _ h=>h,fun _ _ h=>h⟩
theorem Inj.bare_mono {ι ι':Inj} (h:ι.le ι') (p:Nat):(ι.bare p).le (ι'.bare p):=⟨fun i r hr=>by
 by_cases hi:i<p
 ·have:ι i=some r:=by simpa[Inj.bare,hi] using hr
  simpa[Inj.bare,hi] using h i r this
 ·simp[Inj.bare,hi] at hr,h.m,h.ad⟩
mutual
theorem Den.mono {ι ι':Inj} (hi:ι.le ι'):∀{a v},Den ι a v->Den ι' a v
 |_,_,.lit=>.lit
 |_,_,.str=>.str
 |_,_,.any h h'=>.any h h'
 |_,_,.top=>.top
 |_,_,.rope=>.rope
 |_,_,.lenr=>.lenr
 |_,_,.ub h=>.ub h
 |_,_,.rsl h hl ho hc=>.rsl (hi _ _ h) hl ho (ACap.mono hi hc)
 |_,_,.ptr h=>.ptr (hi _ _ h)
 |_,_,.slc h hl ho hc=>.slc (hi _ _ h) hl ho (ACap.mono hi hc)
 |_,_,.map h=>.map (hi _ _ h)
 |_,_,.fn h h'=>.fn (DenL.mono hi h) (DenL.mono hi h')
 |_,_,.ifc h=>.ifc (Den.mono hi h)
 |_,_,.agg h=>.agg (DenL.mono hi h)
 |_,_,.tup h=>.tup (DenL.mono hi h)
 |_,_,.sp h=>.sp (hi.ad _ _ h)
 |_,_,.ssl h hl=>.ssl (hi.ad _ _ h) hl
 |_,_,.smp h=>.smp (hi.ad _ _ h)
 |_,_,.by_ h hl ho=>.by_ (hi.m _ _ h) hl ho
 |_,_,.by0=>.by0
 |_,_,.bp h ho=>.bp (hi.m _ _ h) ho
 |_,_,.fam h hn hv hl ho=>.fam (hi.m _ _ h) hn (fun k v hk=>Den.mono hi (hv k v hk)) hl ho
 |_,_,.fam0=>.fam0
 |_,_,.fmp h hn hv ho=>.fmp (hi.m _ _ h) hn (fun k v hk=>Den.mono hi (hv k v hk)) ho
 |_,_,.famx h=>.famx (Den.mono hi h)
 |_,_,.fmw h hn hv hl ho=>.fmw (hi.m _ _ h) hn (fun k hk=>DenL.mono hi (hv k hk)) hl ho
 |_,_,.fmw0=>.fmw0
 |_,_,.fwp h hn hv hk ho=>.fwp (hi.m _ _ h) hn (fun k hk=>DenL.mono hi (hv k hk)) hk ho
 |_,_,.fpt h hv=>.fpt (hi.m _ _ h) (DenL.mono hi hv)
 |_,_,.ite ht hf=>.ite (fun e=>Den.mono hi (ht e)) (fun e=>Den.mono hi (hf e))
 |_,_,.e0=>.e0
 |_,_,.mp (q:=q) h=>.mp (q.mono _ _ _ hi h)
theorem DenL.mono {ι ι':Inj} (hi:ι.le ι'):∀{a v},DenL ι a v->DenL ι' a v
 |_,_,.nil=>.nil
 |_,_,.cons h hs=>.cons (Den.mono hi h) (DenL.mono hi hs)
end
theorem DenL.length {ι:Inj}:∀{a v},DenL ι a v->a.length=v.length
 |_,_,.nil=>rfl
 |_,_,.cons _ hs=>by simp[DenL.length hs]
theorem DenL.get {ι:Inj}:∀{a v} (_:DenL ι a v) (i:Nat) {x:AVal},a[i]?=some x->∃y,v[i]?=some y/\Den ι x y
 |_,_,.nil,i,x,h=>by simp at h
 |_,_,.cons h hs,0,x,hx=>by simp at hx;subst hx;exact⟨_,rfl,h⟩
 |_,_,.cons h hs,i+1,x,hx=>by simpa using DenL.get hs i (by simpa using hx)
theorem DenL.append {ι:Inj}:∀{a v a' v'},DenL ι a v->DenL ι a' v'->DenL ι (a++a') (v++v')
 |_,_,_,_,.nil,h=>h
 |_,_,_,_,.cons h hs,h'=>.cons h (DenL.append hs h')
theorem DenL.take {ι:Inj}:∀{a v} (_:DenL ι a v) (n:Nat),DenL ι (a.take n) (v.take n)
 |_,_,_,0=>by simpa using DenL.nil
 |_,_,.nil,_+1=>by simpa using DenL.nil
 |_,_,.cons h hs,n+1=>by simpa using DenL.cons h (DenL.take hs n)
theorem DenL.drop {ι:Inj}:∀{a v} (_:DenL ι a v) (n:Nat),DenL ι (a.drop n) (v.drop n)
 |_,_,h,0=>by simpa using h
 |_,_,.nil,_+1=>by simpa using DenL.nil
 |_,_,.cons h hs,n+1=>by simpa using DenL.drop hs n
theorem DenL.set {ι:Inj}:∀{a v} (_:DenL ι a v) (i:Nat) {x y},Den ι x y->DenL ι (a.set i x) (v.set i y)
 |_,_,.nil,_,_,_,_=>by simpa using DenL.nil
 |_,_,.cons h hs,0,_,_,hx=>by simpa using DenL.cons hx hs
 |_,_,.cons h hs,i+1,_,_,hx=>by simpa using DenL.cons h (DenL.set hs i hx)
theorem DenL.lits {ι:Inj}:∀(l:List Value),DenL ι (l.map .lit) l
 |[]=>.nil
 |_::l=>.cons .lit (DenL.lits l)
theorem DenL.replicate {ι:Inj} {x y} (h:Den ι x y):∀n,DenL ι (List.replicate n x) (List.replicate n y)
 |0=>.nil
 |n+1=>by simpa[List.replicate_succ] using DenL.cons h (DenL.replicate h n)
def ofValue:Nat->Value->AVal
 |_,.string s=>.str s.data.toList
 |n+1,.iface t v=>.ifc t (ofValue n v)
 |n+1,.agg cs=>.agg (cs.toList.map (ofValue n))
 |n+1,.tuple cs=>.tup (cs.toList.map (ofValue n))
 |_,v=>.lit v
theorem DenL.map_of {ι:Inj} {f:Value->AVal} (h:∀v,Den ι (f v) v):∀(l:List Value),DenL ι (l.map f) l
 |[]=>.nil
 |_::l=>.cons (h _) (DenL.map_of h l)
theorem ofValue_den {ι:Inj}:∀(n:Nat) (v:Value),Den ι (ofValue n v) v:=by
 intro n
 induction n with
 |zero=>intro v;cases v<;>first|exact .lit|exact .str
 |succ n ih=>
  intro v
  cases v<;>first|exact .lit|exact .str|exact .ifc (ih _)|exact .agg (DenL.map_of ih _)|exact .tup (DenL.map_of ih _)
inductive ABlk where
 |row (cs:List AVal) (elem:TypeId) (tot:ATot)
 |bytes (l:List UInt8) (elem:TypeId) (tot:ATot)
 |rbytes (r:List Nat) (elem:TypeId) (tot:ATot)
 |fam (f:Nat->AVal) (n:Nat) (us:List (Nat×AVal)) (xs:List AVal) (elem:TypeId) (tot:ATot)
 |famw (f:Nat->List AVal) (wd n:Nat) (xs:List AVal) (elem:TypeId) (tot:ATot)
 |map (es:List (AVal×AVal×Nat)) (clock:Nat)
 |siter (l:List UInt8) (pos:Nat)
def famAt (f:Nat->AVal):List (Nat×AVal)->Nat->AVal
 |[],k=>f k
 |(i,v)::r,k=>.ite (Nat.beq k i) v (famAt f r k)
def EDen (ι:Inj):List (AVal×AVal×Nat)->List MapEntry->Prop
 |[],[]=>True
 |(k,v,n)::r,e::es=>Den ι k e.key/\Den ι v e.val/\e.born=n/\EDen ι r es
 |_,_=>False
def BDen (ι:Inj):ABlk->Obj->Prop
 | .row cs elem tot,o=>∃vs rest,o=.cells (vs++rest).toArray elem (0,0)/\DenL ι cs vs/\tot.ok ι (vs.length+rest.length)
 | .bytes l elem tot,o=>∃(rest:List Value) (fz:Nat×Nat),o=.cells ((l.map byteV)++rest).toArray elem fz/\tot.ok ι (l.length+rest.length)/\(∀k,k<l.length+rest.length->¬(fz.1<=k/\(k<fz.2\/fz.2<fz.1)))
 | .rbytes r elem tot,o=>∃(rest:List Value) (fz:Nat×Nat),o=.cells (((flat r).map byteV)++rest).toArray elem fz/\tot.ok ι ((flat r).length+rest.length)/\(∀k,k<(flat r).length+rest.length->¬(fz.1<=k/\(k<fz.2\/fz.2<fz.1)))
 | .fam f n us xs elem tot,o=>∃vs ys rest,o=.cells (vs++ys++rest).toArray elem (0,0)/\vs.length=n/\(∀k v,vs[k]?=some v->Den ι (famAt f us k) v)/\DenL ι xs ys/\tot.ok ι (vs.length+ys.length+rest.length)
 | .famw f wd n xs elem tot,o=>∃vs ys rest,o=.cells (vs++ys++rest).toArray elem (0,0)/\vs.length=n*wd/\(∀k,k<n->DenL ι (f k) ((vs.drop (k*wd)).take wd))/\DenL ι xs ys/\tot.ok ι (vs.length+ys.length+rest.length)
 | .map es clock,o=>∃entries:Array MapEntry,o=.map entries clock/\EDen ι es entries.toList
 | .siter l pos,o=>o=.stringIter ⟨l.toArray⟩ pos
theorem EDen.mono {ι ι':Inj} (hi:ι.le ι'):∀{a e},EDen ι a e->EDen ι' a e
 |[],[],_=>trivial
 |(_,_,_)::r,_::es,h=>⟨h.1.mono hi,h.2.1.mono hi,h.2.2.1,EDen.mono hi h.2.2.2⟩
 |[],_::_,h=>h
 |_::_,[],h=>by cases h
theorem BDen.mono {ι ι':Inj} (hi:ι.le ι'):∀{b o},BDen ι b o->BDen ι' b o
 | .row ..,_,⟨vs,rest,h,h',h''⟩=>⟨vs,rest,h,h'.mono hi,ATot.mono hi h''⟩
 | .bytes ..,_,⟨rest,fz,h,h',h''⟩=>⟨rest,fz,h,ATot.mono hi h',h''⟩
 | .rbytes ..,_,⟨rest,fz,h,h',h''⟩=>⟨rest,fz,h,ATot.mono hi h',h''⟩
 | .fam ..,_,⟨vs,ys,rest,h,hn,hv,hx,ht⟩=>⟨vs,ys,rest,h,hn,fun k v hk=>(hv k v hk).mono hi,hx.mono hi,ATot.mono hi ht⟩
 | .famw ..,_,⟨vs,ys,rest,h,hn,hv,hx,ht⟩=>⟨vs,ys,rest,h,hn,fun k hk=>(hv k hk).mono hi,hx.mono hi,ATot.mono hi ht⟩
 | .map ..,_,⟨e,h,h'⟩=>⟨e,h,h'.mono hi⟩
 | .siter ..,_,h=>h
inductive DItem where
 |one (g:Nat) (as:List AVal)
 |fam (g:Nat) (f:Nat->List AVal) (n:Nat)
structure AHeap where
 blks:Tr ABlk
 next:Nat
 defs:List DItem
 ros:List Nat
 st:SId->Option ABlk
def AHeap.get (H:AHeap) (id:Nat):Option ABlk:=H.blks.get id
def AHeap.set (H:AHeap) (id:Nat) (b:ABlk):AHeap:=⟨H.blks.set id (some b),H.next,H.defs,H.ros,H.st⟩
def AHeap.del (H:AHeap) (id:Nat):AHeap:=⟨H.blks.set id none,H.next,H.defs,H.ros,H.st⟩
def AHeap.new (H:AHeap) (b:ABlk):AHeap:=⟨H.blks.set H.next (some b),Nat.succ H.next,H.defs,H.ros,H.st⟩
def AHeap.nm (H:AHeap):AHeap:=⟨H.blks,Nat.succ H.next,H.defs,H.ros,H.st⟩
def AHeap.withD (H:AHeap) (ds:List DItem):AHeap:=⟨H.blks,H.next,ds,H.ros,H.st⟩
theorem AHeap.get_set (H:AHeap) (id:Nat) (b:ABlk) (j:Nat):(H.set id b).get j=if j=id then some b else H.get j:=Tr.get_set ..
theorem AHeap.get_del (H:AHeap) (id j:Nat):(H.del id).get j=if j=id then none else H.get j:=Tr.get_set ..
theorem AHeap.get_new (H:AHeap) (b:ABlk) (j:Nat):(H.new b).get j=if j=H.next then some b else H.get j:=Tr.get_set ..
def hasN:List Nat->Nat->Bool
 |[],_=>false
 |x::r,i=>cond (Nat.beq x i) true (hasN r i)
def AHeap.isRo (H:AHeap) (id:Nat):Bool:=hasN H.ros id
structure Fp where
 w:Nat->Prop
 r:Nat->Prop
 z:Nat->Prop
structure Fz (w0:World) (F0:Fp) (ι:Inj) (H:AHeap) (w:World):Prop where
 frz:∀r o,ι.m r=some o->w.heap[r]?=some o/\(F0.z r\/F0.w r\/w0.heap.size<=r)
 nofz:∀k b r,H.get k=some b->ι k=some r->ι.m r=none
 st:∀x b r,H.st x=some b->ι.ad x=some r->∃o,ι.m r=some o/\BDen (ι.bare 0) b o
 stinj:∀x y r,ι.ad x=some r->ι.ad y=some r->x=y
 stad:∀x r,ι.ad x=some r->∃b,H.st x=some b
structure Inv (w0:World) (F0:Fp) (ι:Inj) (H:AHeap) (w:World):Prop where
 blk:∀id b,H.get id=some b->∃r o,ι id=some r/\w.heap[r]?=some o/\BDen ι b o/\(F0.w r\/w0.heap.size<=r\/(F0.r r/\H.isRo id=true))
 inj:∀i j b c r,H.get i=some b->H.get j=some c->ι i=some r->ι j=some r->i=j
 fresh:∀id,H.next<=id->ι id=none
 frame:∀r,r<w0.heap.size->¬F0.w r->w.heap[r]?=w0.heap[r]?
 size:w0.heap.size<=w.heap.size
 tape:w.tape=w0.tape
 os:w.os=w0.os
 output:w.output=w0.output
 glob:Syms.good w0/\∀r,r<Syms.ng->r<w0.heap.size/\¬F0.w r
 fz:Fz w0 F0 ι H w
theorem Inv.good {w0:World} {F0:Fp} {ι:Inj} {H:AHeap} {w:World} (h:Inv w0 F0 ι H w):Syms.good w:=
 Syms.mono w0 w (fun r hr=>h.frame r (h.glob.2 r hr).1 (h.glob.2 r hr).2) h.glob.1
def Ok (w0:World) (F0:Fp) (ι:Inj) (K:AVal->AHeap->Prop):Result Value->Prop
 | .ok v w'=>∃a H' ι',K a H'/\Den ι' a v/\ι.le ι'/\Inv w0 F0 ι' H' w'
 | .halt _ _=>False
theorem Inv.drew {w0:World} {F0:Fp} {ι:Inj} {H:AHeap} {w:World} (h:Inv w0 F0 ι H w) (n:Nat):Inv w0 F0 ι H {w with drawn:=n}:=
 ⟨h.blk,h.inj,h.fresh,h.frame,h.size,h.tape,h.os,h.output,h.glob,⟨h.fz.frz,h.fz.nofz,h.fz.st,h.fz.stinj,h.fz.stad⟩⟩
theorem Inv.withD {w0:World} {F0:Fp} {ι:Inj} {H:AHeap} {w:World} (h:Inv w0 F0 ι H w) (ds:List DItem):Inv w0 F0 ι (H.withD ds) w:=
 ⟨h.blk,h.inj,h.fresh,h.frame,h.size,h.tape,h.os,h.output,h.glob,⟨h.fz.frz,h.fz.nofz,h.fz.st,h.fz.stinj,h.fz.stad⟩⟩
theorem Inv.new {w0:World} {F0:Fp} {ι:Inj} {H:AHeap} {w:World} (h:Inv w0 F0 ι H w) {b:ABlk} {o:Obj} (hb:BDen ι b o):
 ∃ι',ι.le ι'/\ι' H.next=some w.heap.size/\Inv w0 F0 ι' (H.new b) {w with heap:=w.heap.push o}:=by
 have hn:ι H.next=none:=h.fresh _ (Nat.le_refl _)
 let ι':Inj:=⟨fun i=>if i=H.next then some w.heap.size else ι i,ι.m,ι.ad⟩
 have hle:ι.le ι':=⟨fun i r hi=>by
  by_cases e:i=H.next
  ·subst e;rw[hn] at hi;cases hi
  ·simp[ι',e,hi],fun _ _ h=>h,fun _ _ h=>h⟩
 have hsz:=h.size
 have hlt:∀r o,ι.m r=some o->r<w.heap.size:=fun r o hm=>by
  have:=(h.fz.frz r o hm).1
  rcases Nat.lt_or_ge r w.heap.size with h'|h'
  ·exact h'
  ·simp[Array.getElem?_eq_none h'] at this
 refine⟨ι',hle,by simp[ι'],?_,?_,?_,?_,?_,h.tape,h.os,h.output,h.glob,⟨?_,?_,?_,h.fz.stinj,h.fz.stad⟩⟩
 rotate_left 5
 ·intro r o hm
  obtain⟨h1,h2⟩:=h.fz.frz r o hm
  have:=hlt r o hm
  refine⟨?_,h2⟩
  simp only[Array.getElem?_push]
  rw[if_neg (by omega)]
  exact h1
 ·intro k c r hc hr
  rw[AHeap.get_new] at hc
  by_cases e:k=H.next
  ·have hr':w.heap.size=r:=by simpa[ι',e] using hr
   cases hm:ι.m r with
   |none=>rfl
   |some o=>have:=hlt r o hm;omega
  ·rw[if_neg e] at hc
   exact h.fz.nofz k c r hc (by simpa[ι',e] using hr)
 ·intro x c r hx hr
  obtain⟨o',h1,h2⟩:=h.fz.st x c r hx hr
  exact⟨o',h1,h2.mono (Inj.bare_mono hle 0)⟩
 ·intro id c hc
  rw[AHeap.get_new] at hc
  by_cases e:id=H.next
  ·rw[if_pos e] at hc
   cases hc
   refine⟨w.heap.size,o,by simp[ι',e],by simp,hb.mono hle,.inr (.inl hsz)⟩
  ·rw[if_neg e] at hc
   obtain⟨r,o',hr,ho,hbd,hf⟩:=h.blk id c hc
   refine⟨r,o',hle _ _ hr,?_,hbd.mono hle,hf⟩
   have hlt:r<w.heap.size:=by
    rcases Nat.lt_or_ge r w.heap.size with h'|h'
    ·exact h'
    ·simp[Array.getElem?_eq_none h'] at ho
   simp only[Array.getElem?_push]
   rw[if_neg (by omega)]
   exact ho
 ·intro i j bi bj r hi hj hri hrj
  rw[AHeap.get_new] at hi hj
  have old:∀k c,k≠H.next->H.get k=some c->ι' k=some r->ι k=some r/\r<w.heap.size:=by
   intro k c hk hg hr
   have:ι k=some r:=by simpa[ι',hk] using hr
   obtain⟨r',o',hr',ho,_⟩:=h.blk k c hg
   rw[this] at hr';cases hr'
   refine⟨this,?_⟩
   rcases Nat.lt_or_ge r w.heap.size with h'|h'
   ·exact h'
   ·simp[Array.getElem?_eq_none h'] at ho
  by_cases ei:i=H.next<;>by_cases ej:j=H.next
  ·rw[ei,ej]
  ·rw[if_neg ej] at hj
   have:=(old j bj ej hj hrj).2
   have:r=w.heap.size:=by rw[ei] at hri;simpa[ι'] using hri.symm
   omega
  ·rw[if_neg ei] at hi
   have:=(old i bi ei hi hri).2
   have:r=w.heap.size:=by rw[ej] at hrj;simpa[ι'] using hrj.symm
   omega
  ·rw[if_neg ei] at hi;rw[if_neg ej] at hj
   exact h.inj i j bi bj r hi hj (old i bi ei hi hri).1 (old j bj ej hj hrj).1
 ·intro id hid
  have:id≠H.next:=fun e=>by subst e;simp[AHeap.new] at hid;omega
  simp only[ι',if_neg this]
  exact h.fresh id (by simp[AHeap.new] at hid;omega)
 ·intro r hr hf
  simp only[Array.getElem?_push]
  rw[if_neg (by omega)]
  exact h.frame r hr hf
 ·simp;omega
theorem Inv.name {w0:World} {F0:Fp} {ι:Inj} {H:AHeap} {w:World} (h:Inv w0 F0 ι H w) (c:Nat):∃ι',ι.le ι'/\ι' H.next=some c/\Inv w0 F0 ι' H.nm w:=by
 have hn:ι H.next=none:=h.fresh _ (Nat.le_refl _)
 let ι':Inj:=⟨fun i=>if i=H.next then some c else ι i,ι.m,ι.ad⟩
 have hle:ι.le ι':=⟨fun i r hi=>by
  by_cases e:i=H.next
  ·subst e;rw[hn] at hi;cases hi
  ·simp[ι',e,hi],fun _ _ h=>h,fun _ _ h=>h⟩
 have back:∀{i b r},H.get i=some b->ι' i=some r->ι i=some r:=by
  intro i b r hg hr
  by_cases e:i=H.next
  ·subst e
   obtain⟨r0,_,hr0,_⟩:=h.blk _ _ hg
   rw[hn] at hr0;cases hr0
  ·simpa[ι',e] using hr
 refine⟨ι',hle,by simp[ι'],?_,?_,?_,h.frame,h.size,h.tape,h.os,h.output,h.glob,⟨h.fz.frz,fun k b r hk hr=>h.fz.nofz k b r hk (back hk hr),fun x b r hx hr=>?_,h.fz.stinj,h.fz.stad⟩⟩
 rotate_left 3
 ·obtain⟨o,h1,h2⟩:=h.fz.st x b r hx hr
  exact⟨o,h1,h2.mono (Inj.bare_mono hle 0)⟩
 ·intro id b hg
  obtain⟨r,o,hr,ho,hb,hf⟩:=h.blk id b hg
  exact⟨r,o,hle _ _ hr,ho,hb.mono hle,hf⟩
 ·intro i j b c' r hi hj h1 h2
  exact h.inj i j b c' r hi hj (back hi h1) (back hj h2)
 ·intro id hid
  have hid:H.next+1<=id:=hid
  have:id≠H.next:=by omega
  simp only[ι',if_neg this]
  exact h.fresh id (by omega)
theorem Inv.set {w0:World} {F0:Fp} {ι:Inj} {H:AHeap} {w:World} (h:Inv w0 F0 ι H w) {id r:Nat} {b b':ABlk} {o':Obj} (hg:H.get id=some b) (hr:ι id=some r) (hro:H.isRo id=false)
 (hb:BDen ι b' o') {w':World} (hw:w'.heap[r]?=some o') (hoth:∀k,k≠r->w'.heap[k]?=w.heap[k]?) (hsz:w'.heap.size=w.heap.size) (ht:w'.tape=w.tape) (hos:w'.os=w.os) (hout:w'.output=w.output):
 Inv w0 F0 ι (H.set id b') w':=by
 obtain⟨r0,o0,hr0,ho0,_,hf0⟩:=h.blk id b hg
 rw[hr] at hr0;cases hr0
 have hnm:ι.m r=none:=h.fz.nofz id b r hg hr
 refine⟨?_,?_,h.fresh,?_,by rw[hsz];exact h.size,ht.trans h.tape,hos.trans h.os,hout.trans h.output,h.glob,⟨fun k o hm=>?_,fun k c x hk hx=>?_,h.fz.st,h.fz.stinj,h.fz.stad⟩⟩
 rotate_left 3
 ·obtain⟨h1,h2⟩:=h.fz.frz k o hm
  refine⟨?_,h2⟩
  rw[hoth k (fun e=>by rw[e,hnm] at hm;cases hm)]
  exact h1
 ·rw[AHeap.get_set] at hk
  by_cases e:k=id
  ·subst e
   rw[hr] at hx;cases hx
   exact hnm
  ·rw[if_neg e] at hk
   exact h.fz.nofz k c x hk hx
 ·intro j c hc
  rw[AHeap.get_set] at hc
  by_cases e:j=id
  ·subst e
   rw[if_pos rfl] at hc
   cases hc
   exact⟨r,o',hr,hw,hb,hf0⟩
  ·rw[if_neg e] at hc
   obtain⟨r1,o1,hr1,ho1,hb1,hf1⟩:=h.blk j c hc
   have hne:r1≠r:=fun e'=>e (h.inj j id c b r hc hg (e'▸hr1) hr)
   exact⟨r1,o1,hr1,by rw[hoth r1 hne];exact ho1,hb1,hf1⟩
 ·intro i j bi bj r' hi hj hri hrj
  rw[AHeap.get_set] at hi hj
  have back:∀k c,(if k=id then some b' else H.get k)=some c->∃c',H.get k=some c':=by
   intro k c hk
   by_cases e:k=id
   ·subst e;exact⟨b,hg⟩
   ·rw[if_neg e] at hk;exact⟨c,hk⟩
  obtain⟨ci,hci⟩:=back i bi hi
  obtain⟨cj,hcj⟩:=back j bj hj
  exact h.inj i j ci cj r' hci hcj hri hrj
 ·intro k hk hf
  have hne:k≠r:=fun e=>by
   subst e
   rcases hf0 with hf0|hf0|hf0
   ·exact hf hf0
   ·omega
   ·rw[hro] at hf0;cases hf0.2
  rw[hoth k hne]
  exact h.frame k hk hf
theorem Inv.del {w0:World} {F0:Fp} {ι:Inj} {H:AHeap} {w:World} (h:Inv w0 F0 ι H w) (id:Nat):Inv w0 F0 ι (H.del id) w:=by
 refine⟨?_,?_,h.fresh,h.frame,h.size,h.tape,h.os,h.output,h.glob,⟨h.fz.frz,fun k c x hk hx=>?_,h.fz.st,h.fz.stinj,h.fz.stad⟩⟩
 rotate_left 2
 ·rw[AHeap.get_del] at hk
  by_cases e:k=id
  ·simp[e] at hk
  ·rw[if_neg e] at hk;exact h.fz.nofz k c x hk hx
 ·intro j c hc
  rw[AHeap.get_del] at hc
  by_cases e:j=id
  ·simp[e] at hc
  ·rw[if_neg e] at hc;exact h.blk j c hc
 ·intro i j bi bj r hi hj hri hrj
  rw[AHeap.get_del] at hi hj
  by_cases ei:i=id
  ·simp[ei] at hi
  by_cases ej:j=id
  ·simp[ej] at hj
  rw[if_neg ei] at hi;rw[if_neg ej] at hj
  exact h.inj i j bi bj r hi hj hri hrj
end Go.Sx
