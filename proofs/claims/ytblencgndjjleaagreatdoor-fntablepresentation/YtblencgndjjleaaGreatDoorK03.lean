/- Lemmas of this claim; the last text says what is proved. -/
import Derived.Test.YtblencgndjjleaaGreatDoorK02
set_option linter.all false
namespace Go.Sx
open Go
variable [Syms]
def g_O:Nat->Nat->Nat
 |0,b=>b
 |a+1,b=>(a+1)+b
theorem b_K(a b:Nat):g_O a b=a+b:=by cases a<;>simp[g_O]
def p_U(n:Nat):Nat->Nat
 |1=>n
 |m=>n*m
theorem c_3(n m:Nat):p_U n m=n*m:=by unfold p_U;split<;>simp
section
variable {P:Program} {w0 w:World} {F0:Fp} {ι:Inj} {H:AHeap}
theorem b_h(r off n:Nat):(⟨r,off,none⟩:Addr).add n=⟨r,off+n,none⟩:=by
 unfold Addr.add;split
 ·next h0=>subst h0;rfl
 ·rfl
def l_A(P:Program)(s:TypeId)(f:Nat):Option Nat:=match P.underlying s with
 |some (.struct fs)=>match h_R fs.toList f with
  |some fld=>match szA P fld.type with
   |some (_+1)=>some fld.offset
   |_=>none
  |none=>none
 |_=>none
theorem d_H{s:TypeId}{f d r off:Nat}(h:l_A P s f=some d):(Instr.fieldAt s (.pointer (some ⟨r,off,none⟩)) f).run P w=.ok (.pointer (some ⟨r,off+d,none⟩)) w:=by
 unfold l_A at h
 split at h
 ·rename_i fs hu
  split at h
  ·rename_i fld hf
   split at h
   ·rename_i n hs
    cases h
    rw[b_J] at hf
    have hf':fs[f]?=some fld:=by simpa using hf
    simp only[Instr.fieldAt,Sem.run_bind,a_a hu,Result.andThen_ok,hf',Instr.sureAddr,Sem.run_pure,fieldPlace,a_q hs,Sem.run_ite,Nat.add_eq_zero_iff,Nat.one_ne_zero,and_false,if_false]
    simp[b_h]
   ·cases h
  ·cases h
 ·cases h
def c_C(P:Program)(s:TypeId)(a:AVal)(f:Nat)(K:AVal->Prop):Prop:=
 match l_A P s f with
 |some d=>match a with
  | .ptr id off=>K (.ptr id (g_O off d))
  | .sp x off=>K (.sp x (g_O off d))
  | .fpt cs off=>K (.fpt cs (g_O off d))
  | .fwp f wd n k off=>K (.fwp f wd n k (g_O off d))
  |_=>False
 |none=>False
theorem d_I{s:TypeId}{a:AVal}{v:Value}{f:Nat}{K:AVal->Prop}(h:c_C P s a f K)(hd:Den ι a v):∃x y,(∀w:World,(Instr.fieldAt s v f).run P w=.ok y w)/\Den ι x y/\K x:=by
 unfold c_C at h
 split at h
 ·rename_i d hd'
  cases hd with
  |@ptr id off r hr=>exact⟨_,_,fun w=>d_H hd',by rw[b_K];exact .ptr hr,h⟩
  |sp had=>exact⟨_,_,fun w=>d_H hd',by rw[b_K];exact .sp had,h⟩
  |fpt hm hv=>exact⟨_,_,fun w=>d_H hd',by rw[b_K];exact .fpt hm hv,h⟩
  |fwp hm hn hv hk ho=>exact⟨_,_,fun w=>d_H hd',by rw[b_K];exact .fwp hm hn hv hk ac,h⟩
  |_=>exact h.elim
 ·exact h.elim
theorem g_P{s:TypeId}{a:AVal}{v:Value}{f:Nat}{K:AVal->AHeap->Prop}(h:c_C P s a f (fun x=>K x H))(hi:Inv w0 F0 ι H w)(hd:Den ι a v):Ok w0 F0 ι K ((Instr.fieldAt s v f).run P w):=by
 obtain⟨x,y,hrun,hden,hK⟩:=d_I h hd
 rw[hrun w]
 exact⟨_,_,ι,hK,hden,Inj.le_refl _,hi⟩
def t_n:AVal->Option (List AVal)
 | .agg cs=>some cs
 | .lit (.agg c)=>some (c.toList.map (ofValue 2))
 |_=>none
theorem l_B{a:AVal}{v:Value}{cs:List AVal}(h:t_n a=some cs)(hd:Den ι a v):∃c:Array Value,v=.agg c/\DenL ι cs c.toList:=by
 cases hd with
 |agg hs=>simp[t_n] at h;subst h;exact⟨_,rfl,hs⟩
 |lit=>cases v<;>simp[t_n] at h;subst h;exact⟨_,rfl,DenL.map_of (a_Q 2) _⟩
 |_=>simp[t_n] at h
def o_P(P:Program)(t:TypeId)(cs:List AVal)(off:Nat)(K:AVal->Prop):Prop:=
 match k_k P t with
 |some (some n)=>K (.agg ((cs.drop off).take n))
 |some none=>match h_R cs off with
  |some v=>K v
  |none=>False
 |none=>False
theorem j_t{t:TypeId}{cs:List AVal}{c:Array Value}{off:Nat}{K:AVal->Prop}(h:o_P P t cs off K)(hd:DenL ι cs c.toList):
 ∃a v,(part t c off).run P w=.ok v w/\Den ι a v/\K a:=by
 unfold o_P at h
 split at h
 ·rename_i n ha
  have:=h_S (w:=w) ha
  refine⟨_,.agg (c.extract off (off+n)),?_,?_,h⟩
  ·simp only[part,Sem.run_bind,this.1,Result.andThen_ok,if_true,a_q this.2,Sem.run_pure]
  ·have e:c.extract off (off+n)=((c.toList.drop off).take n).toArray:=by
    simp[←Array.toList_inj,List.drop_take]
   rw[e]
   exact .agg ((hd.drop off).take n)
 ·rename_i ha
  split at h
  ·rename_i x hx
   rw[b_J] at hx
   obtain⟨y,hy,hden⟩:=hd.get off hx
   have hy':c[off]?=some y:=by simpa using hy
   refine⟨x,y,?_,hden,h⟩
   simp[part,h_T ha,hy']
  ·exact h.elim
 ·exact h.elim
def l_C(P:Program)(t:TypeId)(x:AVal)(f:Nat)(K:AVal->Prop):Prop:=
 match t_n x,P.underlying t with
 |some cs,some (.struct fs)=>match h_R fs.toList f with
  |some fld=>o_P P fld.type cs fld.offset (fun v=>k_j 4 v K)
  |none=>False
 |_,_=>False
theorem l_D{t:TypeId}{a:AVal}{v:Value}{f:Nat}{K:AVal->AHeap->Prop}(h:l_C P t a f (fun x=>K x H))(hi:Inv w0 F0 ι H w)(hd:Den ι a v):Ok w0 F0 ι K ((Instr.field t v f).run P w):=by
 unfold l_C at h
 split at h
 ·rename_i cs fs hcs hu
  obtain⟨c,rfl,hc⟩:=l_B hcs hd
  split at h
  ·rename_i fld hf
   rw[b_J] at hf
   have hf':fs[f]?=some fld:=by simpa using hf
   obtain⟨x,y,hrun,hden,hK⟩:=j_t (w:=w) h hc
   obtain⟨x,hden,hK⟩:=b_2 hK hden
   simp only[Instr.field,Sem.run_bind,a_a hu,Result.andThen_ok,hf',asAgg,Sem.run_pure,hrun]
   exact⟨_,_,ι,hK,hden,Inj.le_refl _,hi⟩
  ·exact h.elim
 ·exact h.elim
def c_D(P:Program)(t:TypeId)(x i:AVal)(K:AVal->Prop):Prop:=
 match i with
 | .lit (.int _ n)=>match P.underlying t with
   |some (.slice e)=>match szA P e with
    |some sz=>match x with
     | .slc id off len _=>gd (decide (0<=n)&&decide (n<(len:Int))) (K (.ptr id (g_O off (p_U n.toNat sz))))
     | .ssl x off len=>gd (decide (0<=n)&&decide (n<(len:Int))) (K (.sp x (g_O off (p_U n.toNat sz))))
     | .by_ l=>gd (Nat.beq sz 1&&(decide (0<=n)&&decide (n<(l.length:Int)))) (K (.bp l n.toNat))
     | .fam f m=>gd (Nat.beq sz 1&&(decide (0<=n)&&decide (n<(m:Int)))) (K (.fmp f m n.toNat))
     | .famx f m=>gd (Nat.beq sz 1&&(decide (0<=n)&&decide (n<(m:Int)))) (K (.fmp f m n.toNat))
     | .fmw f wd m=>gd (Nat.beq sz wd&&(decide (0<=n)&&decide (n<(m:Int)))) (K (.fwp f wd m n.toNat 0))
     |_=>False
    |none=>False
   |some (.array len e)=>match szA P e with
    |some sz=>match x with
     | .ptr id off=>gd (decide (0<=n)&&decide (n<(len:Int))) (K (.ptr id (g_O off (p_U n.toNat sz))))
     | .sp x off=>gd (decide (0<=n)&&decide (n<(len:Int))) (K (.sp x (g_O off (p_U n.toNat sz))))
     | .lit (.pointer (some ⟨g,off,none⟩))=>gd (decide (0<=n)&&decide (n<(len:Int))) (K (.lit (.pointer (some ⟨g,g_O off (p_U n.toNat sz),none⟩))))
     |_=>False
    |none=>False
   |_=>False
 |_=>False
theorem b_L{t e:TypeId}{k:IntKind}{n:Int}{r off len c sz:Nat}(hu:P.underlying t=some (.slice e))(hs:szA P e=some sz)(h0:0<=n)(h1:n<(len:Int)):(Instr.indexAt t (.slice (some ⟨r,off,none⟩) len c) (.int k n)).run P w=.ok (.pointer (some ⟨r,off+n.toNat*sz,none⟩)) w:=by
 simp only[Instr.indexAt,asIntOf,Sem.run_bind,Sem.run_pure,Result.andThen_ok,a_a hu,Sem.run_ite]
 rw[if_pos ⟨h0,h1⟩]
 simp only[a_q hs,Result.andThen_ok,Sem.run_pure,b_h]
theorem d_x{t e:TypeId}{k:IntKind}{n:Int}{r off len sz:Nat}(hu:P.underlying t=some (.array len e))(hs:szA P e=some sz)(h0:0<=n)(h1:n<(len:Int)):(Instr.indexAt t (.pointer (some ⟨r,off,none⟩)) (.int k n)).run P w=.ok (.pointer (some ⟨r,off+n.toNat*sz,none⟩)) w:=by
 simp only[Instr.indexAt,asIntOf,Sem.run_bind,Sem.run_pure,Result.andThen_ok,a_a hu,Instr.sureAddr,Sem.run_ite]
 rw[if_pos ⟨h0,h1⟩]
 simp only[a_q hs,Result.andThen_ok,Sem.run_pure,b_h]
theorem d_J{t:TypeId}{a b:AVal}{x y:Value}{K:AVal->Prop}(h:c_D P t a b K)(hd:Den ι a x)(hd':Den ι b y):∃c z,(∀w:World,(Instr.indexAt t x y).run P w=.ok z w)/\Den ι c z/\K c:=by
 unfold c_D at h
 split at h
 ·rename_i k n
  cases hd'
  split at h
  ·rename_i e hu
   split at h
   ·rename_i sz hs
    cases hd with
    |@slc id off off' len r c cap hr hl ho hcap=>
     obtain⟨hc,hK⟩:=a_h h
     simp only[Bool.and_eq_true,decide_eq_true_eq] at hc
     have ho':off'=off:=by
      rcases ho with ho|ho
      ·exact ho
      ·omega
     subst ho'
     exact⟨_,_,fun w=>b_L hu hs hc.1 hc.2,by rw[b_K,c_3];exact .ptr hr,hK⟩
    |ssl had hl=>
     obtain⟨hc,hK⟩:=a_h h
     simp only[Bool.and_eq_true,decide_eq_true_eq] at hc
     exact⟨_,_,fun w=>b_L hu hs hc.1 hc.2,by rw[b_K,c_3];exact .sp had,hK⟩
    |@by_ l r c off pre rest e fz hm hl ho=>
     obtain⟨hc,hK⟩:=a_h h
     simp only[Bool.and_eq_true,decide_eq_true_eq] at hc
     subst ho
     have h1:=Nat.eq_of_beq_eq_true hc.1
     subst h1
     exact⟨_,_,fun w=>b_L hu hs hc.2.1 hc.2.2,.bp hm (by rw[Nat.mul_one]),hK⟩
    |by0=>
     obtain⟨hc,hK⟩:=a_h h
     simp only[Bool.and_eq_true,decide_eq_true_eq,List.length_nil] at hc
     omega
    |@fam f m r c off pre vs rest e fz hm hn hv hl ho=>
     obtain⟨hc,hK⟩:=a_h h
     simp only[Bool.and_eq_true,decide_eq_true_eq] at hc
     subst ho
     have h1:=Nat.eq_of_beq_eq_true hc.1
     subst h1
     exact⟨_,_,fun w=>b_L hu hs hc.2.1 hc.2.2,.fmp hm hn hv (by rw[Nat.mul_one]),hK⟩
    |fam0=>
     obtain⟨hc,hK⟩:=a_h h
     simp only[Bool.and_eq_true,decide_eq_true_eq] at hc
     omega
    |famx hd=>
     obtain⟨hc,hK⟩:=a_h h
     simp only[Bool.and_eq_true,decide_eq_true_eq] at hc
     have h1:=Nat.eq_of_beq_eq_true hc.1
     subst h1
     cases hd with
     |fam hm hn hv hl ho=>
      subst ho
      exact⟨_,_,fun w=>b_L hu hs hc.2.1 hc.2.2,.fmp hm hn hv (by rw[Nat.mul_one]),hK⟩
     |fam0=>omega
    |@fmw f wd m r c off pre vs rest e fz hm hn hv hl ho=>
     obtain⟨hc,hK⟩:=a_h h
     simp only[Bool.and_eq_true,decide_eq_true_eq] at hc
     subst ho
     have h1:=Nat.eq_of_beq_eq_true hc.1
     subst h1
     exact⟨_,_,fun w=>b_L hu hs hc.2.1 hc.2.2,.fwp hm hn hv ac ac,hK⟩
    |fmw0=>
     obtain⟨hc,hK⟩:=a_h h
     simp only[Bool.and_eq_true,decide_eq_true_eq] at hc
     omega
    |_=>exact h.elim
   ·exact h.elim
  ·rename_i len e hu
   split at h
   ·rename_i sz hs
    cases hd with
    |@ptr id off r hr=>
     obtain⟨hc,hK⟩:=a_h h
     simp only[Bool.and_eq_true,decide_eq_true_eq] at hc
     exact⟨_,_,fun w=>d_x hu hs hc.1 hc.2,by rw[b_K,c_3];exact .ptr hr,hK⟩
    |sp had=>
     obtain⟨hc,hK⟩:=a_h h
     simp only[Bool.and_eq_true,decide_eq_true_eq] at hc
     exact⟨_,_,fun w=>d_x hu hs hc.1 hc.2,by rw[b_K,c_3];exact .sp had,hK⟩
    |@lit v=>
     split at h<;>first
      |(rename_i heq;cases heq;done)
      |skip
     ·rename_i g off heq
      cases heq
      obtain⟨hc,hK⟩:=a_h h
      simp only[Bool.and_eq_true,decide_eq_true_eq] at hc
      exact⟨_,_,fun w=>d_x hu hs hc.1 hc.2,by rw[b_K,c_3];exact .lit,hK⟩
     ·exact h.elim
    |_=>exact h.elim
   ·exact h.elim
  ·exact h.elim
 ·exact h.elim
theorem g_Q{t:TypeId}{a b:AVal}{x y:Value}{K:AVal->AHeap->Prop}(h:c_D P t a b (fun x=>K x H))(hi:Inv w0 F0 ι H w)(hd:Den ι a x)(hd':Den ι b y):Ok w0 F0 ι K ((Instr.indexAt t x y).run P w):=by
 obtain⟨x,y,hrun,hden,hK⟩:=d_J h hd hd'
 rw[hrun w]
 exact⟨_,_,ι,hK,hden,Inj.le_refl _,hi⟩
def l_E(P:Program)(t:TypeId)(x i:AVal)(K:AVal->Prop):Prop:=
 match i with
 | .lit (.int _ n)=>match P.underlying t,x with
   |some .string,.str l=>gd (decide (0<=n)&&decide (n<(l.length:Int))) (K (.lit (a_v (l.getD n.toNat 0))))
   |some .string,.rope r=>gd (decide (0<=n)) (j_p r n.toNat K)
   |_,_=>False
 |_=>False
theorem l_F{t:TypeId}{a b:AVal}{x y:Value}{K:AVal->AHeap->Prop}(h:l_E P t a b (fun x=>K x H))(hi:Inv w0 F0 ι H w)(hd:Den ι a x)(hd':Den ι b y):Ok w0 F0 ι K ((Instr.index t x y).run P w):=by
 unfold l_E at h
 split at h
 ·rename_i k n
  cases hd'
  split at h
  ·rename_i l hu
   obtain⟨hc,hK⟩:=a_h h
   simp only[Bool.and_eq_true,decide_eq_true_eq] at hc
   cases hd
   have hlt:n.toNat<l.length:=ac
   have hget:(⟨l.toArray⟩:ByteArray)[n.toNat]?=some l[n.toNat]:=by
    have hsz:n.toNat<(⟨l.toArray⟩:ByteArray).size:=by simpa[ByteArray.size] using hlt
    exact(getElem?_pos (⟨l.toArray⟩:ByteArray) n.toNat hsz).trans rfl
   simp only[Instr.index,asIntOf,Sem.run_bind,Sem.run_pure,Result.andThen_ok,a_a hu]
   rw[if_pos hc.1,hget]
   refine⟨_,_,ι,hK,?_,Inj.le_refl _,hi⟩
   simp only[List.getD,List.getElem?_eq_getElem hlt,Option.getD_some]
   exact .lit
  ·rename_i r hu
   obtain⟨hc,hK⟩:=a_h h
   simp only[decide_eq_true_eq] at hc
   cases hd
   obtain⟨b,z,hb,hz,hK⟩:=h_W (ι:=ι) hK
   have hlt:n.toNat<(a_3 r).length:=(List.getElem?_eq_some_iff.1 hb).1
   have hget:(⟨(a_3 r).toArray⟩:ByteArray)[n.toNat]?=some b:=by
    have hsz:n.toNat<(⟨(a_3 r).toArray⟩:ByteArray).size:=by simpa[ByteArray.size] using hlt
    refine(getElem?_pos (⟨(a_3 r).toArray⟩:ByteArray) n.toNat hsz).trans ?_
    rw[←hb,List.getElem?_eq_getElem hlt]
    rfl
   simp only[Instr.index,asIntOf,Sem.run_bind,Sem.run_pure,Result.andThen_ok,a_a hu]
   rw[if_pos hc,hget]
   exact⟨_,_,ι,hK,hz,Inj.le_refl _,hi⟩
  ·exact h.elim
 ·exact h.elim
def loA:Option AVal->Option Int
 |none=>some 0
 |some (.lit (.int _ n))=>some n
 |_=>none
def g_R(l:List UInt8):Option AVal->Option AVal->List UInt8
 |none,none=>l
 |none,some (.lit (.int _ h))=>l.take h.toNat
 |some (.lit (.int _ lo)),none=>l.drop lo.toNat
 |some (.lit (.int _ lo)),some (.lit (.int _ h))=>(l.take h.toNat).drop lo.toNat
 |_,_=>l
def hiA(d:Nat):Option AVal->Option Int
 |none=>some d
 |some (.lit (.int _ n))=>some n
 |_=>none
def g_S(off:Nat)(sz:Nat):Option AVal->Nat
 |some (.lit (.int _ n))=>g_O off (p_U n.toNat sz)
 |_=>off
def j_u(h:Nat):Option AVal->Nat
 |some (.lit (.int _ n))=>h-n.toNat
 |_=>h
def l_G(len:Nat):ACap->Nat
 | .n k=>k
 | .u _ _=>len
 | .x=>len
theorem l_H{len c:Nat}{cap:ACap}(h:cap.den ι c)(hl:len<=c):l_G len cap<=c:=by
 cases cap with
 |n k=>cases h;exact Nat.le_refl _
 |u i s=>exact hl
 |x=>exact hl
def l_I:ACap->Option AVal->ACap
 | .n k,lo=>.n (j_u k lo)
 | .u i s,some (.lit (.int _ n))=>.u i (s+n.toNat)
 |c,_=>c
inductive ODen (ι:Inj):Option AVal->Option Value->Prop
 |none:ODen ι .none .none
 |some {a:AVal} {v:Value} (h:Den ι a v):ODen ι (.some a) (.some v)
def l_J(P:Program)(t:TypeId)(x:AVal)(lo hi mx:Option AVal)(K:AVal->Prop):Prop:=
 match P.underlying t,x with
 |some .string,.str l=>match mx,loA lo,hiA l.length hi with
  |none,some a,some b=>gd (decide (0<=a)&&(decide (a<=b)&&decide (b<=(l.length:Int)))) (K (.str (g_R l lo hi)))
  |_,_,_=>False
 |some .string,.rope r=>match mx,lo,hi with
  |none,some (.lit (.int _ a)),none=>match l_y r a.toNat with
   |some r'=>gd (decide (0<=a)) (K (.rope r'))
   |none=>False
  |_,_,_=>False
 |some (.slice e),.slc id off len cap=>match szA P e,loA lo,hiA len hi,mx with
  |some sz,some a,some b,none=>gd ((decide (0<=a))&&(decide (a<=b)&&decide (b<=(l_G len cap:Int)))) (K (.slc id (g_S off sz lo) (j_u b.toNat lo) (l_I cap lo)))
  |some sz,some a,some b,some (.lit (.int _ m))=>gd (hi.isSome&&(decide (0<=a))&&(decide (a<=b)&&(decide (b<=m)&&decide (m<=(l_G len cap:Int))))) (K (.slc id (g_S off sz lo) (j_u b.toNat lo) (.n (j_u m.toNat lo))))
  |_,_,_,_=>False
 |some (.slice e),.by_ l=>match szA P e,loA lo,hiA l.length hi,mx with
  |some sz,some a,some b,none=>gd (Nat.beq sz 1&&((decide (0<=a))&&(decide (a<=b)&&decide (b<=(l.length:Int))))) (K (.by_ (g_R l lo hi)))
  |_,_,_,_=>False
 |some (.slice e),.fam f n=>match szA P e,loA lo,hiA n hi,mx with
  |some sz,some a,some b,none=>gd (Nat.beq sz 1&&((decide (0<=a))&&(decide (a<=b)&&decide (b<=(n:Int))))) (K (.fam (fun k=>f (g_S 0 1 lo+k)) (j_u b.toNat lo)))
  |_,_,_,_=>False
 |some (.slice e),.lit (.slice none 0 0)=>match loA lo,hiA 0 hi,mx,szA P e with
  |some a,some b,none,some _=>gd (decide (a=0)&&decide (b=0)) (K (.lit (.slice none 0 0)))
  |_,_,_,_=>False
 |_,_=>False
theorem b_0{lo:Option AVal}{lv:Option Value}{a:Int}(h:loA lo=some a)(hd:ODen ι lo lv):(lv=none/\lo=none/\a=0)\/(∃k,lv=some (.int k a)/\lo=some (.lit (.int k a))):=by
 cases hd with
 |none=>simp[loA] at h;exact .inl ⟨rfl,rfl,h.symm⟩
 |some hd=>
  cases hd<;>simp[loA] at h
  rename_i v
  cases v<;>simp at h
  subst h
  exact .inr ⟨_,rfl,rfl⟩
theorem f_Z{lo:Option AVal}{lv:Option Value}{d:Nat}{a:Int}(h:hiA d lo=some a)(hd:ODen ι lo lv):(lv=none/\lo=none/\a=d)\/(∃k,lv=some (.int k a)/\lo=some (.lit (.int k a))):=by
 cases hd with
 |none=>simp[hiA] at h;exact .inl ⟨rfl,rfl,h.symm⟩
 |some hd=>
  cases hd<;>simp[hiA] at h
  rename_i v
  cases v<;>simp at h
  subst h
  exact .inr ⟨_,rfl,rfl⟩
theorem a_s{k:IntKind}{n:Int}{y:Nat}{c:BoundsCode}(h0:0<=n)(h1:n<=y):(Instr.sliceBound (.int k n) y c).run P w=.ok n.toNat w:=by
 simp[Instr.sliceBound,asIntOf,h0,h1]
theorem b_t(l:List UInt8)(a b:Nat):(⟨l.toArray⟩:ByteArray).extract a b=⟨((l.take b).drop a).toArray⟩:=by
 apply ByteArray.ext
 rw[ByteArray.data_extract]
 simp[←Array.toList_inj]
 rw[List.drop_take]
theorem d_c{t e:TypeId}{base:Option Addr}{len c sz:Nat}{lo hi:Option AVal}{lv hv:Option Value}{a b:Int}(hu:P.underlying t=some (.slice e))(hs:szA P e=some sz)(hl:ODen ι lo lv)(hh:ODen ι hi hv)(ha:loA lo=some a)(hb:hiA len hi=some b)
 (h0:0<=a) (h1:a<=b) (h2:b<=(c:Int)):(Instr.sliceAt t (.slice base len c) lv hv none).run P w=.ok (.slice (if c=a.toNat then base else base.map (·.add (a.toNat*sz))) (b.toNat-a.toNat) (c-a.toNat)) w:=by
 have hs:=a_q (w:=w) hs
 have hb0:0<=b:=ac
 have hab:a<=(b.toNat:Int):=ac
 rcases b_0 ha hl with⟨rfl,rfl,rfl⟩|⟨k,rfl,rfl⟩<;>rcases f_Z hb hh with⟨rfl,rfl,rfl⟩|⟨k',rfl,rfl⟩
 ·simp[Instr.sliceAt,Instr.slice,a_a hu,Instr.sliceBounds,hs]
 ·simp[Instr.sliceAt,Instr.slice,a_a hu,Instr.sliceBounds,hs,a_s hb0 h2]
 ·have:a<=(len:Int):=h1
  simp[Instr.sliceAt,Instr.slice,a_a hu,Instr.sliceBounds,hs,a_s h0 this]
 ·simp[Instr.sliceAt,Instr.slice,a_a hu,Instr.sliceBounds,hs,a_s hb0 h2,a_s h0 hab]
theorem o_Q{l:List UInt8}{lo hi:Option AVal}{lv hv:Option Value}{a b:Int}(hl:ODen ι lo lv)(hh:ODen ι hi hv)(ha:loA lo=some a)(hb:hiA l.length hi=some b):g_R l lo hi=(l.take b.toNat).drop a.toNat:=by
 rcases b_0 ha hl with⟨_,rfl,rfl⟩|⟨k,_,rfl⟩<;>rcases f_Z hb hh with⟨_,rfl,rfl⟩|⟨k',_,rfl⟩<;>simp[g_R]
theorem r_r{b a:Int}{lo:Option AVal}{lv:Option Value}(hl:ODen ι lo lv)(ha:loA lo=some a):j_u b.toNat lo=b.toNat-a.toNat:=by
 rcases b_0 ha hl with⟨_,rfl,rfl⟩|⟨k,_,rfl⟩<;>simp[j_u]
theorem l_K{t:TypeId}{x:AVal}{xv:Value}{lo hi mx:Option AVal}{lv hv mv:Option Value}{K:AVal->AHeap->Prop}(h:l_J P t x lo hi mx (fun x=>K x H))(hinv:Inv w0 F0 ι H w)(hd:Den ι x xv)
 (hl:ODen ι lo lv) (hh:ODen ι hi hv) (hm:ODen ι mx mv):Ok w0 F0 ι K ((Instr.sliceAt t xv lv hv mv).run P w):=by
 unfold l_J at h
 split at h
 ·rename_i l hu
  cases hd
  split at h
  ·rename_i a b ha hb
   obtain⟨hc,hK⟩:=a_h h
   simp only[Bool.and_eq_true,decide_eq_true_eq] at hc
   obtain⟨h0,h1,h2⟩:=hc
   cases hm
   have hsz:(⟨l.toArray⟩:ByteArray).size=l.length:=aG
   have h2':b<=((⟨l.toArray⟩:ByteArray).size:Int):=by rw[hsz];exact h2
   have hb0:0<=b:=ac
   have hrun:(Instr.sliceAt t (.string ⟨l.toArray⟩) lv hv none).run P w=.ok (.string ⟨(g_R l lo hi).toArray⟩) w:=by
    rcases b_0 ha hl with⟨rfl,rfl,rfl⟩|⟨k,rfl,rfl⟩<;>rcases f_Z hb hh with⟨rfl,rfl,rfl⟩|⟨k',rfl,rfl⟩
    ·simp[Instr.sliceAt,Instr.slice,a_a hu,Instr.sliceBounds,g_R,b_t,hsz]
    ·simp[Instr.sliceAt,Instr.slice,a_a hu,Instr.sliceBounds,a_s hb0 h2',g_R,b_t]
    ·simp[Instr.sliceAt,Instr.slice,a_a hu,Instr.sliceBounds,hsz,a_s h0 h1,g_R,b_t]
    ·have h1':a<=(b.toNat:Int):=ac
     simp[Instr.sliceAt,Instr.slice,a_a hu,Instr.sliceBounds,a_s hb0 h2',a_s h0 h1',g_R,b_t]
   rw[hrun]
   exact⟨_,_,ι,hK,.str,Inj.le_refl _,hinv⟩
  ·exact h.elim
 ·rename_i r hu
  cases hd
  split at h
  ·rename_i k a
   split at h
   ·rename_i r' hr'
    obtain⟨hc,hK⟩:=a_h h
    simp only[decide_eq_true_eq] at hc
    obtain⟨h1,h2⟩:=j_q hr'
    cases hm;cases hh
    cases hl with
    |some hl=>
    cases hl
    have hsz:(⟨(a_3 r).toArray⟩:ByteArray).size=(a_3 r).length:=aG
    have h3:a<=((a_3 r).length:Int):=ac
    have hrun:(Instr.sliceAt t (.string ⟨(a_3 r).toArray⟩) (some (.int k a)) none none).run P w=.ok (.string ⟨(a_3 r').toArray⟩) w:=by
     rw[h1]
     simp[Instr.sliceAt,Instr.slice,a_a hu,Instr.sliceBounds,hsz,a_s hc h3,b_t]
    rw[hrun]
    exact⟨_,_,ι,hK,.rope,Inj.le_refl _,hinv⟩
   ·exact h.elim
  ·exact h.elim
 ·rename_i e id off len cap hu
  cases hd with
  |slc hr hle ho hcap=>
  rename_i off' r c
  have hlow:=l_H hcap hle
  split at h
  ·rename_i sz a b hs ha hb
   obtain⟨hc,hK⟩:=a_h h
   simp only[Bool.and_eq_true,decide_eq_true_eq] at hc
   obtain⟨h0,h1,h2⟩:=hc
   cases hm
   have hb0:0<=b:=ac
   have hbc:b<=(c:Int):=ac
   have hab:a<=(b.toNat:Int):=ac
   have hrun:(Instr.sliceAt t (.slice (some ⟨r,off',none⟩) len c) lv hv none).run P w=.ok (.slice (some (if c=a.toNat then⟨r,off',none⟩ else⟨r,off'+a.toNat*sz,none⟩)) (b.toNat-a.toNat) (c-a.toNat)) w:=by
    rcases b_0 ha hl with⟨rfl,rfl,rfl⟩|⟨k,rfl,rfl⟩<;>rcases f_Z hb hh with⟨rfl,rfl,rfl⟩|⟨k',rfl,rfl⟩
    ·simp[Instr.sliceAt,Instr.slice,a_a hu,Instr.sliceBounds,a_q hs,b_h]
    ·simp[Instr.sliceAt,Instr.slice,a_a hu,Instr.sliceBounds,a_q hs,b_h,a_s hb0 hbc]
    ·have:a<=(len:Int):=h1
     simp[Instr.sliceAt,Instr.slice,a_a hu,Instr.sliceBounds,a_q hs,b_h,a_s h0 this]
     split<;>rfl
    ·simp[Instr.sliceAt,Instr.slice,a_a hu,Instr.sliceBounds,a_q hs,b_h,a_s hb0 hbc,a_s h0 hab]
     split<;>rfl
   rw[hrun]
   refine⟨_,_,ι,hK,?_,Inj.le_refl _,hinv⟩
   have eb:j_u b.toNat lo=b.toNat-a.toNat:=by
    rcases b_0 ha hl with⟨_,rfl,rfl⟩|⟨k,_,rfl⟩<;>simp[j_u]
   have eo:g_S off sz lo=off+a.toNat*sz:=by
    rcases b_0 ha hl with⟨_,rfl,rfl⟩|⟨k,_,rfl⟩<;>simp[g_S,b_K,c_3]
   have ec:(l_I cap lo).den ι (c-a.toNat):=by
    cases cap with
    |n k=>
     cases hcap
     rcases b_0 ha hl with⟨_,rfl,rfl⟩|⟨k,_,rfl⟩<;>simp[l_I,j_u,ACap.den]
    |u i s=>
     obtain⟨d,hd,h63,rfl⟩:=hcap
     rcases b_0 ha hl with⟨_,rfl,rfl⟩|⟨k,_,rfl⟩
     ·exact⟨d,hd,h63,an⟩
     ·exact⟨d,hd,h63,ac⟩
    |x=>
     rcases b_0 ha hl with⟨_,rfl,rfl⟩|⟨k,_,rfl⟩<;>exact trivial
   rw[eb,eo]
   by_cases hma:c=a.toNat
   ·rw[if_pos hma]
    exact .slc hr ac (.inr ac) ec
   ·rw[if_neg hma]
    refine .slc hr ac ?_ ec
    rcases ho with ho|ho
    ·exact .inl (by rw[ho])
    ·exact .inr ac
  ·rename_i sz a b k2 m hs ha hb
   obtain⟨hc,hK⟩:=a_h h
   simp only[Bool.and_eq_true,decide_eq_true_eq] at hc
   obtain⟨⟨hsome,h0⟩,h1,h2,h3⟩:=hc
   have hb0:0<=b:=ac
   have hm0:0<=m:=ac
   have h3':m<=(c:Int):=ac
   have hbm:b<=(m.toNat:Int):=ac
   have hab:a<=(b.toNat:Int):=ac
   cases hm with
   |some hm=>
   cases hm
   have hrun:(Instr.sliceAt t (.slice (some ⟨r,off',none⟩) len c) lv hv (some (.int k2 m))).run P w=.ok (.slice (some (if m.toNat=a.toNat then⟨r,off',none⟩ else⟨r,off'+a.toNat*sz,none⟩)) (b.toNat-a.toNat) (m.toNat-a.toNat)) w:=by
    rcases b_0 ha hl with⟨rfl,rfl,rfl⟩|⟨k,rfl,rfl⟩<;>rcases f_Z hb hh with⟨rfl,rfl,rfl⟩|⟨k',rfl,rfl⟩
    ·simp at hsome
    ·simp[Instr.sliceAt,Instr.slice,a_a hu,Instr.sliceBounds,a_q hs,b_h,a_s hm0 h3',a_s hb0 hbm]
    ·simp at hsome
    ·simp[Instr.sliceAt,Instr.slice,a_a hu,Instr.sliceBounds,a_q hs,b_h,a_s hm0 h3',a_s hb0 hbm,a_s h0 hab]
     split<;>rfl
   rw[hrun]
   refine⟨_,_,ι,hK,?_,Inj.le_refl _,hinv⟩
   have eb:j_u b.toNat lo=b.toNat-a.toNat:=by
    rcases b_0 ha hl with⟨_,rfl,rfl⟩|⟨k,_,rfl⟩<;>simp[j_u]
   have em:j_u m.toNat lo=m.toNat-a.toNat:=by
    rcases b_0 ha hl with⟨_,rfl,rfl⟩|⟨k,_,rfl⟩<;>simp[j_u]
   have eo:g_S off sz lo=off+a.toNat*sz:=by
    rcases b_0 ha hl with⟨_,rfl,rfl⟩|⟨k,_,rfl⟩<;>simp[g_S,b_K,c_3]
   rw[eb,em,eo]
   by_cases hma:m.toNat=a.toNat
   ·rw[if_pos hma]
    exact .slc hr ac (.inr ac) rfl
   ·rw[if_neg hma]
    refine .slc hr ac ?_ rfl
    rcases ho with ho|ho
    ·exact .inl (by rw[ho])
    ·exact .inr ac
  ·exact h.elim
 ·rename_i e l hu
  split at h<;>try exact h.elim
  rename_i sz a b hs ha hb
  obtain⟨hc,hK⟩:=a_h h
  simp only[Bool.and_eq_true,decide_eq_true_eq] at hc
  obtain⟨hsz,h0,h1,h2⟩:=hc
  have hsz:=Nat.eq_of_beq_eq_true hsz
  subst hsz
  cases hm
  rw[o_Q hl hh ha hb] at hK
  have hlen:((l.take b.toNat).drop a.toNat).length=b.toNat-a.toNat:=af
  cases hd with
  |@by_ _ r c off pre rest e' fz hm hle ho=>
   rw[d_c hu hs hl hh ha hb h0 h1 ac]
   refine⟨_,_,ι,hK,?_,Inj.le_refl _,hinv⟩
   by_cases hz:b.toNat-a.toNat=0
   ·have hnil:(l.take b.toNat).drop a.toNat=[]:=List.length_eq_zero_iff.1 ac
    rw[hnil,hz]
    exact .by0
   ·rw[if_neg ac,←hlen]
    simp only[Option.map_some,b_h,Nat.mul_one]
    refine .by_ (pre:=pre++(l.take a.toNat).map a_v) (rest:=(l.drop b.toNat).map a_v++rest) (e:=e') (fz:=fz) ?_ ac af
    rw[hm]
    congr 2
    have e1:l=l.take a.toNat++((l.take b.toNat).drop a.toNat++l.drop b.toNat):=by
     rw[List.drop_take]
     have:l.drop b.toNat=(l.drop a.toNat).drop (b.toNat-a.toNat):=by rw[List.drop_drop];congr 1;omega
     rw[this,List.take_append_drop,List.take_append_drop]
    conv=>lhs;rw[e1]
    simp only[List.map_append,List.append_assoc]
  |by0=>
   have hbz:b=0:=by simp at h2;omega
   have haz:a=0:=ac
   subst hbz;subst haz
   rw[d_c hu hs hl hh (len:=0) ha hb h0 h1 ac]
   refine⟨_,_,ι,hK,?_,Inj.le_refl _,hinv⟩
   exact .by0
 ·rename_i e f n hu
  split at h<;>try exact h.elim
  rename_i sz a b hs ha hb
  obtain⟨hc,hK⟩:=a_h h
  simp only[Bool.and_eq_true,decide_eq_true_eq] at hc
  obtain⟨hsz,h0,h1,h2⟩:=hc
  have hsz:=Nat.eq_of_beq_eq_true hsz
  subst hsz
  cases hm
  have eo:g_S 0 1 lo=a.toNat:=by
   rcases b_0 ha hl with⟨_,rfl,rfl⟩|⟨k,_,rfl⟩<;>simp[g_S,b_K,c_3]
  rw[r_r hl ha,eo] at hK
  cases hd with
  |@fam _ _ r c off pre vs rest e' fz hm hn hv hle ho=>
   rw[d_c hu hs hl hh ha hb h0 h1 ac]
   refine⟨_,_,ι,hK,?_,Inj.le_refl _,hinv⟩
   by_cases hz:b.toNat-a.toNat=0
   ·rw[hz]
    exact .fam0
   ·rw[if_neg ac]
    simp only[Option.map_some,b_h,Nat.mul_one]
    refine .fam (pre:=pre++vs.take a.toNat) (vs:=(vs.take b.toNat).drop a.toNat) (rest:=vs.drop b.toNat++rest) (e:=e') (fz:=fz) ?_ af (fun k v hk=>?_) ac af
    ·rw[hm]
     congr 2
     have e1:vs=vs.take a.toNat++((vs.take b.toNat).drop a.toNat++vs.drop b.toNat):=by
      rw[List.drop_take]
      have:vs.drop b.toNat=(vs.drop a.toNat).drop (b.toNat-a.toNat):=by rw[List.drop_drop];congr 1;omega
      rw[this,List.take_append_drop,List.take_append_drop]
     conv=>lhs;rw[e1]
     simp only[List.append_assoc]
    ·rw[List.getElem?_drop,List.getElem?_take] at hk
     split at hk
     ·exact hv _ _ hk
     ·cases hk
  |fam0=>
   have hbz:b=0:=ac
   have haz:a=0:=ac
   subst hbz;subst haz
   rw[d_c hu hs hl hh ha hb h0 h1 ac]
   refine⟨_,_,ι,hK,?_,Inj.le_refl _,hinv⟩
   exact .fam0
 ·rename_i e hu
  cases hd
  split at h
  ·rename_i a b sz ha hb hs
   obtain⟨hc,hK⟩:=a_h h
   simp only[Bool.and_eq_true,decide_eq_true_eq] at hc
   obtain⟨rfl,rfl⟩:=hc
   have hs:=a_q (w:=w) hs
   cases hm
   have hrun:(Instr.sliceAt t (.slice none 0 0) lv hv none).run P w=.ok (.slice none 0 0) w:=by
    rcases b_0 ha hl with⟨rfl,rfl,_⟩|⟨k,rfl,rfl⟩<;>rcases f_Z hb hh with⟨rfl,rfl,_⟩|⟨k',rfl,rfl⟩<;>
     simp[Instr.sliceAt,Instr.slice,a_a hu,Instr.sliceBounds,Instr.sliceBound,asIntOf,hs]
   rw[hrun]
   exact⟨_,_,ι,hK,.lit,Inj.le_refl _,hinv⟩
  ·exact h.elim
 ·exact h.elim
end
end Go.Sx
namespace Go.Sx
open Go
variable [Syms]
def eqL:List UInt8->List UInt8->Bool
 |[],[]=>true
 |a::x,b::y=>cond (Nat.beq a.toNat b.toNat) (eqL x y) false
 |_,_=>false
theorem d_s(a b:List UInt8):eqL a b=(a==b):=by
 induction a generalizing b with
 |nil=>cases b<;>simp[eqL]
 |cons x xs ih=>
  cases b with
  |nil=>simp[eqL]
  |cons y ys=>
   simp only[eqL,ih,List.cons_beq_cons]
   by_cases h:x=y
   ·subst h;simp[beq_self]
   ·have:x.toNat≠y.toNat:=fun e=>h (UInt8.toNat_inj.1 e)
    simp[b_b this,h]
section
variable {P:Program} {w0 w:World} {F0:Fp} {ι:Inj} {H:AHeap}
theorem c_4(l:List UInt8):(⟨l.toArray⟩:ByteArray).toList=l:=by rw[ByteArray.toList_eq]
theorem e_k(a b:List UInt8):((⟨a.toArray⟩:ByteArray)==⟨b.toArray⟩)=(a==b):=by
 rw[beq_toListBytes,c_4,c_4]
def o_R(op:BinOp)(k:IntKind)(x y:Int):Value:=
 let a:=BitVec.ofInt k.bits x
 let b:=BitVec.ofInt k.bits y
 match op with
 | .and=>.int k (k.wrap (a &&& b).toNat)
 | .or=>.int k (k.wrap (a ||| b).toNat)
 | .xor=>.int k (k.wrap (a ^^^ b).toNat)
 |_=>.int k (k.wrap (a &&& ~~~b).toNat)
def l_L(op:BinOp)(k:IntKind)(a b:Int)(K:AVal->Prop):Prop:=
 match op with
 | .add=>K (.lit (.int k (k.wrap (a+b))))
 | .sub=>K (.lit (.int k (k.wrap (a-b))))
 | .mul=>K (.lit (.int k (k.wrap (a*b))))
 | .quo=>gd (!(b==0)) (K (.lit (.int k (k.wrap (a.tdiv b)))))
 | .rem=>gd (!(b==0)) (K (.lit (.int k (a.tmod b))))
 | .and=>K (.lit (o_R .and k a b))
 | .or=>K (.lit (o_R .or k a b))
 | .xor=>K (.lit (o_R .xor k a b))
 | .andNot=>K (.lit (o_R .andNot k a b))
 | .eql=>K (.lit (.bool (a==b)))
 | .neq=>K (.lit (.bool (a !=b)))
 | .lss=>K (.lit (.bool (decide (a<b))))
 | .leq=>K (.lit (.bool (decide (a<=b))))
 | .gtr=>K (.lit (.bool (decide (a>b))))
 | .geq=>K (.lit (.bool (decide (a≥b))))
 |_=>False
def p_V(op:BinOp)(a b:List UInt8)(K:AVal->Prop):Prop:=
 match op with
 | .add=>gd (Nat.ble (a.length+b.length) 9223372036854775807) (K (.str (a++b)))
 | .eql=>K (.lit (.bool (eqL a b)))
 | .neq=>K (.lit (.bool (!eqL a b)))
 | .lss=>K (.lit (.bool (Op.bytesLess a b)))
 | .leq=>K (.lit (.bool (Op.bytesLess a b||eqL a b)))
 | .gtr=>K (.lit (.bool (!(Op.bytesLess a b||eqL a b))))
 | .geq=>K (.lit (.bool (!Op.bytesLess a b)))
 |_=>False
def r_s(o:Option Bool)(K:Bool->Prop):Prop:=match o with
 |some b=>K b
 |none=>False
theorem d_d{o:Option Bool}{K:Bool->Prop}(h:r_s o K):∃b,o=some b/\K b:=by
 cases o with
 |none=>exact h.elim
 |some b=>exact⟨b,rfl,h⟩
def rowA(H:AHeap)(i:Nat):Bool:=match H.get i with|some (.row ..)=>true|_=>false
def o_S(H:AHeap)(x:SId):Bool:=match H.st x with|some (.row ..)=>true|_=>false
def o_F(x y:SId):Bool:=Nat.beq x.k y.k&&(Nat.beq x.i y.i&&Nat.beq x.j y.j)
theorem g_T{x y:SId}(h:o_F x y=true):x=y:=by
 simp only[o_F,Bool.and_eq_true] at h
 cases x;cases y
 simp only[SId.mk.injEq]
 exact⟨Nat.eq_of_beq_eq_true h.1,Nat.eq_of_beq_eq_true h.2.1,Nat.eq_of_beq_eq_true h.2.2⟩
theorem l_M(x:SId):o_F x x=true:=by simp[o_F,beq_self]
theorem j_v{x:SId}{r:Nat}(h:o_S H x=true)(had:ι.ad x=some r)(hi:Inv w0 F0 ι H w):∃vs e o,ι.m r=some o/\w.heap[r]?=some (.cells vs e (0,0)):=by
 unfold o_S at h
 split at h
 ·rename_i cs e tot hg
  obtain⟨o,hm,ho,hb⟩:=hi.stat hg had
  obtain⟨vs,rest,rfl,_⟩:=hb
  exact⟨_,e,_,hm,ho⟩
 ·cases h
def eqA(P:Program):Nat->TypeId->AVal->AVal->AHeap->Bool->(Bool->Prop)->Prop
 |0,_,_,_,_,_,_=>False
 |n+1,t,x,y,H,c,K=>
  match P.underlying t with
  |some .bool=>match x,y with
   | .lit (.bool a),.lit (.bool b)=>K (a==b)
   |_,_=>False
  |some (.int _)=>match x,y with
   | .lit (.int k a),.lit (.int k' b)=>gd (decide (k=k')) (K (a==b))
   |_,_=>False
  |some .string=>match x,y with
   | .str a,.str b=>K (eqL a b)
   | .rope a,.str b=>r_s (eqR a (r_p b)) K
   | .str a,.rope b=>r_s (eqR (r_p a) b) K
   | .rope a,.rope b=>r_s (eqR a b) K
   |_,_=>False
  |some (.pointer e)=>match x,y with
   | .lit (.pointer none),.lit (.pointer none)=>K true
   | .lit (.pointer none),.ptr _ _=>K false
   | .ptr _ _,.lit (.pointer none)=>K false
   | .ptr i o,.ptr j o'=>match szA P e with
     |some (_+1)=>gd (rowA H i&&rowA H j) (K (Nat.beq i j&&Nat.beq o o'))
     |_=>False
   | .lit (.pointer none),.sp _ _=>K false
   | .sp _ _,.lit (.pointer none)=>K false
   | .lit (.pointer none),.fpt _ _=>K false
   | .fpt _ _,.lit (.pointer none)=>K false
   | .sp i o,.sp j o'=>match szA P e with
     |some (_+1)=>gd (o_S H i&&o_S H j) (K (o_F i j&&Nat.beq o o'))
     |_=>False
   |_,_=>False
  |some (.interface _)=>match x,y with
   | .lit .nilIface,.lit .nilIface=>gd c (K true)
   | .lit .nilIface,.ifc _ _=>K false
   | .ifc _ _,.lit .nilIface=>K false
   | .ifc tx vx,.ifc ty vy=>cond (Nat.beq tx ty) (gd (((P.info? tx).map (·.comparable)).getD false) (eqA P n tx vx vy H false K)) (K false)
   |_,_=>False
  |some (.slice _)=>match x,y with
   | .lit (.slice none _ _),.lit (.slice none _ _)=>K true
   | .lit (.slice none _ _),.slc _ _ _ _=>K false
   | .slc _ _ _ _,.lit (.slice none _ _)=>K false
   | .lit (.slice none _ _),.rsl _ _ _ _=>K false
   | .rsl _ _ _ _,.lit (.slice none _ _)=>K false
   | .ssl _ _ _,.lit (.slice none _ _)=>K false
   | .lit (.slice none _ _),.ssl _ _ _=>K false
   |_,_=>False
  |some (.map _ _)=>match x,y with
   | .lit (.map none),.lit (.map none)=>K true
   | .lit (.map none),.map _=>K false
   | .map _,.lit (.map none)=>K false
   | .lit (.map none),.smp _=>K false
   | .smp _,.lit (.map none)=>K false
   |_,_=>False
  |some (.func _ _ _)=>match x,y with
   | .lit .nilFunc,.lit .nilFunc=>K true
   | .lit .nilFunc,.fn _ _ _=>K false
   | .fn _ _ _,.lit .nilFunc=>K false
   |_,_=>False
  |_=>False
theorem l_N{i:Nat}(h:rowA H i=true)(hi:Inv w0 F0 ι H w):∃cs e tot r vs,H.get i=some (.row cs e tot)/\ι i=some r/\w.heap[r]?=some (.cells vs e (0,0)):=by
 unfold rowA at h
 split at h
 ·rename_i cs e tot hg
  obtain⟨r,o,hr,ho,hb,_⟩:=hi.blk _ _ hg
  obtain⟨vs,rest,rfl,_⟩:=hb
  exact⟨cs,e,tot,r,_,hg,hr,ho⟩
 ·cases h
set_option maxHeartbeats 3200000 in
theorem p_W:∀(n d:Nat) {t:TypeId} {x y:AVal} {a b:Value} {c:Bool} {K:Bool->Prop},eqA P n t x y H c K->Inv w0 F0 ι H w->Den ι x a->Den ι y b->∃r,(Op.equalIn (d+n) t a b).run P w=.ok r w/\K r:=by
 intro n
 induction n with
 |zero=>intro d t x y a b c K h;exact h.elim
 |succ n ih=>
  intro d t x y a b c K h hi hx hy
  have e1:d+(n+1)=(d+n)+1:=ac
  rw[e1]
  simp only[eqA] at h
  split at h
  ·rename_i hu
   split at h
   ·cases hx;cases hy
    exact⟨_,ao,h⟩
   ·exact h.elim
  ·rename_i hu
   split at h
   ·cases hx;cases hy
    obtain⟨hk,hK⟩:=a_h h
    simp only[decide_eq_true_eq] at hk
    exact⟨_,by simp[Op.equalIn,a_a hu,hk],hK⟩
   ·exact h.elim
  ·rename_i hu
   split at h
   ·cases hx;cases hy
    exact⟨_,by simp[Op.equalIn,a_a hu,d_s,e_k],h⟩
   ·cases hx;cases hy
    obtain⟨b,hb,hK⟩:=d_d h
    have hb:=h_Z hb
    rw[c_Z] at hb
    exact⟨b,bn,hK⟩
   ·cases hx;cases hy
    obtain⟨b,hb,hK⟩:=d_d h
    have hb:=h_Z hb
    rw[c_Z] at hb
    exact⟨b,bn,hK⟩
   ·cases hx;cases hy
    obtain⟨b,hb,hK⟩:=d_d h
    have hb:=h_Z hb
    exact⟨b,bn,hK⟩
   ·exact h.elim
  ·rename_i e hu
   split at h
   ·cases hx;cases hy
    exact⟨_,ao,h⟩
   ·cases hx;cases hy
    exact⟨_,ao,h⟩
   ·cases hx;cases hy
    exact⟨_,ao,h⟩
   ·rename_i i o j o'
    cases hx with
    |ptr hr=>
    cases hy with
    |ptr hr'=>
    rename_i r1 r2
    split at h
    ·rename_i m hs
     obtain⟨hc,hK⟩:=a_h h
     simp only[Bool.and_eq_true] at hc
     obtain⟨cs,e1,t1,ra,va,hg1,hra,hwa⟩:=l_N hc.1 hi
     obtain⟨cs',e2,t2,rb,vb,hg2,hrb,hwb⟩:=l_N hc.2 hi
     rw[hr] at hra;cases hra
     rw[hr'] at hrb;cases hrb
     refine⟨_,?_,hK⟩
     simp only[Op.equalIn,Sem.run_bind,a_a hu,Result.andThen_ok,a_q hs]
     rw[if_pos ac]
     unfold sameAddr
     by_cases hij:i=j
     ·subst hij
      rw[hr] at hr';cases hr'
      by_cases ho:o=o'
      ·subst ho;simp[beq_self]
      ·simp[ho,b_b ho]
     ·have hne:r1≠r2:=fun e=>hij (hi.inj i j _ _ r1 hg1 hg2 hr (e▸hr'))
      have f1:w.frozen? ⟨r1,o,none⟩=false:=bO
      have f2:w.frozen? ⟨r2,o',none⟩=false:=bP
      have s1:w.shape? r1=some (e1,va.size):=by simp[World.shape?,hwa]
      have s2:w.shape? r2=some (e2,vb.size):=by simp[World.shape?,hwb]
      have g1:w.frozen? {block:=r1,off:=va.size}=false:=bO
      have g2:w.frozen? {block:=r2,off:=vb.size}=false:=bP
      simp[hne,f1,f2,noView,viewAt,s1,s2,mayBeOne,stringish,g1,g2,b_b hij]
    ·exact h.elim
   ·cases hx;cases hy
    exact⟨_,ao,h⟩
   ·cases hx;cases hy
    exact⟨_,ao,h⟩
   ·cases hx;cases hy
    exact⟨_,ao,h⟩
   ·cases hx;cases hy
    exact⟨_,ao,h⟩
   ·rename_i i o j o'
    cases hx with
    |@sp _ _ ri hadi=>
    cases hy with
    |@sp _ _ rj hadj=>
    split at h
    ·rename_i m hs
     obtain⟨hc,hK⟩:=a_h h
     simp only[Bool.and_eq_true] at hc
     obtain⟨va,e1,oa,hma,hwa⟩:=j_v hc.1 hadi hi
     obtain⟨vb,e2,ob,hmb,hwb⟩:=j_v hc.2 hadj hi
     refine⟨_,?_,hK⟩
     simp only[Op.equalIn,Sem.run_bind,a_a hu,Result.andThen_ok,a_q hs]
     rw[if_pos ac]
     unfold sameAddr
     by_cases hij:i=j
     ·subst hij
      rw[hadi] at hadj;cases hadj
      by_cases ho:o=o'
      ·subst ho;simp[beq_self,l_M]
      ·simp[ho,b_b ho]
     ·have hne:ri≠rj:=fun e=>hij (hi.fz.stinj i j ri hadi (by rw[e];exact hadj))
      have hsb:o_F i j=false:=by
       cases hb:o_F i j with
       |false=>rfl
       |true=>exact absurd (g_T hb) hij
      have f1:w.frozen? ⟨ri,o,none⟩=false:=bO
      have f2:w.frozen? ⟨rj,o',none⟩=false:=bP
      have s1:w.shape? (ri)=some (e1,va.size):=by simp[World.shape?,hwa]
      have s2:w.shape? (rj)=some (e2,vb.size):=by simp[World.shape?,hwb]
      have g1:w.frozen? {block:=ri,off:=va.size}=false:=bO
      have g2:w.frozen? {block:=rj,off:=vb.size}=false:=bP
      simp[hne,f1,f2,noView,viewAt,s1,s2,mayBeOne,stringish,g1,g2,hsb]
    ·exact h.elim
   ·exact h.elim
  ·rename_i ms hu
   split at h
   ·cases hx;cases hy
    exact⟨_,ao,(a_h h).2⟩
   ·cases hx;cases hy
    exact⟨_,ao,h⟩
   ·cases hx;cases hy
    exact⟨_,ao,h⟩
   ·rename_i tx vx ty vy
    cases hx with
    |ifc hx=>
    cases hy with
    |ifc hy=>
    by_cases htt:tx=ty
    ·subst htt
     rw[beq_self] at h
     simp only[cond_true] at h
     obtain⟨hc,hK⟩:=a_h h
     cases hinfo:P.info? tx with
     |none=>rw[hinfo] at hc;simp at hc
     |some info=>
      rw[hinfo] at hc
      simp at hc
      obtain⟨r,hrun,hKr⟩:=ih d hK hi hx hy
      exact⟨r,by simp[Op.equalIn,a_a hu,a_u hinfo,hc,hrun],hKr⟩
    ·rw[b_b htt] at h
     exact⟨false,by simp[Op.equalIn,a_a hu,htt],h⟩
   ·exact h.elim
  ·rename_i e hu
   split at h
   ·cases hx;cases hy
    exact⟨_,ao,h⟩
   ·cases hx;cases hy
    exact⟨_,ao,h⟩
   ·cases hx;cases hy
    exact⟨_,ao,h⟩
   ·cases hx;cases hy
    exact⟨_,ao,h⟩
   ·cases hx;cases hy
    exact⟨_,ao,h⟩
   ·cases hx;cases hy
    exact⟨_,ao,h⟩
   ·cases hx;cases hy
    exact⟨_,ao,h⟩
   ·exact h.elim
  ·rename_i k e hu
   split at h
   ·cases hx;cases hy
    exact⟨_,ao,h⟩
   ·cases hx;cases hy
    exact⟨_,ao,h⟩
   ·cases hx;cases hy
    exact⟨_,ao,h⟩
   ·cases hx;cases hy
    exact⟨_,ao,h⟩
   ·cases hx;cases hy
    exact⟨_,ao,h⟩
   ·exact h.elim
  ·rename_i p r v hu
   split at h
   ·cases hx;cases hy
    exact⟨_,ao,h⟩
   ·cases hx;cases hy
    exact⟨_,ao,h⟩
   ·cases hx;cases hy
    exact⟨_,ao,h⟩
   ·exact h.elim
  ·exact h.elim
theorem l_O{op:BinOp}{k:IntKind}{a b:Int}{K:AVal->Prop}(h:l_L op k a b K):
 ∃v,(match op with| .add| .sub| .mul=>Op.intArith op k a b| .quo| .rem=>Op.intDiv op k a b| .and| .or| .xor| .andNot=>Op.intBits op k a b|_=>Op.intCmp op a b:Sem Value).run P w=.ok v w/\K (.lit v)/\op≠ .shl/\op≠ .shr:=by
 cases op<;>simp only[l_L] at h<;>first
  |exact h.elim
  |exact⟨_,rfl,h,an,an⟩
  |(obtain⟨hc,hK⟩:=a_h h
    simp at hc
    exact⟨_,by simp[Op.intDiv,hc],hK,an,an⟩)
end
end Go.Sx

