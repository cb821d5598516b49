/- Lemmas of this claim; the last text says what is proved. -/
import Derived.Test.YtjkgmpkgfhhaiaaGreatK03
set_option linter.all false
namespace Go.Sx
open Go
variable [Syms]
def addA:Nat->Nat->Nat
 |0,b=>b
 |a+1,b=>(a+1)+b
theorem addA_eq (a b:Nat):addA a b=a+b:=by cases a<;>simp[addA]
def mulA (n:Nat):Nat->Nat
 |1=>n
 |m=>n*m
theorem mulA_eq (n m:Nat):mulA n m=n*m:=by unfold mulA;split<;>simp
section
variable {P:Program} {w0 w:World} {F0:Fp} {ι:Inj} {H:AHeap}
theorem addr_add (r off n:Nat):(⟨r,off,none⟩:Addr).add n=⟨r,off+n,none⟩:=by
 unfold Addr.add;split
 ·next h0=>subst h0;rfl
 ·rfl
def fldOff (P:Program) (s:TypeId) (f:Nat):Option Nat:=match P.underlying s with
 |some (.struct fs)=>match nthA fs.toList f with
  |some fld=>match szA P fld.type with
   |some (_+1)=>some fld.offset
   |_=>none
  |none=>none
 |_=>none
theorem fldOff_ok {s:TypeId} {f d r off:Nat} (h:fldOff P s f=some d):(Instr.fieldAt s (.pointer (some ⟨r,off,none⟩)) f).run P w=.ok (.pointer (some ⟨r,off+d,none⟩)) w:=by
 unfold fldOff at h
 split at h
 ·rename_i fs hu
  split at h
  ·rename_i fld hf
   split at h
   ·rename_i n hs
    cases h
    rw[nthA_eq] at hf
    have hf':fs[f]?=some fld:=by simpa using hf
    simp only[Instr.fieldAt,Sem.run_bind,run_underlying hu,Result.andThen_ok,hf',Instr.sureAddr,Sem.run_pure,fieldPlace,run_sizeOf hs,Sem.run_ite,Nat.add_eq_zero_iff,Nat.one_ne_zero,and_false,if_false]
    simp[addr_add]
   ·cases h
  ·cases h
 ·cases h
def fieldAddrA (P:Program) (s:TypeId) (a:AVal) (f:Nat) (K:AVal->Prop):Prop:=
 match fldOff P s f with
 |some d=>match a with
  | .ptr id off=>K (.ptr id (addA off d))
  | .sp x off=>K (.sp x (addA off d))
  | .fpt cs off=>K (.fpt cs (addA off d))
  | .fwp f wd n k off=>K (.fwp f wd n k (addA off d))
  |_=>False
 |none=>False
theorem fieldAddrA_st {s:TypeId} {a:AVal} {v:Value} {f:Nat} {K:AVal->Prop} (h:fieldAddrA P s a f K) (hd:Den ι a v):∃x y,(∀w:World,(Instr.fieldAt s v f).run P w=.ok y w)/\Den ι x y/\K x:=by
 unfold fieldAddrA at h
 split at h
 ·rename_i d hd'
  cases hd with
  |@ptr id off r hr=>exact⟨_,_,fun w=>fldOff_ok hd',by rw[addA_eq];exact .ptr hr,h⟩
  |sp had=>exact⟨_,_,fun w=>fldOff_ok hd',by rw[addA_eq];exact .sp had,h⟩
  |fpt hm hv=>exact⟨_,_,fun w=>fldOff_ok hd',by rw[addA_eq];exact .fpt hm hv,h⟩
  |fwp hm hn hv hk ho=>exact⟨_,_,fun w=>fldOff_ok hd',by rw[addA_eq];exact .fwp hm hn hv hk (by omega),h⟩
  |_=>exact h.elim
 ·exact h.elim
theorem fieldAddrA_ok {s:TypeId} {a:AVal} {v:Value} {f:Nat} {K:AVal->AHeap->Prop} (h:fieldAddrA P s a f (fun x=>K x H)) (hi:Inv w0 F0 ι H w) (hd:Den ι a v):Ok w0 F0 ι K ((Instr.fieldAt s v f).run P w):=by
 obtain⟨x,y,hrun,hden,hK⟩:=fieldAddrA_st h hd
 rw[hrun w]
 exact⟨_,_,ι,hK,hden,Inj.le_refl _,hi⟩
def aggL:AVal->Option (List AVal)
 | .agg cs=>some cs
 | .lit (.agg c)=>some (c.toList.map (ofValue 2))
 |_=>none
theorem aggL_ok {a:AVal} {v:Value} {cs:List AVal} (h:aggL a=some cs) (hd:Den ι a v):∃c:Array Value,v=.agg c/\DenL ι cs c.toList:=by
 cases hd with
 |agg hs=>simp[aggL] at h;subst h;exact⟨_,rfl,hs⟩
 |lit=>cases v<;>simp[aggL] at h;subst h;exact⟨_,rfl,DenL.map_of (ofValue_den 2) _⟩
 |_=>simp[aggL] at h
def partA (P:Program) (t:TypeId) (cs:List AVal) (off:Nat) (K:AVal->Prop):Prop:=
 match aggA P t with
 |some (some n)=>K (.agg ((cs.drop off).take n))
 |some none=>match nthA cs off with
  |some v=>K v
  |none=>False
 |none=>False
theorem partA_ok {t:TypeId} {cs:List AVal} {c:Array Value} {off:Nat} {K:AVal->Prop} (h:partA P t cs off K) (hd:DenL ι cs c.toList):
 ∃a v,(part t c off).run P w=.ok v w/\Den ι a v/\K a:=by
 unfold partA at h
 split at h
 ·rename_i n ha
  have:=aggA_some (w:=w) ha
  refine⟨_,.agg (c.extract off (off+n)),?_,?_,h⟩
  ·simp only[part,Sem.run_bind,this.1,Result.andThen_ok,if_true,run_sizeOf this.2,Sem.run_pure]
  ·have e:c.extract off (off+n)=((c.toList.drop off).take n).toArray:=by
    simp[←Array.toList_inj,List.drop_take]
   rw[e]
   exact .agg ((hd.drop off).take n)
 ·rename_i ha
  split at h
  ·rename_i x hx
   rw[nthA_eq] at hx
   obtain⟨y,hy,hden⟩:=hd.get off hx
   have hy':c[off]?=some y:=by simpa using hy
   refine⟨x,y,?_,hden,h⟩
   simp[part,aggA_none ha,hy']
  ·exact h.elim
 ·exact h.elim
def fieldA (P:Program) (t:TypeId) (x:AVal) (f:Nat) (K:AVal->Prop):Prop:=
 match aggL x,P.underlying t with
 |some cs,some (.struct fs)=>match nthA fs.toList f with
  |some fld=>partA P fld.type cs fld.offset (fun v=>iteK 4 v K)
  |none=>False
 |_,_=>False
theorem fieldA_ok {t:TypeId} {a:AVal} {v:Value} {f:Nat} {K:AVal->AHeap->Prop} (h:fieldA P t a f (fun x=>K x H)) (hi:Inv w0 F0 ι H w) (hd:Den ι a v):Ok w0 F0 ι K ((Instr.field t v f).run P w):=by
 unfold fieldA at h
 split at h
 ·rename_i cs fs hcs hu
  obtain⟨c,rfl,hc⟩:=aggL_ok hcs hd
  split at h
  ·rename_i fld hf
   rw[nthA_eq] at hf
   have hf':fs[f]?=some fld:=by simpa using hf
   obtain⟨x,y,hrun,hden,hK⟩:=partA_ok (w:=w) h hc
   obtain⟨x,hden,hK⟩:=iteK_out hK hden
   simp only[Instr.field,Sem.run_bind,run_underlying hu,Result.andThen_ok,hf',asAgg,Sem.run_pure,hrun]
   exact⟨_,_,ι,hK,hden,Inj.le_refl _,hi⟩
  ·exact h.elim
 ·exact h.elim
def indexAddrA (P:Program) (t:TypeId) (x i:AVal) (K:AVal->Prop):Prop:=
 match i with
 | .lit (.int _ n)=>match P.underlying t with
   |some (.slice e)=>match szA P e with
    |some sz=>match x with
     | .slc id off len _=>gd (decide (0<=n)&&decide (n<(len:Int))) (K (.ptr id (addA off (mulA n.toNat sz))))
     | .ssl x off len=>gd (decide (0<=n)&&decide (n<(len:Int))) (K (.sp x (addA off (mulA n.toNat sz))))
     | .by_ l=>gd (Nat.beq sz 1&&(decide (0<=n)&&decide (n<(l.length:Int)))) (K (.bp l n.toNat))
     | .fam f m=>gd (Nat.beq sz 1&&(decide (0<=n)&&decide (n<(m:Int)))) (K (.fmp f m n.toNat))
     | .famx f m=>gd (Nat.beq sz 1&&(decide (0<=n)&&decide (n<(m:Int)))) (K (.fmp f m n.toNat))
     | .fmw f wd m=>gd (Nat.beq sz wd&&(decide (0<=n)&&decide (n<(m:Int)))) (K (.fwp f wd m n.toNat 0))
     |_=>False
    |none=>False
   |some (.array len e)=>match szA P e with
    |some sz=>match x with
     | .ptr id off=>gd (decide (0<=n)&&decide (n<(len:Int))) (K (.ptr id (addA off (mulA n.toNat sz))))
     | .sp x off=>gd (decide (0<=n)&&decide (n<(len:Int))) (K (.sp x (addA off (mulA n.toNat sz))))
     | .lit (.pointer (some ⟨g,off,none⟩))=>gd (decide (0<=n)&&decide (n<(len:Int))) (K (.lit (.pointer (some ⟨g,addA off (mulA n.toNat sz),none⟩))))
     |_=>False
    |none=>False
   |_=>False
 |_=>False
theorem run_indexSl {t e:TypeId} {k:IntKind} {n:Int} {r off len c sz:Nat} (hu:P.underlying t=some (.slice e)) (hs:szA P e=some sz) (h0:0<=n) (h1:n<(len:Int)):(Instr.indexAt t (.slice (some ⟨r,off,none⟩) len c) (.int k n)).run P w=.ok (.pointer (some ⟨r,off+n.toNat*sz,none⟩)) w:=by
 simp only[Instr.indexAt,asIntOf,Sem.run_bind,Sem.run_pure,Result.andThen_ok,run_underlying hu,Sem.run_ite]
 rw[if_pos ⟨h0,h1⟩]
 simp only[run_sizeOf hs,Result.andThen_ok,Sem.run_pure,addr_add]
theorem run_indexAr {t e:TypeId} {k:IntKind} {n:Int} {r off len sz:Nat} (hu:P.underlying t=some (.array len e)) (hs:szA P e=some sz) (h0:0<=n) (h1:n<(len:Int)):(Instr.indexAt t (.pointer (some ⟨r,off,none⟩)) (.int k n)).run P w=.ok (.pointer (some ⟨r,off+n.toNat*sz,none⟩)) w:=by
 simp only[Instr.indexAt,asIntOf,Sem.run_bind,Sem.run_pure,Result.andThen_ok,run_underlying hu,Instr.sureAddr,Sem.run_ite]
 rw[if_pos ⟨h0,h1⟩]
 simp only[run_sizeOf hs,Result.andThen_ok,Sem.run_pure,addr_add]
theorem indexAddrA_st {t:TypeId} {a b:AVal} {x y:Value} {K:AVal->Prop} (h:indexAddrA P t a b K) (hd:Den ι a x) (hd':Den ι b y):∃c z,(∀w:World,(Instr.indexAt t x y).run P w=.ok z w)/\Den ι c z/\K c:=by
 unfold indexAddrA at h
 split at h
 ·rename_i k n
  cases hd'
  split at h
  ·rename_i e hu
   split at h
   ·rename_i sz hs
    cases hd with
    |@slc id off off' len r c cap hr hl ho hcap=>
     obtain⟨hc,hK⟩:=gd_out h
     simp only[Bool.and_eq_true,decide_eq_true_eq] at hc
     have ho':off'=off:=by
      rcases ho with ho|ho
      ·exact ho
      ·omega
     subst ho'
     exact⟨_,_,fun w=>run_indexSl hu hs hc.1 hc.2,by rw[addA_eq,mulA_eq];exact .ptr hr,hK⟩
    |ssl had hl=>
     obtain⟨hc,hK⟩:=gd_out h
     simp only[Bool.and_eq_true,decide_eq_true_eq] at hc
     exact⟨_,_,fun w=>run_indexSl hu hs hc.1 hc.2,by rw[addA_eq,mulA_eq];exact .sp had,hK⟩
    |@by_ l r c off pre rest e fz hm hl ho=>
     obtain⟨hc,hK⟩:=gd_out h
     simp only[Bool.and_eq_true,decide_eq_true_eq] at hc
     subst ho
     have h1:=Nat.eq_of_beq_eq_true hc.1
     subst h1
     exact⟨_,_,fun w=>run_indexSl hu hs hc.2.1 hc.2.2,.bp hm (by rw[Nat.mul_one]),hK⟩
    |by0=>
     obtain⟨hc,hK⟩:=gd_out h
     simp only[Bool.and_eq_true,decide_eq_true_eq,List.length_nil] at hc
     omega
    |@fam f m r c off pre vs rest e fz hm hn hv hl ho=>
     obtain⟨hc,hK⟩:=gd_out h
     simp only[Bool.and_eq_true,decide_eq_true_eq] at hc
     subst ho
     have h1:=Nat.eq_of_beq_eq_true hc.1
     subst h1
     exact⟨_,_,fun w=>run_indexSl hu hs hc.2.1 hc.2.2,.fmp hm hn hv (by rw[Nat.mul_one]),hK⟩
    |fam0=>
     obtain⟨hc,hK⟩:=gd_out h
     simp only[Bool.and_eq_true,decide_eq_true_eq] at hc
     omega
    |famx hd=>
     obtain⟨hc,hK⟩:=gd_out h
     simp only[Bool.and_eq_true,decide_eq_true_eq] at hc
     have h1:=Nat.eq_of_beq_eq_true hc.1
     subst h1
     cases hd with
     |fam hm hn hv hl ho=>
      subst ho
      exact⟨_,_,fun w=>run_indexSl hu hs hc.2.1 hc.2.2,.fmp hm hn hv (by rw[Nat.mul_one]),hK⟩
     |fam0=>omega
    |@fmw f wd m r c off pre vs rest e fz hm hn hv hl ho=>
     obtain⟨hc,hK⟩:=gd_out h
     simp only[Bool.and_eq_true,decide_eq_true_eq] at hc
     subst ho
     have h1:=Nat.eq_of_beq_eq_true hc.1
     subst h1
     exact⟨_,_,fun w=>run_indexSl hu hs hc.2.1 hc.2.2,.fwp hm hn hv (by omega) (by omega),hK⟩
    |fmw0=>
     obtain⟨hc,hK⟩:=gd_out h
     simp only[Bool.and_eq_true,decide_eq_true_eq] at hc
     omega
    |_=>exact h.elim
   ·exact h.elim
  ·rename_i len e hu
   split at h
   ·rename_i sz hs
    cases hd with
    |@ptr id off r hr=>
     obtain⟨hc,hK⟩:=gd_out h
     simp only[Bool.and_eq_true,decide_eq_true_eq] at hc
     exact⟨_,_,fun w=>run_indexAr hu hs hc.1 hc.2,by rw[addA_eq,mulA_eq];exact .ptr hr,hK⟩
    |sp had=>
     obtain⟨hc,hK⟩:=gd_out h
     simp only[Bool.and_eq_true,decide_eq_true_eq] at hc
     exact⟨_,_,fun w=>run_indexAr hu hs hc.1 hc.2,by rw[addA_eq,mulA_eq];exact .sp had,hK⟩
    |@lit v=>
     split at h<;>first
      |(rename_i heq;cases heq;done)
      |skip
     ·rename_i g off heq
      cases heq
      obtain⟨hc,hK⟩:=gd_out h
      simp only[Bool.and_eq_true,decide_eq_true_eq] at hc
      exact⟨_,_,fun w=>run_indexAr hu hs hc.1 hc.2,by rw[addA_eq,mulA_eq];exact .lit,hK⟩
     ·exact h.elim
    |_=>exact h.elim
   ·exact h.elim
  ·exact h.elim
 ·exact h.elim
theorem indexAddrA_ok {t:TypeId} {a b:AVal} {x y:Value} {K:AVal->AHeap->Prop} (h:indexAddrA P t a b (fun x=>K x H)) (hi:Inv w0 F0 ι H w) (hd:Den ι a x) (hd':Den ι b y):Ok w0 F0 ι K ((Instr.indexAt t x y).run P w):=by
 obtain⟨x,y,hrun,hden,hK⟩:=indexAddrA_st h hd hd'
 rw[hrun w]
 exact⟨_,_,ι,hK,hden,Inj.le_refl _,hi⟩
def indexA (P:Program) (t:TypeId) (x i:AVal) (K:AVal->Prop):Prop:=
 match i with
 | .lit (.int _ n)=>match P.underlying t,x with
   |some .string,.str l=>gd (decide (0<=n)&&decide (n<(l.length:Int))) (K (.lit (byteV (l.getD n.toNat 0))))
   |some .string,.rope r=>gd (decide (0<=n)) (ropeAt r n.toNat K)
   |_,_=>False
 |_=>False
theorem indexA_ok {t:TypeId} {a b:AVal} {x y:Value} {K:AVal->AHeap->Prop} (h:indexA P t a b (fun x=>K x H)) (hi:Inv w0 F0 ι H w) (hd:Den ι a x) (hd':Den ι b y):Ok w0 F0 ι K ((Instr.index t x y).run P w):=by
 unfold indexA at h
 split at h
 ·rename_i k n
  cases hd'
  split at h
  ·rename_i l hu
   obtain⟨hc,hK⟩:=gd_out h
   simp only[Bool.and_eq_true,decide_eq_true_eq] at hc
   cases hd
   have hlt:n.toNat<l.length:=by omega
   have hget:(⟨l.toArray⟩:ByteArray)[n.toNat]?=some l[n.toNat]:=by
    have hsz:n.toNat<(⟨l.toArray⟩:ByteArray).size:=by simpa[ByteArray.size] using hlt
    exact(getElem?_pos (⟨l.toArray⟩:ByteArray) n.toNat hsz).trans rfl
   simp only[Instr.index,asIntOf,Sem.run_bind,Sem.run_pure,Result.andThen_ok,run_underlying hu]
   rw[if_pos hc.1,hget]
   refine⟨_,_,ι,hK,?_,Inj.le_refl _,hi⟩
   simp only[List.getD,List.getElem?_eq_getElem hlt,Option.getD_some]
   exact .lit
  ·rename_i r hu
   obtain⟨hc,hK⟩:=gd_out h
   simp only[decide_eq_true_eq] at hc
   cases hd
   obtain⟨b,z,hb,hz,hK⟩:=ropeAt_ok (ι:=ι) hK
   have hlt:n.toNat<(flat r).length:=(List.getElem?_eq_some_iff.1 hb).1
   have hget:(⟨(flat r).toArray⟩:ByteArray)[n.toNat]?=some b:=by
    have hsz:n.toNat<(⟨(flat r).toArray⟩:ByteArray).size:=by simpa[ByteArray.size] using hlt
    refine(getElem?_pos (⟨(flat r).toArray⟩:ByteArray) n.toNat hsz).trans ?_
    rw[←hb,List.getElem?_eq_getElem hlt]
    rfl
   simp only[Instr.index,asIntOf,Sem.run_bind,Sem.run_pure,Result.andThen_ok,run_underlying hu]
   rw[if_pos hc,hget]
   exact⟨_,_,ι,hK,hz,Inj.le_refl _,hi⟩
  ·exact h.elim
 ·exact h.elim
def loA:Option AVal->Option Int
 |none=>some 0
 |some (.lit (.int _ n))=>some n
 |_=>none
def strSl (l:List UInt8):Option AVal->Option AVal->List UInt8
 |none,none=>l
 |none,some (.lit (.int _ h))=>l.take h.toNat
 |some (.lit (.int _ lo)),none=>l.drop lo.toNat
 |some (.lit (.int _ lo)),some (.lit (.int _ h))=>(l.take h.toNat).drop lo.toNat
 |_,_=>l
def hiA (d:Nat):Option AVal->Option Int
 |none=>some d
 |some (.lit (.int _ n))=>some n
 |_=>none
def slOff (off:Nat) (sz:Nat):Option AVal->Nat
 |some (.lit (.int _ n))=>addA off (mulA n.toNat sz)
 |_=>off
def subA (h:Nat):Option AVal->Nat
 |some (.lit (.int _ n))=>h-n.toNat
 |_=>h
def capLow (len:Nat):ACap->Nat
 | .n k=>k
 | .u _ _=>len
 | .x=>len
theorem capLow_le {len c:Nat} {cap:ACap} (h:cap.den ι c) (hl:len<=c):capLow len cap<=c:=by
 cases cap with
 |n k=>cases h;exact Nat.le_refl _
 |u i s=>exact hl
 |x=>exact hl
def subCap:ACap->Option AVal->ACap
 | .n k,lo=>.n (subA k lo)
 | .u i s,some (.lit (.int _ n))=>.u i (s+n.toNat)
 |c,_=>c
inductive ODen (ι:Inj):Option AVal->Option Value->Prop
 |none:ODen ι .none .none
 |some {a:AVal} {v:Value} (h:Den ι a v):ODen ι (.some a) (.some v)
def sliceA (P:Program) (t:TypeId) (x:AVal) (lo hi mx:Option AVal) (K:AVal->Prop):Prop:=
 match P.underlying t,x with
 |some .string,.str l=>match mx,loA lo,hiA l.length hi with
  |none,some a,some b=>gd (decide (0<=a)&&(decide (a<=b)&&decide (b<=(l.length:Int)))) (K (.str (strSl l lo hi)))
  |_,_,_=>False
 |some .string,.rope r=>match mx,lo,hi with
  |none,some (.lit (.int _ a)),none=>match dropR r a.toNat with
   |some r'=>gd (decide (0<=a)) (K (.rope r'))
   |none=>False
  |_,_,_=>False
 |some (.slice e),.slc id off len cap=>match szA P e,loA lo,hiA len hi,mx with
  |some sz,some a,some b,none=>gd ((decide (0<=a))&&(decide (a<=b)&&decide (b<=(capLow len cap:Int)))) (K (.slc id (slOff off sz lo) (subA b.toNat lo) (subCap cap lo)))
  |some sz,some a,some b,some (.lit (.int _ m))=>gd (hi.isSome&&(decide (0<=a))&&(decide (a<=b)&&(decide (b<=m)&&decide (m<=(capLow len cap:Int))))) (K (.slc id (slOff off sz lo) (subA b.toNat lo) (.n (subA m.toNat lo))))
  |_,_,_,_=>False
 |some (.slice e),.by_ l=>match szA P e,loA lo,hiA l.length hi,mx with
  |some sz,some a,some b,none=>gd (Nat.beq sz 1&&((decide (0<=a))&&(decide (a<=b)&&decide (b<=(l.length:Int))))) (K (.by_ (strSl l lo hi)))
  |_,_,_,_=>False
 |some (.slice e),.fam f n=>match szA P e,loA lo,hiA n hi,mx with
  |some sz,some a,some b,none=>gd (Nat.beq sz 1&&((decide (0<=a))&&(decide (a<=b)&&decide (b<=(n:Int))))) (K (.fam (fun k=>f (slOff 0 1 lo+k)) (subA b.toNat lo)))
  |_,_,_,_=>False
 |some (.slice e),.lit (.slice none 0 0)=>match loA lo,hiA 0 hi,mx,szA P e with
  |some a,some b,none,some _=>gd (decide (a=0)&&decide (b=0)) (K (.lit (.slice none 0 0)))
  |_,_,_,_=>False
 |_,_=>False
theorem loA_ok {lo:Option AVal} {lv:Option Value} {a:Int} (h:loA lo=some a) (hd:ODen ι lo lv):(lv=none/\lo=none/\a=0)\/(∃k,lv=some (.int k a)/\lo=some (.lit (.int k a))):=by
 cases hd with
 |none=>simp[loA] at h;exact .inl ⟨rfl,rfl,h.symm⟩
 |some hd=>
  cases hd<;>simp[loA] at h
  rename_i v
  cases v<;>simp at h
  subst h
  exact .inr ⟨_,rfl,rfl⟩
theorem hiA_ok {lo:Option AVal} {lv:Option Value} {d:Nat} {a:Int} (h:hiA d lo=some a) (hd:ODen ι lo lv):(lv=none/\lo=none/\a=d)\/(∃k,lv=some (.int k a)/\lo=some (.lit (.int k a))):=by
 cases hd with
 |none=>simp[hiA] at h;exact .inl ⟨rfl,rfl,h.symm⟩
 |some hd=>
  cases hd<;>simp[hiA] at h
  rename_i v
  cases v<;>simp at h
  subst h
  exact .inr ⟨_,rfl,rfl⟩
theorem run_sliceBound {k:IntKind} {n:Int} {y:Nat} {c:BoundsCode} (h0:0<=n) (h1:n<=y):(Instr.sliceBound (.int k n) y c).run P w=.ok n.toNat w:=by
 simp[Instr.sliceBound,asIntOf,h0,h1]
theorem extract_str (l:List UInt8) (a b:Nat):(⟨l.toArray⟩:ByteArray).extract a b=⟨((l.take b).drop a).toArray⟩:=by
 apply ByteArray.ext
 rw[ByteArray.data_extract]
 simp[←Array.toList_inj]
 rw[List.drop_take]
theorem run_slice2 {t e:TypeId} {base:Option Addr} {len c sz:Nat} {lo hi:Option AVal} {lv hv:Option Value} {a b:Int} (hu:P.underlying t=some (.slice e)) (hs:szA P e=some sz) (hl:ODen ι lo lv) (hh:ODen ι hi hv) (ha:loA lo=some a) (hb:hiA len hi=some b)
 (h0:0<=a) (h1:a<=b) (h2:b<=(c:Int)):(Instr.sliceAt t (.slice base len c) lv hv none).run P w=.ok (.slice (if c=a.toNat then base else base.map (·.add (a.toNat*sz))) (b.toNat-a.toNat) (c-a.toNat)) w:=by
 have hs:=run_sizeOf (w:=w) hs
 have hb0:0<=b:=by omega
 have hab:a<=(b.toNat:Int):=by omega
 rcases loA_ok ha hl with⟨rfl,rfl,rfl⟩|⟨k,rfl,rfl⟩<;>rcases hiA_ok hb hh with⟨rfl,rfl,rfl⟩|⟨k',rfl,rfl⟩
 ·simp[Instr.sliceAt,Instr.slice,run_underlying hu,Instr.sliceBounds,hs]
 ·simp[Instr.sliceAt,Instr.slice,run_underlying hu,Instr.sliceBounds,hs,run_sliceBound hb0 h2]
 ·have:a<=(len:Int):=h1
  simp[Instr.sliceAt,Instr.slice,run_underlying hu,Instr.sliceBounds,hs,run_sliceBound h0 this]
 ·simp[Instr.sliceAt,Instr.slice,run_underlying hu,Instr.sliceBounds,hs,run_sliceBound hb0 h2,run_sliceBound h0 hab]
theorem strSl_eq {l:List UInt8} {lo hi:Option AVal} {lv hv:Option Value} {a b:Int} (hl:ODen ι lo lv) (hh:ODen ι hi hv) (ha:loA lo=some a) (hb:hiA l.length hi=some b):strSl l lo hi=(l.take b.toNat).drop a.toNat:=by
 rcases loA_ok ha hl with⟨_,rfl,rfl⟩|⟨k,_,rfl⟩<;>rcases hiA_ok hb hh with⟨_,rfl,rfl⟩|⟨k',_,rfl⟩<;>simp[strSl]
theorem subA_eq {b a:Int} {lo:Option AVal} {lv:Option Value} (hl:ODen ι lo lv) (ha:loA lo=some a):subA b.toNat lo=b.toNat-a.toNat:=by
 rcases loA_ok ha hl with⟨_,rfl,rfl⟩|⟨k,_,rfl⟩<;>simp[subA]
theorem sliceA_ok {t:TypeId} {x:AVal} {xv:Value} {lo hi mx:Option AVal} {lv hv mv:Option Value} {K:AVal->AHeap->Prop} (h:sliceA P t x lo hi mx (fun x=>K x H)) (hinv:Inv w0 F0 ι H w) (hd:Den ι x xv)
 (hl:ODen ι lo lv) (hh:ODen ι hi hv) (hm:ODen ι mx mv):Ok w0 F0 ι K ((Instr.sliceAt t xv lv hv mv).run P w):=by
 unfold sliceA at h
 split at h
 ·rename_i l hu
  cases hd
  split at h
  ·rename_i a b ha hb
   obtain⟨hc,hK⟩:=gd_out h
   simp only[Bool.and_eq_true,decide_eq_true_eq] at hc
   obtain⟨h0,h1,h2⟩:=hc
   cases hm
   have hsz:(⟨l.toArray⟩:ByteArray).size=l.length:=by simp[ByteArray.size]
   have h2':b<=((⟨l.toArray⟩:ByteArray).size:Int):=by rw[hsz];exact h2
   have hb0:0<=b:=by omega
   have hrun:(Instr.sliceAt t (.string ⟨l.toArray⟩) lv hv none).run P w=.ok (.string ⟨(strSl l lo hi).toArray⟩) w:=by
    rcases loA_ok ha hl with⟨rfl,rfl,rfl⟩|⟨k,rfl,rfl⟩<;>rcases hiA_ok hb hh with⟨rfl,rfl,rfl⟩|⟨k',rfl,rfl⟩
    ·simp[Instr.sliceAt,Instr.slice,run_underlying hu,Instr.sliceBounds,strSl,extract_str,hsz]
    ·simp[Instr.sliceAt,Instr.slice,run_underlying hu,Instr.sliceBounds,run_sliceBound hb0 h2',strSl,extract_str]
    ·simp[Instr.sliceAt,Instr.slice,run_underlying hu,Instr.sliceBounds,hsz,run_sliceBound h0 h1,strSl,extract_str]
    ·have h1':a<=(b.toNat:Int):=by omega
     simp[Instr.sliceAt,Instr.slice,run_underlying hu,Instr.sliceBounds,run_sliceBound hb0 h2',run_sliceBound h0 h1',strSl,extract_str]
   rw[hrun]
   exact⟨_,_,ι,hK,.str,Inj.le_refl _,hinv⟩
  ·exact h.elim
 ·rename_i r hu
  cases hd
  split at h
  ·rename_i k a
   split at h
   ·rename_i r' hr'
    obtain⟨hc,hK⟩:=gd_out h
    simp only[decide_eq_true_eq] at hc
    obtain⟨h1,h2⟩:=dropR_ok hr'
    cases hm;cases hh
    cases hl with
    |some hl=>
    cases hl
    have hsz:(⟨(flat r).toArray⟩:ByteArray).size=(flat r).length:=by simp[ByteArray.size]
    have h3:a<=((flat r).length:Int):=by omega
    have hrun:(Instr.sliceAt t (.string ⟨(flat r).toArray⟩) (some (.int k a)) none none).run P w=.ok (.string ⟨(flat r').toArray⟩) w:=by
     rw[h1]
     simp[Instr.sliceAt,Instr.slice,run_underlying hu,Instr.sliceBounds,hsz,run_sliceBound hc h3,extract_str]
    rw[hrun]
    exact⟨_,_,ι,hK,.rope,Inj.le_refl _,hinv⟩
   ·exact h.elim
  ·exact h.elim
 ·rename_i e id off len cap hu
  cases hd with
  |slc hr hle ho hcap=>
  rename_i off' r c
  have hlow:=capLow_le hcap hle
  split at h
  ·rename_i sz a b hs ha hb
   obtain⟨hc,hK⟩:=gd_out h
   simp only[Bool.and_eq_true,decide_eq_true_eq] at hc
   obtain⟨h0,h1,h2⟩:=hc
   cases hm
   have hb0:0<=b:=by omega
   have hbc:b<=(c:Int):=by omega
   have hab:a<=(b.toNat:Int):=by omega
   have hrun:(Instr.sliceAt t (.slice (some ⟨r,off',none⟩) len c) lv hv none).run P w=.ok (.slice (some (if c=a.toNat then⟨r,off',none⟩ else⟨r,off'+a.toNat*sz,none⟩)) (b.toNat-a.toNat) (c-a.toNat)) w:=by
    rcases loA_ok ha hl with⟨rfl,rfl,rfl⟩|⟨k,rfl,rfl⟩<;>rcases hiA_ok hb hh with⟨rfl,rfl,rfl⟩|⟨k',rfl,rfl⟩
    ·simp[Instr.sliceAt,Instr.slice,run_underlying hu,Instr.sliceBounds,run_sizeOf hs,addr_add]
    ·simp[Instr.sliceAt,Instr.slice,run_underlying hu,Instr.sliceBounds,run_sizeOf hs,addr_add,run_sliceBound hb0 hbc]
    ·have:a<=(len:Int):=h1
     simp[Instr.sliceAt,Instr.slice,run_underlying hu,Instr.sliceBounds,run_sizeOf hs,addr_add,run_sliceBound h0 this]
     split<;>rfl
    ·simp[Instr.sliceAt,Instr.slice,run_underlying hu,Instr.sliceBounds,run_sizeOf hs,addr_add,run_sliceBound hb0 hbc,run_sliceBound h0 hab]
     split<;>rfl
   rw[hrun]
   refine⟨_,_,ι,hK,?_,Inj.le_refl _,hinv⟩
   have eb:subA b.toNat lo=b.toNat-a.toNat:=by
    rcases loA_ok ha hl with⟨_,rfl,rfl⟩|⟨k,_,rfl⟩<;>simp[subA]
   have eo:slOff off sz lo=off+a.toNat*sz:=by
    rcases loA_ok ha hl with⟨_,rfl,rfl⟩|⟨k,_,rfl⟩<;>simp[slOff,addA_eq,mulA_eq]
   have ec:(subCap cap lo).den ι (c-a.toNat):=by
    cases cap with
    |n k=>
     cases hcap
     rcases loA_ok ha hl with⟨_,rfl,rfl⟩|⟨k,_,rfl⟩<;>simp[subCap,subA,ACap.den]
    |u i s=>
     obtain⟨d,hd,h63,rfl⟩:=hcap
     rcases loA_ok ha hl with⟨_,rfl,rfl⟩|⟨k,_,rfl⟩
     ·exact⟨d,hd,h63,by simp⟩
     ·exact⟨d,hd,h63,by omega⟩
    |x=>
     rcases loA_ok ha hl with⟨_,rfl,rfl⟩|⟨k,_,rfl⟩<;>exact trivial
   rw[eb,eo]
   by_cases hma:c=a.toNat
   ·rw[if_pos hma]
    exact .slc hr (by omega) (.inr (by omega)) ec
   ·rw[if_neg hma]
    refine .slc hr (by omega) ?_ ec
    rcases ho with ho|ho
    ·exact .inl (by rw[ho])
    ·exact .inr (by omega)
  ·rename_i sz a b k2 m hs ha hb
   obtain⟨hc,hK⟩:=gd_out h
   simp only[Bool.and_eq_true,decide_eq_true_eq] at hc
   obtain⟨⟨hsome,h0⟩,h1,h2,h3⟩:=hc
   have hb0:0<=b:=by omega
   have hm0:0<=m:=by omega
   have h3':m<=(c:Int):=by omega
   have hbm:b<=(m.toNat:Int):=by omega
   have hab:a<=(b.toNat:Int):=by omega
   cases hm with
   |some hm=>
   cases hm
   have hrun:(Instr.sliceAt t (.slice (some ⟨r,off',none⟩) len c) lv hv (some (.int k2 m))).run P w=.ok (.slice (some (if m.toNat=a.toNat then⟨r,off',none⟩ else⟨r,off'+a.toNat*sz,none⟩)) (b.toNat-a.toNat) (m.toNat-a.toNat)) w:=by
    rcases loA_ok ha hl with⟨rfl,rfl,rfl⟩|⟨k,rfl,rfl⟩<;>rcases hiA_ok hb hh with⟨rfl,rfl,rfl⟩|⟨k',rfl,rfl⟩
    ·simp at hsome
    ·simp[Instr.sliceAt,Instr.slice,run_underlying hu,Instr.sliceBounds,run_sizeOf hs,addr_add,run_sliceBound hm0 h3',run_sliceBound hb0 hbm]
    ·simp at hsome
    ·simp[Instr.sliceAt,Instr.slice,run_underlying hu,Instr.sliceBounds,run_sizeOf hs,addr_add,run_sliceBound hm0 h3',run_sliceBound hb0 hbm,run_sliceBound h0 hab]
     split<;>rfl
   rw[hrun]
   refine⟨_,_,ι,hK,?_,Inj.le_refl _,hinv⟩
   have eb:subA b.toNat lo=b.toNat-a.toNat:=by
    rcases loA_ok ha hl with⟨_,rfl,rfl⟩|⟨k,_,rfl⟩<;>simp[subA]
   have em:subA m.toNat lo=m.toNat-a.toNat:=by
    rcases loA_ok ha hl with⟨_,rfl,rfl⟩|⟨k,_,rfl⟩<;>simp[subA]
   have eo:slOff off sz lo=off+a.toNat*sz:=by
    rcases loA_ok ha hl with⟨_,rfl,rfl⟩|⟨k,_,rfl⟩<;>simp[slOff,addA_eq,mulA_eq]
   rw[eb,em,eo]
   by_cases hma:m.toNat=a.toNat
   ·rw[if_pos hma]
    exact .slc hr (by omega) (.inr (by omega)) rfl
   ·rw[if_neg hma]
    refine .slc hr (by omega) ?_ rfl
    rcases ho with ho|ho
    ·exact .inl (by rw[ho])
    ·exact .inr (by omega)
  ·exact h.elim
 ·rename_i e l hu
  split at h<;>try exact h.elim
  rename_i sz a b hs ha hb
  obtain⟨hc,hK⟩:=gd_out h
  simp only[Bool.and_eq_true,decide_eq_true_eq] at hc
  obtain⟨hsz,h0,h1,h2⟩:=hc
  have hsz:=Nat.eq_of_beq_eq_true hsz
  subst hsz
  cases hm
  rw[strSl_eq hl hh ha hb] at hK
  have hlen:((l.take b.toNat).drop a.toNat).length=b.toNat-a.toNat:=by simp;omega
  cases hd with
  |@by_ _ r c off pre rest e' fz hm hle ho=>
   rw[run_slice2 hu hs hl hh ha hb h0 h1 (by omega)]
   refine⟨_,_,ι,hK,?_,Inj.le_refl _,hinv⟩
   by_cases hz:b.toNat-a.toNat=0
   ·have hnil:(l.take b.toNat).drop a.toNat=[]:=List.length_eq_zero_iff.1 (by omega)
    rw[hnil,hz]
    exact .by0
   ·rw[if_neg (by omega),←hlen]
    simp only[Option.map_some,addr_add,Nat.mul_one]
    refine .by_ (pre:=pre++(l.take a.toNat).map byteV) (rest:=(l.drop b.toNat).map byteV++rest) (e:=e') (fz:=fz) ?_ (by omega) (by simp;omega)
    rw[hm]
    congr 2
    have e1:l=l.take a.toNat++((l.take b.toNat).drop a.toNat++l.drop b.toNat):=by
     rw[List.drop_take]
     have:l.drop b.toNat=(l.drop a.toNat).drop (b.toNat-a.toNat):=by rw[List.drop_drop];congr 1;omega
     rw[this,List.take_append_drop,List.take_append_drop]
    conv=>lhs;rw[e1]
    simp only[List.map_append,List.append_assoc]
  |by0=>
   have hbz:b=0:=by simp at h2;omega
   have haz:a=0:=by omega
   subst hbz;subst haz
   rw[run_slice2 hu hs hl hh (len:=0) ha hb h0 h1 (by omega)]
   refine⟨_,_,ι,hK,?_,Inj.le_refl _,hinv⟩
   exact .by0
 ·rename_i e f n hu
  split at h<;>try exact h.elim
  rename_i sz a b hs ha hb
  obtain⟨hc,hK⟩:=gd_out h
  simp only[Bool.and_eq_true,decide_eq_true_eq] at hc
  obtain⟨hsz,h0,h1,h2⟩:=hc
  have hsz:=Nat.eq_of_beq_eq_true hsz
  subst hsz
  cases hm
  have eo:slOff 0 1 lo=a.toNat:=by
   rcases loA_ok ha hl with⟨_,rfl,rfl⟩|⟨k,_,rfl⟩<;>simp[slOff,addA_eq,mulA_eq]
  rw[subA_eq hl ha,eo] at hK
  cases hd with
  |@fam _ _ r c off pre vs rest e' fz hm hn hv hle ho=>
   rw[run_slice2 hu hs hl hh ha hb h0 h1 (by omega)]
   refine⟨_,_,ι,hK,?_,Inj.le_refl _,hinv⟩
   by_cases hz:b.toNat-a.toNat=0
   ·rw[hz]
    exact .fam0
   ·rw[if_neg (by omega)]
    simp only[Option.map_some,addr_add,Nat.mul_one]
    refine .fam (pre:=pre++vs.take a.toNat) (vs:=(vs.take b.toNat).drop a.toNat) (rest:=vs.drop b.toNat++rest) (e:=e') (fz:=fz) ?_ (by simp;omega) (fun k v hk=>?_) (by omega) (by simp;omega)
    ·rw[hm]
     congr 2
     have e1:vs=vs.take a.toNat++((vs.take b.toNat).drop a.toNat++vs.drop b.toNat):=by
      rw[List.drop_take]
      have:vs.drop b.toNat=(vs.drop a.toNat).drop (b.toNat-a.toNat):=by rw[List.drop_drop];congr 1;omega
      rw[this,List.take_append_drop,List.take_append_drop]
     conv=>lhs;rw[e1]
     simp only[List.append_assoc]
    ·rw[List.getElem?_drop,List.getElem?_take] at hk
     split at hk
     ·exact hv _ _ hk
     ·cases hk
  |fam0=>
   have hbz:b=0:=by omega
   have haz:a=0:=by omega
   subst hbz;subst haz
   rw[run_slice2 hu hs hl hh ha hb h0 h1 (by omega)]
   refine⟨_,_,ι,hK,?_,Inj.le_refl _,hinv⟩
   exact .fam0
 ·rename_i e hu
  cases hd
  split at h
  ·rename_i a b sz ha hb hs
   obtain⟨hc,hK⟩:=gd_out h
   simp only[Bool.and_eq_true,decide_eq_true_eq] at hc
   obtain⟨rfl,rfl⟩:=hc
   have hs:=run_sizeOf (w:=w) hs
   cases hm
   have hrun:(Instr.sliceAt t (.slice none 0 0) lv hv none).run P w=.ok (.slice none 0 0) w:=by
    rcases loA_ok ha hl with⟨rfl,rfl,_⟩|⟨k,rfl,rfl⟩<;>rcases hiA_ok hb hh with⟨rfl,rfl,_⟩|⟨k',rfl,rfl⟩<;>
     simp[Instr.sliceAt,Instr.slice,run_underlying hu,Instr.sliceBounds,Instr.sliceBound,asIntOf,hs]
   rw[hrun]
   exact⟨_,_,ι,hK,.lit,Inj.le_refl _,hinv⟩
  ·exact h.elim
 ·exact h.elim
end
end Go.Sx
