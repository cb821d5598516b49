/- Lemmas of this claim; the last text says what is proved. -/
import Derived.Test.YtjkgmpkgfhhaiaaGreatK04
set_option linter.all false
namespace Go.Sx
open Go
variable [Syms]
def eqL:List UInt8->List UInt8->Bool
 |[],[]=>true
 |a::x,b::y=>cond (Nat.beq a.toNat b.toNat) (eqL x y) false
 |_,_=>false
theorem eqL_eq (a b:List UInt8):eqL a b=(a==b):=by
 induction a generalizing b with
 |nil=>cases b<;>simp[eqL]
 |cons x xs ih=>
  cases b with
  |nil=>simp[eqL]
  |cons y ys=>
   simp only[eqL,ih,List.cons_beq_cons]
   by_cases h:x=y
   ·subst h;simp[beq_self]
   ·have:x.toNat≠y.toNat:=fun e=>h (UInt8.toNat_inj.1 e)
    simp[beq_false this,h]
section
variable {P:Program} {w0 w:World} {F0:Fp} {ι:Inj} {H:AHeap}
theorem toList_mk (l:List UInt8):(⟨l.toArray⟩:ByteArray).toList=l:=by rw[ByteArray.toList_eq]
theorem beq_str (a b:List UInt8):((⟨a.toArray⟩:ByteArray)==⟨b.toArray⟩)=(a==b):=by
 rw[beq_toListBytes,toList_mk,toList_mk]
def bitsV (op:BinOp) (k:IntKind) (x y:Int):Value:=
 let a:=BitVec.ofInt k.bits x
 let b:=BitVec.ofInt k.bits y
 match op with
 | .and=>.int k (k.wrap (a &&& b).toNat)
 | .or=>.int k (k.wrap (a ||| b).toNat)
 | .xor=>.int k (k.wrap (a ^^^ b).toNat)
 |_=>.int k (k.wrap (a &&& ~~~b).toNat)
def intOpA (op:BinOp) (k:IntKind) (a b:Int) (K:AVal->Prop):Prop:=
 match op with
 | .add=>K (.lit (.int k (k.wrap (a+b))))
 | .sub=>K (.lit (.int k (k.wrap (a-b))))
 | .mul=>K (.lit (.int k (k.wrap (a*b))))
 | .quo=>gd (!(b==0)) (K (.lit (.int k (k.wrap (a.tdiv b)))))
 | .rem=>gd (!(b==0)) (K (.lit (.int k (a.tmod b))))
 | .and=>K (.lit (bitsV .and k a b))
 | .or=>K (.lit (bitsV .or k a b))
 | .xor=>K (.lit (bitsV .xor k a b))
 | .andNot=>K (.lit (bitsV .andNot k a b))
 | .eql=>K (.lit (.bool (a==b)))
 | .neq=>K (.lit (.bool (a !=b)))
 | .lss=>K (.lit (.bool (decide (a<b))))
 | .leq=>K (.lit (.bool (decide (a<=b))))
 | .gtr=>K (.lit (.bool (decide (a>b))))
 | .geq=>K (.lit (.bool (decide (a≥b))))
 |_=>False
def strOpA (op:BinOp) (a b:List UInt8) (K:AVal->Prop):Prop:=
 match op with
 | .add=>gd (Nat.ble (a.length+b.length) 9223372036854775807) (K (.str (a++b)))
 | .eql=>K (.lit (.bool (eqL a b)))
 | .neq=>K (.lit (.bool (!eqL a b)))
 | .lss=>K (.lit (.bool (Op.bytesLess a b)))
 | .leq=>K (.lit (.bool (Op.bytesLess a b||eqL a b)))
 | .gtr=>K (.lit (.bool (!(Op.bytesLess a b||eqL a b))))
 | .geq=>K (.lit (.bool (!Op.bytesLess a b)))
 |_=>False
def optK (o:Option Bool) (K:Bool->Prop):Prop:=match o with
 |some b=>K b
 |none=>False
theorem optK_out {o:Option Bool} {K:Bool->Prop} (h:optK o K):∃b,o=some b/\K b:=by
 cases o with
 |none=>exact h.elim
 |some b=>exact⟨b,rfl,h⟩
def rowA (H:AHeap) (i:Nat):Bool:=match H.get i with|some (.row ..)=>true|_=>false
def stRow (H:AHeap) (x:SId):Bool:=match H.st x with|some (.row ..)=>true|_=>false
def sidB (x y:SId):Bool:=Nat.beq x.k y.k&&(Nat.beq x.i y.i&&Nat.beq x.j y.j)
theorem sidB_eq {x y:SId} (h:sidB x y=true):x=y:=by
 simp only[sidB,Bool.and_eq_true] at h
 cases x;cases y
 simp only[SId.mk.injEq]
 exact⟨Nat.eq_of_beq_eq_true h.1,Nat.eq_of_beq_eq_true h.2.1,Nat.eq_of_beq_eq_true h.2.2⟩
theorem sidB_self (x:SId):sidB x x=true:=by simp[sidB,beq_self]
theorem stRow_ok {x:SId} {r:Nat} (h:stRow H x=true) (had:ι.ad x=some r) (hi:Inv w0 F0 ι H w):∃vs e o,ι.m r=some o/\w.heap[r]?=some (.cells vs e (0,0)):=by
 unfold stRow at h
 split at h
 ·rename_i cs e tot hg
  obtain⟨o,hm,ho,hb⟩:=hi.stat hg had
  obtain⟨vs,rest,rfl,_⟩:=hb
  exact⟨_,e,_,hm,ho⟩
 ·cases h
def eqA (P:Program):Nat->TypeId->AVal->AVal->AHeap->Bool->(Bool->Prop)->Prop
 |0,_,_,_,_,_,_=>False
 |n+1,t,x,y,H,c,K=>
  match P.underlying t with
  |some .bool=>match x,y with
   | .lit (.bool a),.lit (.bool b)=>K (a==b)
   |_,_=>False
  |some (.int _)=>match x,y with
   | .lit (.int k a),.lit (.int k' b)=>gd (decide (k=k')) (K (a==b))
   |_,_=>False
  |some .string=>match x,y with
   | .str a,.str b=>K (eqL a b)
   | .rope a,.str b=>optK (eqR a (litR b)) K
   | .str a,.rope b=>optK (eqR (litR a) b) K
   | .rope a,.rope b=>optK (eqR a b) K
   |_,_=>False
  |some (.pointer e)=>match x,y with
   | .lit (.pointer none),.lit (.pointer none)=>K true
   | .lit (.pointer none),.ptr _ _=>K false
   | .ptr _ _,.lit (.pointer none)=>K false
   | .ptr i o,.ptr j o'=>match szA P e with
     |some (_+1)=>gd (rowA H i&&rowA H j) (K (Nat.beq i j&&Nat.beq o o'))
     |_=>False
   | .lit (.pointer none),.sp _ _=>K false
   | .sp _ _,.lit (.pointer none)=>K false
   | .lit (.pointer none),.fpt _ _=>K false
   | .fpt _ _,.lit (.pointer none)=>K false
   | .sp i o,.sp j o'=>match szA P e with
     |some (_+1)=>gd (stRow H i&&stRow H j) (K (sidB i j&&Nat.beq o o'))
     |_=>False
   |_,_=>False
  |some (.interface _)=>match x,y with
   | .lit .nilIface,.lit .nilIface=>gd c (K true)
   | .lit .nilIface,.ifc _ _=>K false
   | .ifc _ _,.lit .nilIface=>K false
   | .ifc tx vx,.ifc ty vy=>cond (Nat.beq tx ty) (gd (((P.info? tx).map (·.comparable)).getD false) (eqA P n tx vx vy H false K)) (K false)
   |_,_=>False
  |some (.slice _)=>match x,y with
   | .lit (.slice none _ _),.lit (.slice none _ _)=>K true
   | .lit (.slice none _ _),.slc _ _ _ _=>K false
   | .slc _ _ _ _,.lit (.slice none _ _)=>K false
   | .lit (.slice none _ _),.rsl _ _ _ _=>K false
   | .rsl _ _ _ _,.lit (.slice none _ _)=>K false
   | .ssl _ _ _,.lit (.slice none _ _)=>K false
   | .lit (.slice none _ _),.ssl _ _ _=>K false
   |_,_=>False
  |some (.map _ _)=>match x,y with
   | .lit (.map none),.lit (.map none)=>K true
   | .lit (.map none),.map _=>K false
   | .map _,.lit (.map none)=>K false
   | .lit (.map none),.smp _=>K false
   | .smp _,.lit (.map none)=>K false
   |_,_=>False
  |some (.func _ _ _)=>match x,y with
   | .lit .nilFunc,.lit .nilFunc=>K true
   | .lit .nilFunc,.fn _ _ _=>K false
   | .fn _ _ _,.lit .nilFunc=>K false
   |_,_=>False
  |_=>False
theorem rowA_ok {i:Nat} (h:rowA H i=true) (hi:Inv w0 F0 ι H w):∃cs e tot r vs,H.get i=some (.row cs e tot)/\ι i=some r/\w.heap[r]?=some (.cells vs e (0,0)):=by
 unfold rowA at h
 split at h
 ·rename_i cs e tot hg
  obtain⟨r,o,hr,ho,hb,_⟩:=hi.blk _ _ hg
  obtain⟨vs,rest,rfl,_⟩:=hb
  exact⟨cs,e,tot,r,_,hg,hr,ho⟩
 ·cases h
set_option maxHeartbeats 3200000 in
theorem eqA_ok:∀(n d:Nat) {t:TypeId} {x y:AVal} {a b:Value} {c:Bool} {K:Bool->Prop},eqA P n t x y H c K->Inv w0 F0 ι H w->Den ι x a->Den ι y b->∃r,(Op.equalIn (d+n) t a b).run P w=.ok r w/\K r:=by
 intro n
 induction n with
 |zero=>intro d t x y a b c K h;exact h.elim
 |succ n ih=>
  intro d t x y a b c K h hi hx hy
  have e1:d+(n+1)=(d+n)+1:=by omega
  rw[e1]
  simp only[eqA] at h
  split at h
  ·rename_i hu
   split at h
   ·cases hx;cases hy
    exact⟨_,by simp[Op.equalIn,run_underlying hu],h⟩
   ·exact h.elim
  ·rename_i hu
   split at h
   ·cases hx;cases hy
    obtain⟨hk,hK⟩:=gd_out h
    simp only[decide_eq_true_eq] at hk
    exact⟨_,by simp[Op.equalIn,run_underlying hu,hk],hK⟩
   ·exact h.elim
  ·rename_i hu
   split at h
   ·cases hx;cases hy
    exact⟨_,by simp[Op.equalIn,run_underlying hu,eqL_eq,beq_str],h⟩
   ·cases hx;cases hy
    obtain⟨b,hb,hK⟩:=optK_out h
    have hb:=eqR_ok hb
    rw[flat_litR] at hb
    exact⟨b,by simp[Op.equalIn,run_underlying hu,beq_str,hb],hK⟩
   ·cases hx;cases hy
    obtain⟨b,hb,hK⟩:=optK_out h
    have hb:=eqR_ok hb
    rw[flat_litR] at hb
    exact⟨b,by simp[Op.equalIn,run_underlying hu,beq_str,hb],hK⟩
   ·cases hx;cases hy
    obtain⟨b,hb,hK⟩:=optK_out h
    have hb:=eqR_ok hb
    exact⟨b,by simp[Op.equalIn,run_underlying hu,beq_str,hb],hK⟩
   ·exact h.elim
  ·rename_i e hu
   split at h
   ·cases hx;cases hy
    exact⟨_,by simp[Op.equalIn,run_underlying hu],h⟩
   ·cases hx;cases hy
    exact⟨_,by simp[Op.equalIn,run_underlying hu],h⟩
   ·cases hx;cases hy
    exact⟨_,by simp[Op.equalIn,run_underlying hu],h⟩
   ·rename_i i o j o'
    cases hx with
    |ptr hr=>
    cases hy with
    |ptr hr'=>
    rename_i r1 r2
    split at h
    ·rename_i m hs
     obtain⟨hc,hK⟩:=gd_out h
     simp only[Bool.and_eq_true] at hc
     obtain⟨cs,e1,t1,ra,va,hg1,hra,hwa⟩:=rowA_ok hc.1 hi
     obtain⟨cs',e2,t2,rb,vb,hg2,hrb,hwb⟩:=rowA_ok hc.2 hi
     rw[hr] at hra;cases hra
     rw[hr'] at hrb;cases hrb
     refine⟨_,?_,hK⟩
     simp only[Op.equalIn,Sem.run_bind,run_underlying hu,Result.andThen_ok,run_sizeOf hs]
     rw[if_pos (by omega)]
     unfold sameAddr
     by_cases hij:i=j
     ·subst hij
      rw[hr] at hr';cases hr'
      by_cases ho:o=o'
      ·subst ho;simp[beq_self]
      ·simp[ho,beq_false ho]
     ·have hne:r1≠r2:=fun e=>hij (hi.inj i j _ _ r1 hg1 hg2 hr (e▸hr'))
      have f1:w.frozen? ⟨r1,o,none⟩=false:=by rw[frozen_at hwa];simp
      have f2:w.frozen? ⟨r2,o',none⟩=false:=by rw[frozen_at hwb];simp
      have s1:w.shape? r1=some (e1,va.size):=by simp[World.shape?,hwa]
      have s2:w.shape? r2=some (e2,vb.size):=by simp[World.shape?,hwb]
      have g1:w.frozen? {block:=r1,off:=va.size}=false:=by rw[frozen_at hwa];simp
      have g2:w.frozen? {block:=r2,off:=vb.size}=false:=by rw[frozen_at hwb];simp
      simp[hne,f1,f2,noView,viewAt,s1,s2,mayBeOne,stringish,g1,g2,beq_false hij]
    ·exact h.elim
   ·cases hx;cases hy
    exact⟨_,by simp[Op.equalIn,run_underlying hu],h⟩
   ·cases hx;cases hy
    exact⟨_,by simp[Op.equalIn,run_underlying hu],h⟩
   ·cases hx;cases hy
    exact⟨_,by simp[Op.equalIn,run_underlying hu],h⟩
   ·cases hx;cases hy
    exact⟨_,by simp[Op.equalIn,run_underlying hu],h⟩
   ·rename_i i o j o'
    cases hx with
    |@sp _ _ ri hadi=>
    cases hy with
    |@sp _ _ rj hadj=>
    split at h
    ·rename_i m hs
     obtain⟨hc,hK⟩:=gd_out h
     simp only[Bool.and_eq_true] at hc
     obtain⟨va,e1,oa,hma,hwa⟩:=stRow_ok hc.1 hadi hi
     obtain⟨vb,e2,ob,hmb,hwb⟩:=stRow_ok hc.2 hadj hi
     refine⟨_,?_,hK⟩
     simp only[Op.equalIn,Sem.run_bind,run_underlying hu,Result.andThen_ok,run_sizeOf hs]
     rw[if_pos (by omega)]
     unfold sameAddr
     by_cases hij:i=j
     ·subst hij
      rw[hadi] at hadj;cases hadj
      by_cases ho:o=o'
      ·subst ho;simp[beq_self,sidB_self]
      ·simp[ho,beq_false ho]
     ·have hne:ri≠rj:=fun e=>hij (hi.fz.stinj i j ri hadi (by rw[e];exact hadj))
      have hsb:sidB i j=false:=by
       cases hb:sidB i j with
       |false=>rfl
       |true=>exact absurd (sidB_eq hb) hij
      have f1:w.frozen? ⟨ri,o,none⟩=false:=by rw[frozen_at hwa];simp
      have f2:w.frozen? ⟨rj,o',none⟩=false:=by rw[frozen_at hwb];simp
      have s1:w.shape? (ri)=some (e1,va.size):=by simp[World.shape?,hwa]
      have s2:w.shape? (rj)=some (e2,vb.size):=by simp[World.shape?,hwb]
      have g1:w.frozen? {block:=ri,off:=va.size}=false:=by rw[frozen_at hwa];simp
      have g2:w.frozen? {block:=rj,off:=vb.size}=false:=by rw[frozen_at hwb];simp
      simp[hne,f1,f2,noView,viewAt,s1,s2,mayBeOne,stringish,g1,g2,hsb]
    ·exact h.elim
   ·exact h.elim
  ·rename_i ms hu
   split at h
   ·cases hx;cases hy
    exact⟨_,by simp[Op.equalIn,run_underlying hu],(gd_out h).2⟩
   ·cases hx;cases hy
    exact⟨_,by simp[Op.equalIn,run_underlying hu],h⟩
   ·cases hx;cases hy
    exact⟨_,by simp[Op.equalIn,run_underlying hu],h⟩
   ·rename_i tx vx ty vy
    cases hx with
    |ifc hx=>
    cases hy with
    |ifc hy=>
    by_cases htt:tx=ty
    ·subst htt
     rw[beq_self] at h
     simp only[cond_true] at h
     obtain⟨hc,hK⟩:=gd_out h
     cases hinfo:P.info? tx with
     |none=>rw[hinfo] at hc;simp at hc
     |some info=>
      rw[hinfo] at hc
      simp at hc
      obtain⟨r,hrun,hKr⟩:=ih d hK hi hx hy
      exact⟨r,by simp[Op.equalIn,run_underlying hu,run_typeInfo hinfo,hc,hrun],hKr⟩
    ·rw[beq_false htt] at h
     exact⟨false,by simp[Op.equalIn,run_underlying hu,htt],h⟩
   ·exact h.elim
  ·rename_i e hu
   split at h
   ·cases hx;cases hy
    exact⟨_,by simp[Op.equalIn,run_underlying hu],h⟩
   ·cases hx;cases hy
    exact⟨_,by simp[Op.equalIn,run_underlying hu],h⟩
   ·cases hx;cases hy
    exact⟨_,by simp[Op.equalIn,run_underlying hu],h⟩
   ·cases hx;cases hy
    exact⟨_,by simp[Op.equalIn,run_underlying hu],h⟩
   ·cases hx;cases hy
    exact⟨_,by simp[Op.equalIn,run_underlying hu],h⟩
   ·cases hx;cases hy
    exact⟨_,by simp[Op.equalIn,run_underlying hu],h⟩
   ·cases hx;cases hy
    exact⟨_,by simp[Op.equalIn,run_underlying hu],h⟩
   ·exact h.elim
  ·rename_i k e hu
   split at h
   ·cases hx;cases hy
    exact⟨_,by simp[Op.equalIn,run_underlying hu],h⟩
   ·cases hx;cases hy
    exact⟨_,by simp[Op.equalIn,run_underlying hu],h⟩
   ·cases hx;cases hy
    exact⟨_,by simp[Op.equalIn,run_underlying hu],h⟩
   ·cases hx;cases hy
    exact⟨_,by simp[Op.equalIn,run_underlying hu],h⟩
   ·cases hx;cases hy
    exact⟨_,by simp[Op.equalIn,run_underlying hu],h⟩
   ·exact h.elim
  ·rename_i p r v hu
   split at h
   ·cases hx;cases hy
    exact⟨_,by simp[Op.equalIn,run_underlying hu],h⟩
   ·cases hx;cases hy
    exact⟨_,by simp[Op.equalIn,run_underlying hu],h⟩
   ·cases hx;cases hy
    exact⟨_,by simp[Op.equalIn,run_underlying hu],h⟩
   ·exact h.elim
  ·exact h.elim
theorem intOpA_ok {op:BinOp} {k:IntKind} {a b:Int} {K:AVal->Prop} (h:intOpA op k a b K):
 ∃v,(match op with| .add| .sub| .mul=>Op.intArith op k a b| .quo| .rem=>Op.intDiv op k a b| .and| .or| .xor| .andNot=>Op.intBits op k a b|_=>Op.intCmp op a b:Sem Value).run P w=.ok v w/\K (.lit v)/\op≠ .shl/\op≠ .shr:=by
 cases op<;>simp only[intOpA] at h<;>first
  |exact h.elim
  |exact⟨_,rfl,h,by simp,by simp⟩
  |(obtain⟨hc,hK⟩:=gd_out h
    simp at hc
    exact⟨_,by simp[Op.intDiv,hc],hK,by simp,by simp⟩)
end
end Go.Sx
namespace Go.Sx
open Go
variable [Syms]
def eqPair:AVal->AVal->Bool
 | .lit (.bool _),.lit (.bool _)=>true
 | .lit (.pointer none),.lit (.pointer none)=>true
 | .lit (.pointer none),.ptr _ _=>true
 | .ptr _ _,.lit (.pointer none)=>true
 | .ptr _ _,.ptr _ _=>true
 | .lit .nilIface,.lit .nilIface=>true
 | .lit .nilIface,.ifc _ _=>true
 | .ifc _ _,.lit .nilIface=>true
 | .ifc _ _,.ifc _ _=>true
 | .lit (.slice none _ _),.lit (.slice none _ _)=>true
 | .lit (.slice none _ _),.slc _ _ _ _=>true
 | .slc _ _ _ _,.lit (.slice none _ _)=>true
 | .lit (.slice none _ _),.rsl _ _ _ _=>true
 | .rsl _ _ _ _,.lit (.slice none _ _)=>true
 | .lit (.map none),.lit (.map none)=>true
 | .lit (.map none),.map _=>true
 | .map _,.lit (.map none)=>true
 | .lit .nilFunc,.lit .nilFunc=>true
 | .lit .nilFunc,.fn _ _ _=>true
 | .fn _ _ _,.lit .nilFunc=>true
 | .lit (.pointer none),.sp _ _=>true
 | .sp _ _,.lit (.pointer none)=>true
 | .sp _ _,.sp _ _=>true
 | .lit (.pointer none),.fpt _ _=>true
 | .fpt _ _,.lit (.pointer none)=>true
 | .lit (.slice none _ _),.ssl _ _ _=>true
 | .ssl _ _ _,.lit (.slice none _ _)=>true
 | .lit (.map none),.smp _=>true
 | .smp _,.lit (.map none)=>true
 |_,_=>false
def isC:Operand->Bool
 | .const _=>true
 |_=>false
def ropeOpA (op:BinOp) (a b:List Nat) (K:AVal->Prop):Prop:=
 match op with
 | .add=>gd (Nat.ble (hiR a+hiR b) 9223372036854775807) (K (.rope (a++b)))
 | .eql=>optK (eqR a b) (fun r=>K (.lit (.bool r)))
 | .neq=>optK (eqR a b) (fun r=>K (.lit (.bool (!r))))
 |_=>False
def ubOpA (op:BinOp) (m:Nat) (n:Int) (K:AVal->Prop):Prop:=
 match op with
 | .eql=>gd (decide (0<=n)&& !hasBit m n.toNat) (K (.lit (.bool false)))
 | .neq=>gd (decide (0<=n)&& !hasBit m n.toNat) (K (.lit (.bool true)))
 |_=>False
def binA (P:Program) (op:BinOp) (t:TypeId) (c:Bool) (x y:AVal) (H:AHeap) (K:AVal->Prop):Prop:=
 match x,y with
 | .lit (.int k a),.lit (.int k' b)=>
   match op with
   | .shl=>gd (decide (0<=b)) (K (.lit (.int k (k.wrap (a*2 ^ (min b.toNat k.bits))))))
   | .shr=>gd (decide (0<=b)) (K (.lit (.int k (a.fdiv (2 ^ (min b.toNat k.bits))))))
   |op=>gd (decide (k=k')) (intOpA op k a b K)
 | .str a,.str b=>strOpA op a b K
 | .rope a,.rope b=>ropeOpA op a b K
 | .rope a,.str b=>ropeOpA op a (litR b) K
 | .str a,.rope b=>ropeOpA op (litR a) b K
 | .lenr r,.lit (.int k n)=>gd (decide (k=.i64)) (optK (cmpLen op r n) (fun b=>K (.lit (.bool b))))
 | .ub m,.lit (.int k n)=>gd (decide (k=.u8)) (ubOpA op m n K)
 |x,y=>match op with
  | .eql=>gd (eqPair x y) (eqA P 8 t x y H c (fun r=>K (.lit (.bool r))))
  | .neq=>gd (eqPair x y) (eqA P 8 t x y H c (fun r=>K (.lit (.bool (!r)))))
  |_=>False
section
variable {P:Program} {w0 w:World} {F0:Fp} {ι:Inj} {H:AHeap}
theorem eqGuard_pass {op:BinOp} {t:TypeId} {x y:Operand} {a b:Value} (h:a=.nilIface->b=.nilIface->(isC x||isC y)=true) (h':∀c d,a=.agg c->b≠ .agg d):
 (eqGuard op t x y a b).run P w=.ok () w:=by
 unfold eqGuard
 cases op<;>first
  |rfl
  |(simp only[Bool.not_true,Bool.false_eq_true,if_false]
    split
    ·have:=h rfl rfl
     cases x<;>cases y<;>simp_all [isC]
    ·exact(h' _ _ rfl rfl).elim
    ·rfl)
theorem eqPair_ok {x y:AVal} {a b:Value} (h:eqPair x y=true) (hx:Den ι x a) (hy:Den ι y b) (t:TypeId):
 binOp .eql t a b=(do pure (.bool (←Op.equal t a b)))/\binOp .neq t a b=(do pure (.bool (!(←Op.equal t a b))))/\(∀c d,a=.agg c->b≠ .agg d)/\(a=.nilIface->b=.nilIface->x=.lit .nilIface/\y=.lit .nilIface):=by
 unfold eqPair at h
 split at h
 case h_30=>cases h
 all_goals
  cases hx
  cases hy
  refine⟨rfl,rfl,(fun _ _ e=>by cases e),fun e e'=>?_⟩
  first|exact⟨rfl,rfl⟩|(cases e;done)|(cases e';done)
theorem ropeOp_ok {op:BinOp} {t:TypeId} {a b:List Nat} {K:AVal->Prop} (h:ropeOpA op a b K):∃v z,(binOp op t (.string ⟨(flat a).toArray⟩) (.string ⟨(flat b).toArray⟩)).run P w=.ok v w/\Den ι z v/\K z:=by
 have hs:∀l:List UInt8,(⟨l.toArray⟩:ByteArray).size=l.length:=fun l=>by simp[ByteArray.size]
 unfold ropeOpA at h
 split at h
 ·obtain⟨hc,hK⟩:=gd_out h
  have hc:=ble_le hc
  have h1:=(len_R a).2
  have h2:=(len_R b).2
  have hm:IntKind.i64.max=9223372036854775807:=by decide
  refine⟨.string ⟨(flat (a++b)).toArray⟩,_,?_,.rope,hK⟩
  simp only[binOp,Op.stringOp,hs]
  rw[if_neg (by rw[hm];omega)]
  have he:(⟨(flat a).toArray⟩:ByteArray)++⟨(flat b).toArray⟩=⟨(flat (a++b)).toArray⟩:=by
   rw[flat_append]
   apply ByteArray.ext
   simp
  rw[he]
  rfl
 ·obtain⟨r,hr,hK⟩:=optK_out h
  have hr:=eqR_ok hr
  refine⟨.bool r,_,?_,.lit,hK⟩
  simp only[binOp,Op.stringOp,toList_mk,hr,Sem.run_pure]
 ·obtain⟨r,hr,hK⟩:=optK_out h
  have hr:=eqR_ok hr
  refine⟨.bool (!r),_,?_,.lit,hK⟩
  simp only[binOp,Op.stringOp,toList_mk,hr,Sem.run_pure]
 ·exact h.elim
theorem bin_ok {op:BinOp} {t:TypeId} {xo yo:Operand} {x y:AVal} {a b:Value} {K:AVal->AHeap->Prop} (h:binA P op t (isC xo||isC yo) x y H (fun v=>K v H)) (hi:Inv w0 F0 ι H w) (hx:Den ι x a) (hy:Den ι y b):
 Ok w0 F0 ι K ((do eqGuard op t xo yo a b;binOp op t a b:Sem Value).run P w):=by
 have out:∀{v:Value} {z:AVal},K z H->Den ι z v->(eqGuard op t xo yo a b).run P w=.ok () w->(binOp op t a b).run P w=.ok v w->Ok w0 F0 ι K ((do eqGuard op t xo yo a b;binOp op t a b:Sem Value).run P w):=by
  intro v z hK hz hg hb
  simp only[Sem.run_bind,hg,Result.andThen_ok,hb]
  exact⟨_,_,ι,hK,hz,Inj.le_refl _,hi⟩
 unfold binA at h
 split at h
 ·rename_i k n k' m
  cases hx;cases hy
  have hg:=eqGuard_pass (P:=P) (w:=w) (op:=op) (t:=t) (x:=xo) (y:=yo) (a:=.int k n) (b:=.int k' m) (fun h=>by cases h) (fun _ _ h=>by cases h)
  split at h
  ·obtain⟨h0,hK⟩:=gd_out h
   simp only[decide_eq_true_eq] at h0
   refine out hK .lit hg ?_
   simp[binOp,Op.shift,Int.not_lt.2 h0]
  ·obtain⟨h0,hK⟩:=gd_out h
   simp only[decide_eq_true_eq] at h0
   refine out hK .lit hg ?_
   simp[binOp,Op.shift,Int.not_lt.2 h0]
  ·obtain⟨hk,hK⟩:=gd_out h
   simp only[decide_eq_true_eq] at hk
   subst hk
   obtain⟨v,hrun,hK,h1,h2⟩:=intOpA_ok (P:=P) (w:=w) hK
   refine out hK .lit hg ?_
   rw[←hrun]
   cases op<;>first|exact(h1 rfl).elim|exact(h2 rfl).elim|(simp only[binOp,ne_eq,not_true,if_false])
 ·rename_i l m
  cases hx;cases hy
  have hg:=eqGuard_pass (P:=P) (w:=w) (op:=op) (t:=t) (x:=xo) (y:=yo) (a:=.string ⟨l.toArray⟩) (b:=.string ⟨m.toArray⟩) (fun h=>by cases h) (fun _ _ h=>by cases h)
  have hs:∀l:List UInt8,(⟨l.toArray⟩:ByteArray).size=l.length:=fun l=>by simp[ByteArray.size]
  by_cases hadd:op=.add
  ·subst hadd
   obtain⟨hc,hK⟩:=gd_out h
   have hc:=ble_le hc
   refine out hK .str hg ?_
   have hm:IntKind.i64.max=9223372036854775807:=by decide
   simp only[binOp,Op.stringOp,hs]
   rw[if_neg (by rw[hm];omega)]
   have he:(⟨l.toArray⟩:ByteArray)++⟨m.toArray⟩=⟨(l++m).toArray⟩:=by
    apply ByteArray.ext
    simp
   rw[he]
   rfl
  cases op<;>simp only[strOpA] at h<;>first
   |exact h.elim
   |exact(hadd rfl).elim
   |(refine out h .lit hg ?_
     simp only[binOp,Op.stringOp,toList_mk,eqL_eq,Sem.run_pure]
     done)
 ·rename_i a' b'
  cases hx;cases hy
  obtain⟨v,z,hrun,hz,hK⟩:=ropeOp_ok (P:=P) (w:=w) (ι:=ι) (t:=t) h
  exact out hK hz (eqGuard_pass (fun h=>by cases h) (fun _ _ h=>by cases h)) hrun
 ·rename_i a' b'
  cases hx;cases hy
  obtain⟨v,z,hrun,hz,hK⟩:=ropeOp_ok (P:=P) (w:=w) (ι:=ι) (t:=t) h
  rw[flat_litR] at hrun
  exact out hK hz (eqGuard_pass (fun h=>by cases h) (fun _ _ h=>by cases h)) hrun
 ·rename_i a' b'
  cases hx;cases hy
  obtain⟨v,z,hrun,hz,hK⟩:=ropeOp_ok (P:=P) (w:=w) (ι:=ι) (t:=t) h
  rw[flat_litR] at hrun
  exact out hK hz (eqGuard_pass (fun h=>by cases h) (fun _ _ h=>by cases h)) hrun
 ·rename_i r' k n
  cases hx;cases hy
  obtain⟨hk,hK⟩:=gd_out h
  simp only[decide_eq_true_eq] at hk
  subst hk
  obtain⟨b',hb,hK⟩:=optK_out hK
  have hrun:=cmpLen_ok (P:=P) (w:=w) hb
  refine out hK .lit (eqGuard_pass (fun h=>by cases h) (fun _ _ h=>by cases h)) ?_
  cases op<;>first|exact hrun|(simp[cmpLen] at hb;done)
 ·rename_i m k n
  cases hy
  obtain⟨hk,hK⟩:=gd_out h
  simp only[decide_eq_true_eq] at hk
  subst hk
  cases hx with
  |@ub _ b' hm=>
  unfold ubOpA at hK
  have key:∀{n:Int},(decide (0<=n)&& !hasBit m n.toNat)=true->((b'.toNat:Int)==n)=false:=by
   intro n hn
   simp only[Bool.and_eq_true,decide_eq_true_eq,Bool.not_eq_true'] at hn
   rw[beq_eq_false_iff_ne]
   intro e
   have:n.toNat=b'.toNat:=by omega
   rw[this,hm] at hn
   cases hn.2
  split at hK
  ·obtain⟨hc,hK⟩:=gd_out hK
   refine out hK .lit (eqGuard_pass (fun h=>by cases h) (fun _ _ h=>by cases h)) ?_
   simp only[binOp,ne_eq,not_true,if_false,Op.intCmp,key hc,Sem.run_pure]
  ·obtain⟨hc,hK⟩:=gd_out hK
   refine out hK .lit (eqGuard_pass (fun h=>by cases h) (fun _ _ h=>by cases h)) ?_
   have:=key hc
   have hn:((b'.toNat:Int)!=n)=true:=by rw[bne,this];rfl
   simp only[binOp,ne_eq,not_true,if_false,Op.intCmp,hn,Sem.run_pure]
  ·exact hK.elim
 ·rename_i h1 h2
  split at h
  ·obtain⟨hp,hK⟩:=gd_out h
   obtain⟨e1,_,e3,e4⟩:=eqPair_ok hp hx hy t
   obtain⟨r,hrun,hK'⟩:=eqA_ok 8 9992 hK hi hx hy
   refine out hK' .lit (eqGuard_pass (fun ha hb=>?_) e3) ?_
   ·obtain⟨rfl,rfl⟩:=e4 ha hb
    simp only[eqA] at hK
    split at hK<;>first|exact(gd_out hK).1|exact hK.elim|(split at hK<;>first|exact(gd_out hK).1|exact hK.elim|contradiction)
   ·rw[e1]
    have:Op.equal t a b=Op.equalIn (9992+8) t a b:=rfl
    simp[this,hrun]
  ·obtain⟨hp,hK⟩:=gd_out h
   obtain⟨_,e1,e3,e4⟩:=eqPair_ok hp hx hy t
   obtain⟨r,hrun,hK'⟩:=eqA_ok 8 9992 hK hi hx hy
   refine out hK' .lit (eqGuard_pass (fun ha hb=>?_) e3) ?_
   ·obtain⟨rfl,rfl⟩:=e4 ha hb
    simp only[eqA] at hK
    split at hK<;>first|exact(gd_out hK).1|exact hK.elim|(split at hK<;>first|exact(gd_out hK).1|exact hK.elim|contradiction)
   ·rw[e1]
    have:Op.equal t a b=Op.equalIn (9992+8) t a b:=rfl
    simp[this,hrun]
  ·exact h.elim
def unA (op:UnOp) (x:AVal) (K:AVal->Prop):Prop:=
 match op,x with
 | .not,.lit (.bool b)=>K (.lit (.bool (!b)))
 | .neg,.lit (.int k n)=>K (.lit (.int k (k.wrap (0-n))))
 |_,_=>False
theorem un_ok {op:UnOp} {x:AVal} {a:Value} {K:AVal->AHeap->Prop} (h:unA op x (fun v=>K v H)) (hi:Inv w0 F0 ι H w) (hx:Den ι x a):Ok w0 F0 ι K ((Op.unary op a).run P w):=by
 unfold unA at h
 split at h
 ·cases hx;exact⟨_,_,ι,h,.lit,Inj.le_refl _,hi⟩
 ·cases hx;exact⟨_,_,ι,h,.lit,Inj.le_refl _,hi⟩
 ·exact h.elim
def isU8 (P:Program) (e:TypeId):Bool:=match P.underlying e with|some (.int .u8)=>true|_=>false
theorem isU8_ok {e:TypeId} (h:isU8 P e=true):P.underlying e=some (.int .u8):=by
 unfold isU8 at h;split at h
 ·assumption
 ·cases h
def convA (P:Program) (src dst:TypeId) (x:AVal) (H:AHeap) (K:AVal->AHeap->Prop):Prop:=
 match P.underlying src,P.underlying dst with
 |some s,some (.int k)=>match x with
  | .lit (.int _ n)=>K (.lit (.int k (k.wrap n))) H
  |_=>False
 |some s,some .string=>match x with
  | .str l=>K (.str l) H
  | .lit (.int _ n)=>match s with
    | .int _=>K (.str (Utf8.encode n).data.toList) H
    |_=>False
  | .slc id off len _=>match s,H.get id with
    | .slice e,some (.bytes l _ _)=>gd (isU8 P e&&Nat.ble (off+len) l.length) (K (.str ((l.drop off).take len)) H)
    |_,_=>False
  | .lit (.slice none _ _)=>match s with
    | .slice e=>gd (isU8 P e) (K (.str []) H)
    |_=>False
  | .by_ l=>match s with
    | .slice e=>gd (isU8 P e) (K (.str l) H)
    |_=>False
  | .rope r=>K (.rope r) H
  | .rsl id pre mid _=>match s,H.get id with
    | .slice e,some (.rbytes full _ _)=>match behindN pre full with
      |some rest=>match behindN mid rest with
       |some _=>gd (isU8 P e) (K (.rope mid) H)
       |none=>False
      |none=>False
    |_,_=>False
  |_=>False
 |some s,some (.slice e)=>match x with
  | .str l=>gd (isU8 P e&&Nat.ble l.length 140737488355328) (K (.slc (Nat.succ H.next) 0 l.length (.u H.next 0)) (H.nm.new (.bytes l e (.u H.next 1))))
  | .rope r=>gd (isU8 P e) (K (.rsl (Nat.succ H.next) [] r .x) (H.nm.new (.rbytes r e (.u H.next 1))))
  | .slc id off len c=>match s,H.get id with
    | .slice _,some (.bytes l e' tot)=>gd (Nat.beq src dst&&isU8 P e&& !H.isRo id) (K (.slc id off len c) (H.set id (.bytes l e' tot)))
    |_,_=>False
  |_=>False
 |_,_=>False
theorem loadCells_bytes {b:ABlk} {o:Obj} {l:List UInt8} {e:TypeId} {tot:ATot} {off len r:Nat} (hb:BDen ι (.bytes l e tot) o) (hle:off+len<=l.length) (hw:w.heap[r]?=some o):
 (loadCells ⟨r,off,none⟩ len).run P w=.ok (((l.drop off).take len).map byteV).toArray w:=by
 obtain⟨rest,fz,rfl,_,_⟩:=hb
 rw[run_loadCells hw off len (by simp;omega)]
 congr 2
 simp only[List.drop_append]
 rw[List.take_append_of_le_length (by simp;omega)]
 simp[List.map_take,List.map_drop]
theorem strBytes_run {src dst:TypeId} {s:TypeDesc} {e:TypeId} {l:List UInt8} (hi:Inv w0 F0 ι H w) (hs:P.underlying src=some s) (hd:P.underlying dst=some (.slice e)) (he:P.underlying e=some (.int .u8))
 {b:ABlk} (hbd:∀(ι':Inj) o,BDen ι' (.bytes l e (.u H.next 1)) o->BDen ι' b o):
 ∃r c ι' w',(convert src dst (.string ⟨l.toArray⟩)).run P w=.ok (.slice (some ⟨r,0,none⟩) l.length c) w'/\l.length<=c/\(l.length<=140737488355328->c<9223372036854775808)/\ι.le ι'/\ι' H.next=some c/\ι' (Nat.succ H.next)=some r/\Inv w0 F0 ι' (H.nm.new b) w':=by
 have hsz:(⟨l.toArray⟩:ByteArray).size=l.length:=by simp[ByteArray.size]
 have hrun:(convert src dst (.string ⟨l.toArray⟩)).run P w=(Conv.stringToBytes e ⟨l.toArray⟩).run P w:=by
  cases s<;>simp[convert,run_underlying hs,run_underlying hd,run_underlying he]
 rw[hrun]
 simp only[Conv.stringToBytes,Sem.run_bind,run_choose,Question.forced,Bool.false_eq_true,if_false,Result.andThen_ok,Sem.run_pure,run_newRow]
 generalize hq:Question.cut (.appendCap (⟨l.toArray⟩:ByteArray).size 0 e) (w.tape w.drawn (.appendCap (⟨l.toArray⟩:ByteArray).size 0 e))=cap
 have hcap:l.length<=cap:=by
  rw[←hq,hsz];simp[Question.cut]
 have hc63:l.length<=140737488355328->cap<9223372036854775808:=by
  intro hl
  rw[←hq,hsz]
  simp only[Question.cut]
  have:=Nat.mod_lt (w.tape w.drawn (.appendCap l.length 0 e)) (show 0<2 ^ 63-l.length by omega)
  omega
 let rest:List Value:=List.replicate (cap-l.length) (.int .u8 0)
 have hcells:(Array.map (fun b:UInt8=>Value.int .u8 b.toNat) l.toArray++Array.replicate (cap-(⟨l.toArray⟩:ByteArray).size) (.int .u8 0))=(l.map byteV++rest).toArray:=by
  rw[hsz];simp[rest,byteV,←Array.toList_inj]
 simp only[hcells]
 obtain⟨ι1,hle1,hn1,hd0⟩:=(hi.drew (w.drawn+1)).name cap
 have hlen2:l.length+rest.length=cap:=by simp[rest];omega
 obtain⟨ι',hle,hn,hinv⟩:=hd0.new (b:=b) (o:=.cells (l.map byteV++rest).toArray e (cap,cap+1)) (hbd _ _ ⟨rest,_,rfl,⟨cap,hn1,by omega⟩,fun k hk hh=>by simp at hh;omega⟩)
 have hmark:(markStringish ⟨w.heap.size,0,none⟩).run P {heap:=w.heap.push (.cells (l.map byteV++rest).toArray e),tape:=w.tape,drawn:=w.drawn+1,os:=w.os,output:=w.output}=.ok () {heap:=w.heap.push (.cells (l.map byteV++rest).toArray e (cap,cap+1)),tape:=w.tape,drawn:=w.drawn+1,os:=w.os,output:=w.output}:=by
  have hlen:(l.map byteV++rest).toArray.size=cap:=by simp[rest];omega
  simp only[markStringish,Sem.run_bind,run_shape,Result.andThen_ok,World.shape?,Array.getElem?_push,if_true,run_freeze,World.freeze]
  simp only[Nat.one_ne_zero,if_false,hlen]
  congr 2
  apply Array.ext_getElem?
  intro i
  rw[Array.getElem?_modify,Array.getElem?_push,Array.getElem?_push]
  by_cases hi':i=w.heap.size
  ·subst hi';simp
  ·simp[hi',Ne.symm hi']
 rw[hmark]
 exact⟨_,_,ι',_,by rw[hsz];rfl,hcap,hc63,Inj.le_trans hle1 hle,hle _ _ hn1,hn,hinv⟩
theorem conv_ok {src dst:TypeId} {x:AVal} {a:Value} {K:AVal->AHeap->Prop} (h:convA P src dst x H K) (hi:Inv w0 F0 ι H w) (hx:Den ι x a):Ok w0 F0 ι K ((convert src dst a).run P w):=by
 unfold convA at h
 split at h
 ·rename_i s k hs hd
  split at h
  ·rename_i k' n
   cases hx
   have:(convert src dst (.int k' n)).run P w=.ok (.int k (k.wrap n)) w:=by
    simp only[convert,Sem.run_bind,run_underlying hs,Result.andThen_ok,run_underlying hd]
    rfl
   rw[this]
   exact⟨_,_,ι,h,.lit,Inj.le_refl _,hi⟩
  ·exact h.elim
 ·rename_i s hs hd
  split at h
  ·cases hx
   rename_i l
   have:(convert src dst (.string ⟨l.toArray⟩)).run P w=.ok (.string ⟨l.toArray⟩) w:=by
    simp[convert,run_underlying hs,run_underlying hd]
   rw[this]
   exact⟨_,_,ι,h,.str,Inj.le_refl _,hi⟩
  ·rename_i k n
   split at h
   ·cases hx
    have:(convert src dst (.int k n)).run P w=.ok (.string (Utf8.encode n)) w:=by
     simp[convert,run_underlying hs,run_underlying hd,Conv.intToString]
    rw[this]
    exact⟨_,_,ι,h,.str,Inj.le_refl _,hi⟩
   ·exact h.elim
  ·rename_i id off len cap
   split at h
   ·rename_i e l e' tot hg
    obtain⟨hc,hK⟩:=gd_out h
    simp only[Bool.and_eq_true] at hc
    have he:=isU8_ok hc.1
    have hle:=ble_le hc.2
    obtain⟨r,o,hr,ho,hb,_⟩:=hi.blk _ _ hg
    cases hx with
    |slc hr' hl hoff hcap=>
    rename_i off' r' cap'
    rw[hr] at hr';cases hr'
    have hrun:(convert src dst (.slice (some ⟨r,off',none⟩) len cap')).run P w=.ok (.string ⟨((l.drop off).take len).toArray⟩) w:=by
     rw[Go.run_convert_bytes_string w src dst e _ len cap' hs he hd]
     have hlc:(loadCells ⟨r,off',none⟩ len).run P w=.ok (((((l.drop off).take len).map (fun b=>(b.toNat:Int))).map (Value.int .u8)).toArray) w:=by
      have hb':(loadCells ⟨r,off',none⟩ len).run P w=.ok (((l.drop off).take len).map byteV).toArray w:=by
       rcases hoff with rfl|h0
       ·exact loadCells_bytes (b:=.bytes l e' tot) hb hle ho
       ·have:len=0:=by omega
        subst this
        simp[loadCells,loadCellsFrom]
      rw[hb',List.map_map]
      rfl
     rw[Go.run_bytesToString w _ len cap' _ hlc,Go.foldl_push_bytes]
     have hid:(fun n:Int=>UInt8.ofNat n.toNat)∘(fun b:UInt8=>(b.toNat:Int))=_root_.id:=by
      funext b;simp
     rw[List.map_map,hid,List.map_id]
     congr 2
     simp[ByteArray.empty,ByteArray.emptyWithCapacity]
     rfl
    rw[hrun]
    exact⟨_,_,ι,hK,.str,Inj.le_refl _,hi⟩
   ·exact h.elim
  ·split at h
   ·rename_i e
    obtain⟨hc,hK⟩:=gd_out h
    have he:=isU8_ok hc
    cases hx
    rw[Go.run_convert_bytes_nil w src e hs he _ _ dst hd]
    exact⟨_,_,ι,hK,.str,Inj.le_refl _,hi⟩
   ·exact h.elim
  ·rename_i l
   split at h
   ·rename_i e
    obtain⟨hc,hK⟩:=gd_out h
    have he:=isU8_ok hc
    have hrun:∀{base:Option Addr} {len cap':Nat},len=l.length->((match base with|some a=>loadCells a len|none=>pure #[]):Sem (Array Value)).run P w=.ok (l.map byteV).toArray w->base.isSome=true->(convert src dst (.slice base len cap')).run P w=.ok (.string ⟨l.toArray⟩) w:=fun{base len cap'} hlen hlc hb=>by
     obtain⟨a,rfl⟩:=Option.isSome_iff_exists.1 hb
     rw[Go.run_convert_bytes_string w src dst e _ len cap' hs he hd]
     have hlc:(loadCells a len).run P w=.ok (((l.map (fun b=>(b.toNat:Int))).map (Value.int .u8)).toArray) w:=by
      rw[List.map_map];exact hlc
     rw[Go.run_bytesToString w _ len cap' _ hlc,Go.foldl_push_bytes]
     have hid:(fun n:Int=>UInt8.ofNat n.toNat)∘(fun b:UInt8=>(b.toNat:Int))=_root_.id:=by
      funext b;simp
     rw[List.map_map,hid,List.map_id]
     congr 2
     simp[ByteArray.empty,ByteArray.emptyWithCapacity]
     rfl
    cases hx with
    |@by_ _ r c off pre rest e' fz hm hle hoff=>
     subst hoff
     have ho:=(hi.fz.frz _ _ hm).1
     rw[hrun rfl (by
      show(loadCells _ _).run P w=_
      rw[run_loadCells ho pre.length l.length (by simp)]
      congr 2
      rw[List.drop_left,List.take_append_of_le_length (by simp),List.take_of_length_le (by simp)]) rfl]
     exact⟨_,_,ι,hK,.str,Inj.le_refl _,hi⟩
    |@by0 a c=>
     cases a with
     |none=>
      rw[Go.run_convert_bytes_nil w src e hs he _ _ dst hd]
      exact⟨_,_,ι,hK,.str,Inj.le_refl _,hi⟩
     |some a=>
      rw[hrun (base:=some a) (len:=0) (cap':=c) rfl (by show(loadCells _ _).run P w=_;simp[loadCells,loadCellsFrom]) rfl]
      exact⟨_,_,ι,hK,.str,Inj.le_refl _,hi⟩
   ·exact h.elim
  ·rename_i r
   cases hx
   have:(convert src dst (.string ⟨(flat r).toArray⟩)).run P w=.ok (.string ⟨(flat r).toArray⟩) w:=by
    simp[convert,run_underlying hs,run_underlying hd]
   rw[this]
   exact⟨_,_,ι,h,.rope,Inj.le_refl _,hi⟩
  ·rename_i id pre mid cap
   split at h
   ·rename_i e full e' tot hg
    split at h
    ·rename_i rest0 hpre
     split at h
     ·rename_i rest1 hmid
      obtain⟨hc,hK⟩:=gd_out h
      have he:=isU8_ok hc
      have hfull:flat full=flat pre++(flat mid++flat rest1):=by
       rw[behindN_ok hpre,behindN_ok hmid,flat_append,flat_append]
      obtain⟨r,o,hr,ho,hb,_⟩:=hi.blk _ _ hg
      cases hx with
      |rsl hr' hl hoff hcap=>
      rename_i off' r' cap'
      rw[hr] at hr';cases hr'
      have hrun:(convert src dst (.slice (some ⟨r,off',none⟩) (flat mid).length cap')).run P w=.ok (.string ⟨(flat mid).toArray⟩) w:=by
       rw[Go.run_convert_bytes_string w src dst e _ (flat mid).length cap' hs he hd]
       have hlc:(loadCells ⟨r,off',none⟩ (flat mid).length).run P w=.ok ((((flat mid).map (fun b=>(b.toNat:Int))).map (Value.int .u8)).toArray) w:=by
        have hb':(loadCells ⟨r,off',none⟩ (flat mid).length).run P w=.ok ((flat mid).map byteV).toArray w:=by
         rcases hoff with rfl|h0
         ·have hb2:BDen ι (.bytes (flat full) e' tot) o:=hb
          have:=loadCells_bytes (P:=P) (b:=.bytes (flat full) e' tot) (off:=(flat pre).length) (len:=(flat mid).length) hb2 (by rw[hfull];simp) ho
          rw[this,hfull]
          simp
         ·have:(flat mid).length=0:=by omega
          have h1:flat mid=[]:=by simpa using this
          rw[h1]
          simp[loadCells,loadCellsFrom]
        rw[hb',List.map_map]
        rfl
       rw[Go.run_bytesToString w _ (flat mid).length cap' _ hlc,Go.foldl_push_bytes]
       have hid:(fun n:Int=>UInt8.ofNat n.toNat)∘(fun b:UInt8=>(b.toNat:Int))=_root_.id:=by
        funext b;simp
       rw[List.map_map,hid,List.map_id]
       congr 2
       simp[ByteArray.empty,ByteArray.emptyWithCapacity]
       rfl
      rw[hrun]
      exact⟨_,_,ι,hK,.rope,Inj.le_refl _,hi⟩
     ·exact h.elim
    ·exact h.elim
   ·exact h.elim
  ·exact h.elim
 ·rename_i s e hs hd
  split at h
  ·rename_i l
   obtain⟨hc,hK⟩:=gd_out h
   rw[Bool.and_eq_true] at hc
   have he:=isU8_ok hc.1
   cases hx
   obtain⟨r,c,ι',w',hrun,hcap,h63,hle,hnc,hnr,hinv⟩:=strBytes_run (P:=P) (l:=l) hi hs hd he (b:=.bytes l e (.u H.next 1)) (fun _ _ h=>h)
   rw[hrun]
   exact⟨_,_,ι',hK,.slc hnr hcap (.inl rfl) ⟨c,hnc,h63 (ble_le hc.2),rfl⟩,hle,hinv⟩
  ·rename_i r0
   obtain⟨hc,hK⟩:=gd_out h
   have he:=isU8_ok hc
   cases hx
   obtain⟨r,c,ι',w',hrun,hcap,_,hle,hnc,hnr,hinv⟩:=strBytes_run (P:=P) (l:=flat r0) hi hs hd he (b:=.rbytes r0 e (.u H.next 1)) (fun _ _ h=>h)
   rw[hrun]
   exact⟨_,_,ι',hK,.rsl hnr hcap (.inl rfl) trivial,hle,hinv⟩
  ·rename_i id off len c
   split at h
   ·rename_i s0 l e' tot hg
    obtain⟨hc,hK⟩:=gd_out h
    simp only[Bool.and_eq_true,Bool.not_eq_true'] at hc
    obtain⟨⟨h1,h2⟩,hro⟩:=hc
    have he:=isU8_ok h2
    have hsd:src=dst:=Nat.eq_of_beq_eq_true h1
    obtain⟨r,o,hr,ho,⟨rest,fz,rfl,ht,hfz⟩,_⟩:=hi.blk _ _ hg
    cases hx with
    |slc hr' hl hoff hcap=>
    rename_i off' r' cap'
    rw[hr] at hr';cases hr'
    have hrun:(convert src dst (.slice (some ⟨r,off',none⟩) len cap')).run P w=.ok (.slice (some ⟨r,off',none⟩) len cap') (w.freeze ⟨r,l.length+rest.length,none⟩ 1):=by
     subst hsd
     simp[convert,run_underlying hd,run_underlying he,markStringish,World.shape?,ho]
    rw[hrun]
    have hw:w.freeze ⟨r,l.length+rest.length,none⟩ 1=setBlk w r (.cells (l.map byteV++rest).toArray e' (if fz.1==fz.2 then(l.length+rest.length,l.length+rest.length+1) else(min fz.1 (l.length+rest.length),max fz.2 (l.length+rest.length+1)))):=by
     unfold World.freeze setBlk
     rw[if_neg (by decide)]
     congr 1
     apply Array.ext_getElem?
     intro i
     rw[Array.getElem?_modify,Array.getElem?_setIfInBounds]
     by_cases e:r=i
     ·subst e
      have hlt:r<w.heap.size:=by
       rcases Nat.lt_or_ge r w.heap.size with h'|h'
       ·exact h'
       ·rw[Array.getElem?_eq_none h'] at ho;cases ho
      rw[if_pos rfl,if_pos rfl,if_pos hlt,ho]
      rfl
     ·rw[if_neg e,if_neg e]
    rw[hw]
    refine⟨_,_,ι,hK,.slc hr hl hoff hcap,Inj.le_refl _,?_⟩
    refine hi.set hg hr hro (b':=.bytes l e' tot) ⟨rest,_,rfl,ht,fun k hk=>?_⟩ (setBlk_get ho) (fun k hk=>setBlk_other hk) setBlk_size rfl rfl rfl
    have h0:=hfz fz.1
    have hk0:=hfz k hk
    split
    ·simp only;omega
    ·rename_i hne
     have hne:fz.1≠fz.2:=fun e=>hne (by rw[e];exact beq_self_eq_true _)
     simp only
     omega
   ·exact h.elim
  ·exact h.elim
 ·exact h.elim
end
end Go.Sx
