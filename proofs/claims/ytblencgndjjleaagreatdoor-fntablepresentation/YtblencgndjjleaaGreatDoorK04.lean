/- Lemmas of this claim; the last text says what is proved. -/
import Derived.Test.YtblencgndjjleaaGreatDoorK03
set_option linter.all false
namespace Go.Sx
open Go
variable [Syms]
def j_w:AVal->AVal->Bool
 | .lit (.bool _),.lit (.bool _)=>true
 | .lit (.pointer none),.lit (.pointer none)=>true
 | .lit (.pointer none),.ptr _ _=>true
 | .ptr _ _,.lit (.pointer none)=>true
 | .ptr _ _,.ptr _ _=>true
 | .lit .nilIface,.lit .nilIface=>true
 | .lit .nilIface,.ifc _ _=>true
 | .ifc _ _,.lit .nilIface=>true
 | .ifc _ _,.ifc _ _=>true
 | .lit (.slice none _ _),.lit (.slice none _ _)=>true
 | .lit (.slice none _ _),.slc _ _ _ _=>true
 | .slc _ _ _ _,.lit (.slice none _ _)=>true
 | .lit (.slice none _ _),.rsl _ _ _ _=>true
 | .rsl _ _ _ _,.lit (.slice none _ _)=>true
 | .lit (.map none),.lit (.map none)=>true
 | .lit (.map none),.map _=>true
 | .map _,.lit (.map none)=>true
 | .lit .nilFunc,.lit .nilFunc=>true
 | .lit .nilFunc,.fn _ _ _=>true
 | .fn _ _ _,.lit .nilFunc=>true
 | .lit (.pointer none),.sp _ _=>true
 | .sp _ _,.lit (.pointer none)=>true
 | .sp _ _,.sp _ _=>true
 | .lit (.pointer none),.fpt _ _=>true
 | .fpt _ _,.lit (.pointer none)=>true
 | .lit (.slice none _ _),.ssl _ _ _=>true
 | .ssl _ _ _,.lit (.slice none _ _)=>true
 | .lit (.map none),.smp _=>true
 | .smp _,.lit (.map none)=>true
 |_,_=>false
def isC:Operand->Bool
 | .const _=>true
 |_=>false
def e_1(op:BinOp)(a b:List Nat)(K:AVal->Prop):Prop:=
 match op with
 | .add=>gd (Nat.ble (hiR a+hiR b) 9223372036854775807) (K (.rope (a++b)))
 | .eql=>r_s (eqR a b) (fun r=>K (.lit (.bool r)))
 | .neq=>r_s (eqR a b) (fun r=>K (.lit (.bool (!r))))
 |_=>False
def t_x(op:BinOp)(m:Nat)(n:Int)(K:AVal->Prop):Prop:=
 match op with
 | .eql=>gd (decide (0<=n)&& !c_y m n.toNat) (K (.lit (.bool false)))
 | .neq=>gd (decide (0<=n)&& !c_y m n.toNat) (K (.lit (.bool true)))
 |_=>False
def x_L(P:Program)(op:BinOp)(t:TypeId)(c:Bool)(x y:AVal)(H:AHeap)(K:AVal->Prop):Prop:=
 match x,y with
 | .lit (.int k a),.lit (.int k' b)=>
   match op with
   | .shl=>gd (decide (0<=b)) (K (.lit (.int k (k.wrap (a*2 ^ (min b.toNat k.bits))))))
   | .shr=>gd (decide (0<=b)) (K (.lit (.int k (a.fdiv (2 ^ (min b.toNat k.bits))))))
   |op=>gd (decide (k=k')) (l_L op k a b K)
 | .str a,.str b=>p_V op a b K
 | .rope a,.rope b=>e_1 op a b K
 | .rope a,.str b=>e_1 op a (r_p b) K
 | .str a,.rope b=>e_1 op (r_p a) b K
 | .lenr r,.lit (.int k n)=>gd (decide (k=.i64)) (r_s (j_s op r n) (fun b=>K (.lit (.bool b))))
 | .ub m,.lit (.int k n)=>gd (decide (k=.u8)) (t_x op m n K)
 |x,y=>match op with
  | .eql=>gd (j_w x y) (eqA P 8 t x y H c (fun r=>K (.lit (.bool r))))
  | .neq=>gd (j_w x y) (eqA P 8 t x y H c (fun r=>K (.lit (.bool (!r)))))
  |_=>False
section
variable {P:Program} {w0 w:World} {F0:Fp} {ι:Inj} {H:AHeap}
theorem a_L{op:BinOp}{t:TypeId}{x y:Operand}{a b:Value}(h:a=.nilIface->b=.nilIface->(isC x||isC y)=true)(h':∀c d,a=.agg c->b≠ .agg d):
 (eqGuard op t x y a b).run P w=.ok () w:=by
 unfold eqGuard
 cases op<;>first
  |rfl
  |(simp only[Bool.not_true,Bool.false_eq_true,if_false]
    split
    ·have:=h rfl rfl
     cases x<;>cases y<;>simp_all [isC]
    ·exact(h' _ _ rfl rfl).elim
    ·rfl)
theorem h_0{x y:AVal}{a b:Value}(h:j_w x y=true)(hx:Den ι x a)(hy:Den ι y b)(t:TypeId):
 binOp .eql t a b=(do pure (.bool (←Op.equal t a b)))/\binOp .neq t a b=(do pure (.bool (!(←Op.equal t a b))))/\(∀c d,a=.agg c->b≠ .agg d)/\(a=.nilIface->b=.nilIface->x=.lit .nilIface/\y=.lit .nilIface):=by
 unfold j_w at h
 split at h
 case h_30=>cases h
 all_goals
  cases hx
  cases hy
  refine⟨rfl,rfl,(fun _ _ e=>aW),fun e e'=>?_⟩
  first|exact⟨rfl,rfl⟩|(cases e;done)|(cases e';done)
theorem e_2{op:BinOp}{t:TypeId}{a b:List Nat}{K:AVal->Prop}(h:e_1 op a b K):∃v z,(binOp op t (.string ⟨(a_3 a).toArray⟩) (.string ⟨(a_3 b).toArray⟩)).run P w=.ok v w/\Den ι z v/\K z:=by
 have hs:∀l:List UInt8,(⟨l.toArray⟩:ByteArray).size=l.length:=fun l=>aG
 unfold e_1 at h
 split at h
 ·obtain⟨hc,hK⟩:=a_h h
  have hc:=a_B hc
  have h1:=(k_o a).2
  have h2:=(k_o b).2
  have hm:IntKind.i64.max=9223372036854775807:=ar
  refine⟨.string ⟨(a_3 (a++b)).toArray⟩,_,?_,.rope,hK⟩
  simp only[binOp,Op.stringOp,hs]
  rw[if_neg (by rw[hm];omega)]
  have he:(⟨(a_3 a).toArray⟩:ByteArray)++⟨(a_3 b).toArray⟩=⟨(a_3 (a++b)).toArray⟩:=by
   rw[d_w]
   apply ByteArray.ext
   simp
  rw[he]
  rfl
 ·obtain⟨r,hr,hK⟩:=d_d h
  have hr:=h_Z hr
  refine⟨.bool r,_,?_,.lit,hK⟩
  simp only[binOp,Op.stringOp,c_4,hr,Sem.run_pure]
 ·obtain⟨r,hr,hK⟩:=d_d h
  have hr:=h_Z hr
  refine⟨.bool (!r),_,?_,.lit,hK⟩
  simp only[binOp,Op.stringOp,c_4,hr,Sem.run_pure]
 ·exact h.elim
theorem t_y{op:BinOp}{t:TypeId}{xo yo:Operand}{x y:AVal}{a b:Value}{K:AVal->AHeap->Prop}(h:x_L P op t (isC xo||isC yo) x y H (fun v=>K v H))(hi:Inv w0 F0 ι H w)(hx:Den ι x a)(hy:Den ι y b):
 Ok w0 F0 ι K ((do eqGuard op t xo yo a b;binOp op t a b:Sem Value).run P w):=by
 have out:∀{v:Value} {z:AVal},K z H->Den ι z v->(eqGuard op t xo yo a b).run P w=.ok () w->(binOp op t a b).run P w=.ok v w->Ok w0 F0 ι K ((do eqGuard op t xo yo a b;binOp op t a b:Sem Value).run P w):=by
  intro v z hK hz hg hb
  simp only[Sem.run_bind,hg,Result.andThen_ok,hb]
  exact⟨_,_,ι,hK,hz,Inj.le_refl _,hi⟩
 unfold x_L at h
 split at h
 ·rename_i k n k' m
  cases hx;cases hy
  have hg:=a_L (P:=P) (w:=w) (op:=op) (t:=t) (x:=xo) (y:=yo) (a:=.int k n) (b:=.int k' m) (fun h=>am) (fun _ _ h=>am)
  split at h
  ·obtain⟨h0,hK⟩:=a_h h
   simp only[decide_eq_true_eq] at h0
   refine out hK .lit hg ?_
   simp[binOp,Op.shift,Int.not_lt.2 h0]
  ·obtain⟨h0,hK⟩:=a_h h
   simp only[decide_eq_true_eq] at h0
   refine out hK .lit hg ?_
   simp[binOp,Op.shift,Int.not_lt.2 h0]
  ·obtain⟨hk,hK⟩:=a_h h
   simp only[decide_eq_true_eq] at hk
   subst hk
   obtain⟨v,hrun,hK,h1,h2⟩:=l_O (P:=P) (w:=w) hK
   refine out hK .lit hg ?_
   rw[←hrun]
   cases op<;>first|exact(h1 rfl).elim|exact(h2 rfl).elim|(simp only[binOp,ne_eq,not_true,if_false])
 ·rename_i l m
  cases hx;cases hy
  have hg:=a_L (P:=P) (w:=w) (op:=op) (t:=t) (x:=xo) (y:=yo) (a:=.string ⟨l.toArray⟩) (b:=.string ⟨m.toArray⟩) (fun h=>am) (fun _ _ h=>am)
  have hs:∀l:List UInt8,(⟨l.toArray⟩:ByteArray).size=l.length:=fun l=>aG
  by_cases hadd:op=.add
  ·subst hadd
   obtain⟨hc,hK⟩:=a_h h
   have hc:=a_B hc
   refine out hK .str hg ?_
   have hm:IntKind.i64.max=9223372036854775807:=ar
   simp only[binOp,Op.stringOp,hs]
   rw[if_neg (by rw[hm];omega)]
   have he:(⟨l.toArray⟩:ByteArray)++⟨m.toArray⟩=⟨(l++m).toArray⟩:=by
    apply ByteArray.ext
    simp
   rw[he]
   rfl
  cases op<;>simp only[p_V] at h<;>first
   |exact h.elim
   |exact(hadd rfl).elim
   |(refine out h .lit hg ?_
     simp only[binOp,Op.stringOp,c_4,d_s,Sem.run_pure]
     done)
 ·rename_i a' b'
  cases hx;cases hy
  obtain⟨v,z,hrun,hz,hK⟩:=e_2 (P:=P) (w:=w) (ι:=ι) (t:=t) h
  exact out hK hz (a_L (fun h=>am) (fun _ _ h=>am)) hrun
 ·rename_i a' b'
  cases hx;cases hy
  obtain⟨v,z,hrun,hz,hK⟩:=e_2 (P:=P) (w:=w) (ι:=ι) (t:=t) h
  rw[c_Z] at hrun
  exact out hK hz (a_L (fun h=>am) (fun _ _ h=>am)) hrun
 ·rename_i a' b'
  cases hx;cases hy
  obtain⟨v,z,hrun,hz,hK⟩:=e_2 (P:=P) (w:=w) (ι:=ι) (t:=t) h
  rw[c_Z] at hrun
  exact out hK hz (a_L (fun h=>am) (fun _ _ h=>am)) hrun
 ·rename_i r' k n
  cases hx;cases hy
  obtain⟨hk,hK⟩:=a_h h
  simp only[decide_eq_true_eq] at hk
  subst hk
  obtain⟨b',hb,hK⟩:=d_d hK
  have hrun:=l_z (P:=P) (w:=w) hb
  refine out hK .lit (a_L (fun h=>am) (fun _ _ h=>am)) ?_
  cases op<;>first|exact hrun|(simp[j_s] at hb;done)
 ·rename_i m k n
  cases hy
  obtain⟨hk,hK⟩:=a_h h
  simp only[decide_eq_true_eq] at hk
  subst hk
  cases hx with
  |@ub _ b' hm=>
  unfold t_x at hK
  have key:∀{n:Int},(decide (0<=n)&& !c_y m n.toNat)=true->((b'.toNat:Int)==n)=false:=by
   intro n hn
   simp only[Bool.and_eq_true,decide_eq_true_eq,Bool.not_eq_true'] at hn
   rw[beq_eq_false_iff_ne]
   intro e
   have:n.toNat=b'.toNat:=ac
   rw[this,hm] at hn
   cases hn.2
  split at hK
  ·obtain⟨hc,hK⟩:=a_h hK
   refine out hK .lit (a_L (fun h=>am) (fun _ _ h=>am)) ?_
   simp only[binOp,ne_eq,not_true,if_false,Op.intCmp,key hc,Sem.run_pure]
  ·obtain⟨hc,hK⟩:=a_h hK
   refine out hK .lit (a_L (fun h=>am) (fun _ _ h=>am)) ?_
   have:=key hc
   have hn:((b'.toNat:Int)!=n)=true:=by rw[bne,this];rfl
   simp only[binOp,ne_eq,not_true,if_false,Op.intCmp,hn,Sem.run_pure]
  ·exact hK.elim
 ·rename_i h1 h2
  split at h
  ·obtain⟨hp,hK⟩:=a_h h
   obtain⟨e1,_,e3,e4⟩:=h_0 hp hx hy t
   obtain⟨r,hrun,hK'⟩:=p_W 8 9992 hK hi hx hy
   refine out hK' .lit (a_L (fun ha hb=>?_) e3) ?_
   ·obtain⟨rfl,rfl⟩:=e4 ha hb
    simp only[eqA] at hK
    split at hK<;>first|exact(a_h hK).1|exact hK.elim|(split at hK<;>first|exact(a_h hK).1|exact hK.elim|contradiction)
   ·rw[e1]
    have:Op.equal t a b=Op.equalIn (9992+8) t a b:=rfl
    simp[this,hrun]
  ·obtain⟨hp,hK⟩:=a_h h
   obtain⟨_,e1,e3,e4⟩:=h_0 hp hx hy t
   obtain⟨r,hrun,hK'⟩:=p_W 8 9992 hK hi hx hy
   refine out hK' .lit (a_L (fun ha hb=>?_) e3) ?_
   ·obtain⟨rfl,rfl⟩:=e4 ha hb
    simp only[eqA] at hK
    split at hK<;>first|exact(a_h hK).1|exact hK.elim|(split at hK<;>first|exact(a_h hK).1|exact hK.elim|contradiction)
   ·rw[e1]
    have:Op.equal t a b=Op.equalIn (9992+8) t a b:=rfl
    simp[this,hrun]
  ·exact h.elim
def unA(op:UnOp)(x:AVal)(K:AVal->Prop):Prop:=
 match op,x with
 | .not,.lit (.bool b)=>K (.lit (.bool (!b)))
 | .neg,.lit (.int k n)=>K (.lit (.int k (k.wrap (0-n))))
 |_,_=>False
theorem x_M{op:UnOp}{x:AVal}{a:Value}{K:AVal->AHeap->Prop}(h:unA op x (fun v=>K v H))(hi:Inv w0 F0 ι H w)(hx:Den ι x a):Ok w0 F0 ι K ((Op.unary op a).run P w):=by
 unfold unA at h
 split at h
 ·cases hx;exact⟨_,_,ι,h,.lit,Inj.le_refl _,hi⟩
 ·cases hx;exact⟨_,_,ι,h,.lit,Inj.le_refl _,hi⟩
 ·exact h.elim
def h_O(P:Program)(e:TypeId):Bool:=match P.underlying e with|some (.int .u8)=>true|_=>false
theorem d_y{e:TypeId}(h:h_O P e=true):P.underlying e=some (.int .u8):=by
 unfold h_O at h;split at h
 ·assumption
 ·cases h
def r_t(P:Program)(src dst:TypeId)(x:AVal)(H:AHeap)(K:AVal->AHeap->Prop):Prop:=
 match P.underlying src,P.underlying dst with
 |some s,some (.int k)=>match x with
  | .lit (.int _ n)=>K (.lit (.int k (k.wrap n))) H
  |_=>False
 |some s,some .string=>match x with
  | .str l=>K (.str l) H
  | .lit (.int _ n)=>match s with
    | .int _=>K (.str (Utf8.encode n).data.toList) H
    |_=>False
  | .slc id off len _=>match s,H.get id with
    | .slice e,some (.bytes l _ _)=>gd (h_O P e&&Nat.ble (off+len) l.length) (K (.str ((l.drop off).take len)) H)
    |_,_=>False
  | .lit (.slice none _ _)=>match s with
    | .slice e=>gd (h_O P e) (K (.str []) H)
    |_=>False
  | .by_ l=>match s with
    | .slice e=>gd (h_O P e) (K (.str l) H)
    |_=>False
  | .rope r=>K (.rope r) H
  | .rsl id pre mid _=>match s,H.get id with
    | .slice e,some (.rbytes full _ _)=>match e_i pre full with
      |some rest=>match e_i mid rest with
       |some _=>gd (h_O P e) (K (.rope mid) H)
       |none=>False
      |none=>False
    |_,_=>False
  |_=>False
 |some s,some (.slice e)=>match x with
  | .str l=>gd (h_O P e&&Nat.ble l.length 140737488355328) (K (.slc (Nat.succ H.next) 0 l.length (.u H.next 0)) (H.nm.new (.bytes l e (.u H.next 1))))
  | .rope r=>gd (h_O P e) (K (.rsl (Nat.succ H.next) [] r .x) (H.nm.new (.rbytes r e (.u H.next 1))))
  | .slc id off len c=>match s,H.get id with
    | .slice _,some (.bytes l e' tot)=>gd (Nat.beq src dst&&h_O P e&& !H.isRo id) (K (.slc id off len c) (H.set id (.bytes l e' tot)))
    |_,_=>False
  |_=>False
 |_,_=>False
theorem a_0{b:ABlk}{o:Obj}{l:List UInt8}{e:TypeId}{tot:ATot}{off len r:Nat}(hb:BDen ι (.bytes l e tot) o)(hle:off+len<=l.length)(hw:w.heap[r]?=some o):
 (loadCells ⟨r,off,none⟩ len).run P w=.ok (((l.drop off).take len).map a_v).toArray w:=by
 obtain⟨rest,fz,rfl,_,_⟩:=hb
 rw[a_T hw off len af]
 congr 2
 simp only[List.drop_append]
 rw[List.take_append_of_le_length af]
 simp[List.map_take,List.map_drop]
theorem e_w{src dst:TypeId}{s:TypeDesc}{e:TypeId}{l:List UInt8}(hi:Inv w0 F0 ι H w)(hs:P.underlying src=some s)(hd:P.underlying dst=some (.slice e))(he:P.underlying e=some (.int .u8))
 {b:ABlk} (hbd:∀(ι':Inj) o,BDen ι' (.bytes l e (.u H.next 1)) o->BDen ι' b o):
 ∃r c ι' w',(convert src dst (.string ⟨l.toArray⟩)).run P w=.ok (.slice (some ⟨r,0,none⟩) l.length c) w'/\l.length<=c/\(l.length<=140737488355328->c<9223372036854775808)/\ι.le ι'/\ι' H.next=some c/\ι' (Nat.succ H.next)=some r/\Inv w0 F0 ι' (H.nm.new b) w':=by
 have hsz:(⟨l.toArray⟩:ByteArray).size=l.length:=aG
 have hrun:(convert src dst (.string ⟨l.toArray⟩)).run P w=(Conv.stringToBytes e ⟨l.toArray⟩).run P w:=by
  cases s<;>simp[convert,a_a hs,a_a hd,a_a he]
 rw[hrun]
 simp only[Conv.stringToBytes,Sem.run_bind,run_choose,Question.forced,Bool.false_eq_true,if_false,Result.andThen_ok,Sem.run_pure,b_d]
 generalize hq:Question.cut (.appendCap (⟨l.toArray⟩:ByteArray).size 0 e) (w.tape w.drawn (.appendCap (⟨l.toArray⟩:ByteArray).size 0 e))=cap
 have hcap:l.length<=cap:=by
  rw[←hq,hsz];simp[Question.cut]
 have hc63:l.length<=140737488355328->cap<9223372036854775808:=by
  intro hl
  rw[←hq,hsz]
  simp only[Question.cut]
  have:=Nat.mod_lt (w.tape w.drawn (.appendCap l.length 0 e)) (show 0<2 ^ 63-l.length by omega)
  omega
 let rest:List Value:=List.replicate (cap-l.length) (.int .u8 0)
 have hcells:(Array.map (fun b:UInt8=>Value.int .u8 b.toNat) l.toArray++Array.replicate (cap-(⟨l.toArray⟩:ByteArray).size) (.int .u8 0))=(l.map a_v++rest).toArray:=by
  rw[hsz];simp[rest,a_v,←Array.toList_inj]
 simp only[hcells]
 obtain⟨ι1,hle1,hn1,hd0⟩:=(hi.drew (w.drawn+1)).name cap
 have hlen2:l.length+rest.length=cap:=by simp[rest];omega
 obtain⟨ι',hle,hn,hinv⟩:=hd0.new (b:=b) (o:=.cells (l.map a_v++rest).toArray e (cap,cap+1)) (hbd _ _ ⟨rest,_,rfl,⟨cap,hn1,ac⟩,fun k hk hh=>by simp at hh;omega⟩)
 have hmark:(markStringish ⟨w.heap.size,0,none⟩).run P {heap:=w.heap.push (.cells (l.map a_v++rest).toArray e),tape:=w.tape,drawn:=w.drawn+1,os:=w.os,output:=w.output}=.ok () {heap:=w.heap.push (.cells (l.map a_v++rest).toArray e (cap,cap+1)),tape:=w.tape,drawn:=w.drawn+1,os:=w.os,output:=w.output}:=by
  have hlen:(l.map a_v++rest).toArray.size=cap:=by simp[rest];omega
  simp only[markStringish,Sem.run_bind,run_shape,Result.andThen_ok,World.shape?,Array.getElem?_push,if_true,run_freeze,World.freeze]
  simp only[Nat.one_ne_zero,if_false,hlen]
  congr 2
  apply Array.ext_getElem?
  intro i
  rw[Array.getElem?_modify,Array.getElem?_push,Array.getElem?_push]
  by_cases hi':i=w.heap.size
  ·subst hi';simp
  ·simp[hi',Ne.symm hi']
 rw[hmark]
 exact⟨_,_,ι',_,by rw[hsz];rfl,hcap,hc63,Inj.le_trans hle1 hle,hle _ _ hn1,hn,hinv⟩
theorem r_u{src dst:TypeId}{x:AVal}{a:Value}{K:AVal->AHeap->Prop}(h:r_t P src dst x H K)(hi:Inv w0 F0 ι H w)(hx:Den ι x a):Ok w0 F0 ι K ((convert src dst a).run P w):=by
 unfold r_t at h
 split at h
 ·rename_i s k hs hd
  split at h
  ·rename_i k' n
   cases hx
   have:(convert src dst (.int k' n)).run P w=.ok (.int k (k.wrap n)) w:=by
    simp only[convert,Sem.run_bind,a_a hs,Result.andThen_ok,a_a hd]
    rfl
   rw[this]
   exact⟨_,_,ι,h,.lit,Inj.le_refl _,hi⟩
  ·exact h.elim
 ·rename_i s hs hd
  split at h
  ·cases hx
   rename_i l
   have:(convert src dst (.string ⟨l.toArray⟩)).run P w=.ok (.string ⟨l.toArray⟩) w:=by
    simp[convert,a_a hs,a_a hd]
   rw[this]
   exact⟨_,_,ι,h,.str,Inj.le_refl _,hi⟩
  ·rename_i k n
   split at h
   ·cases hx
    have:(convert src dst (.int k n)).run P w=.ok (.string (Utf8.encode n)) w:=by
     simp[convert,a_a hs,a_a hd,Conv.intToString]
    rw[this]
    exact⟨_,_,ι,h,.str,Inj.le_refl _,hi⟩
   ·exact h.elim
  ·rename_i id off len cap
   split at h
   ·rename_i e l e' tot hg
    obtain⟨hc,hK⟩:=a_h h
    simp only[Bool.and_eq_true] at hc
    have he:=d_y hc.1
    have hle:=a_B hc.2
    obtain⟨r,o,hr,ho,hb,_⟩:=hi.blk _ _ hg
    cases hx with
    |slc hr' hl hoff hcap=>
    rename_i off' r' cap'
    rw[hr] at hr';cases hr'
    have hrun:(convert src dst (.slice (some ⟨r,off',none⟩) len cap')).run P w=.ok (.string ⟨((l.drop off).take len).toArray⟩) w:=by
     rw[Go.run_convert_bytes_string w src dst e _ len cap' hs he hd]
     have hlc:(loadCells ⟨r,off',none⟩ len).run P w=.ok (((((l.drop off).take len).map (fun b=>(b.toNat:Int))).map (Value.int .u8)).toArray) w:=by
      have hb':(loadCells ⟨r,off',none⟩ len).run P w=.ok (((l.drop off).take len).map a_v).toArray w:=by
       rcases hoff with rfl|h0
       ·exact a_0 (b:=.bytes l e' tot) hb hle ho
       ·have:len=0:=ac
        subst this
        simp[loadCells,loadCellsFrom]
      rw[hb',List.map_map]
      rfl
     rw[Go.run_bytesToString w _ len cap' _ hlc,Go.foldl_push_bytes]
     have hid:(fun n:Int=>UInt8.ofNat n.toNat)∘(fun b:UInt8=>(b.toNat:Int))=_root_.id:=by
      funext b;simp
     rw[List.map_map,hid,List.map_id]
     congr 2
     simp[ByteArray.empty,ByteArray.emptyWithCapacity]
     rfl
    rw[hrun]
    exact⟨_,_,ι,hK,.str,Inj.le_refl _,hi⟩
   ·exact h.elim
  ·split at h
   ·rename_i e
    obtain⟨hc,hK⟩:=a_h h
    have he:=d_y hc
    cases hx
    rw[Go.run_convert_bytes_nil w src e hs he _ _ dst hd]
    exact⟨_,_,ι,hK,.str,Inj.le_refl _,hi⟩
   ·exact h.elim
  ·rename_i l
   split at h
   ·rename_i e
    obtain⟨hc,hK⟩:=a_h h
    have he:=d_y hc
    have hrun:∀{base:Option Addr} {len cap':Nat},len=l.length->((match base with|some a=>loadCells a len|none=>pure #[]):Sem (Array Value)).run P w=.ok (l.map a_v).toArray w->base.isSome=true->(convert src dst (.slice base len cap')).run P w=.ok (.string ⟨l.toArray⟩) w:=fun{base len cap'} hlen hlc hb=>by
     obtain⟨a,rfl⟩:=Option.isSome_iff_exists.1 hb
     rw[Go.run_convert_bytes_string w src dst e _ len cap' hs he hd]
     have hlc:(loadCells a len).run P w=.ok (((l.map (fun b=>(b.toNat:Int))).map (Value.int .u8)).toArray) w:=by
      rw[List.map_map];exact hlc
     rw[Go.run_bytesToString w _ len cap' _ hlc,Go.foldl_push_bytes]
     have hid:(fun n:Int=>UInt8.ofNat n.toNat)∘(fun b:UInt8=>(b.toNat:Int))=_root_.id:=by
      funext b;simp
     rw[List.map_map,hid,List.map_id]
     congr 2
     simp[ByteArray.empty,ByteArray.emptyWithCapacity]
     rfl
    cases hx with
    |@by_ _ r c off pre rest e' fz hm hle hoff=>
     subst hoff
     have ho:=(hi.fz.frz _ _ hm).1
     rw[hrun rfl (by
      show(loadCells _ _).run P w=_
      rw[a_T ho pre.length l.length an]
      congr 2
      rw[List.drop_left,List.take_append_of_le_length an,List.take_of_length_le an]) rfl]
     exact⟨_,_,ι,hK,.str,Inj.le_refl _,hi⟩
    |@by0 a c=>
     cases a with
     |none=>
      rw[Go.run_convert_bytes_nil w src e hs he _ _ dst hd]
      exact⟨_,_,ι,hK,.str,Inj.le_refl _,hi⟩
     |some a=>
      rw[hrun (base:=some a) (len:=0) (cap':=c) rfl (by show(loadCells _ _).run P w=_;simp[loadCells,loadCellsFrom]) rfl]
      exact⟨_,_,ι,hK,.str,Inj.le_refl _,hi⟩
   ·exact h.elim
  ·rename_i r
   cases hx
   have:(convert src dst (.string ⟨(a_3 r).toArray⟩)).run P w=.ok (.string ⟨(a_3 r).toArray⟩) w:=by
    simp[convert,a_a hs,a_a hd]
   rw[this]
   exact⟨_,_,ι,h,.rope,Inj.le_refl _,hi⟩
  ·rename_i id pre mid cap
   split at h
   ·rename_i e full e' tot hg
    split at h
    ·rename_i rest0 hpre
     split at h
     ·rename_i rest1 hmid
      obtain⟨hc,hK⟩:=a_h h
      have he:=d_y hc
      have hfull:a_3 full=a_3 pre++(a_3 mid++a_3 rest1):=by
       rw[e_j hpre,e_j hmid,d_w,d_w]
      obtain⟨r,o,hr,ho,hb,_⟩:=hi.blk _ _ hg
      cases hx with
      |rsl hr' hl hoff hcap=>
      rename_i off' r' cap'
      rw[hr] at hr';cases hr'
      have hrun:(convert src dst (.slice (some ⟨r,off',none⟩) (a_3 mid).length cap')).run P w=.ok (.string ⟨(a_3 mid).toArray⟩) w:=by
       rw[Go.run_convert_bytes_string w src dst e _ (a_3 mid).length cap' hs he hd]
       have hlc:(loadCells ⟨r,off',none⟩ (a_3 mid).length).run P w=.ok ((((a_3 mid).map (fun b=>(b.toNat:Int))).map (Value.int .u8)).toArray) w:=by
        have hb':(loadCells ⟨r,off',none⟩ (a_3 mid).length).run P w=.ok ((a_3 mid).map a_v).toArray w:=by
         rcases hoff with rfl|h0
         ·have hb2:BDen ι (.bytes (a_3 full) e' tot) o:=hb
          have:=a_0 (P:=P) (b:=.bytes (a_3 full) e' tot) (off:=(a_3 pre).length) (len:=(a_3 mid).length) hb2 (by rw[hfull];simp) ho
          rw[this,hfull]
          simp
         ·have:(a_3 mid).length=0:=ac
          have h1:a_3 mid=[]:=by simpa using this
          rw[h1]
          simp[loadCells,loadCellsFrom]
        rw[hb',List.map_map]
        rfl
       rw[Go.run_bytesToString w _ (a_3 mid).length cap' _ hlc,Go.foldl_push_bytes]
       have hid:(fun n:Int=>UInt8.ofNat n.toNat)∘(fun b:UInt8=>(b.toNat:Int))=_root_.id:=by
        funext b;simp
       rw[List.map_map,hid,List.map_id]
       congr 2
       simp[ByteArray.empty,ByteArray.emptyWithCapacity]
       rfl
      rw[hrun]
      exact⟨_,_,ι,hK,.rope,Inj.le_refl _,hi⟩
     ·exact h.elim
    ·exact h.elim
   ·exact h.elim
  ·exact h.elim
 ·rename_i s e hs hd
  split at h
  ·rename_i l
   obtain⟨hc,hK⟩:=a_h h
   rw[Bool.and_eq_true] at hc
   have he:=d_y hc.1
   cases hx
   obtain⟨r,c,ι',w',hrun,hcap,h63,hle,hnc,hnr,hinv⟩:=e_w (P:=P) (l:=l) hi hs hd he (b:=.bytes l e (.u H.next 1)) (fun _ _ h=>h)
   rw[hrun]
   exact⟨_,_,ι',hK,.slc hnr hcap (.inl rfl) ⟨c,hnc,h63 (a_B hc.2),rfl⟩,hle,hinv⟩
  ·rename_i r0
   obtain⟨hc,hK⟩:=a_h h
   have he:=d_y hc
   cases hx
   obtain⟨r,c,ι',w',hrun,hcap,_,hle,hnc,hnr,hinv⟩:=e_w (P:=P) (l:=a_3 r0) hi hs hd he (b:=.rbytes r0 e (.u H.next 1)) (fun _ _ h=>h)
   rw[hrun]
   exact⟨_,_,ι',hK,.rsl hnr hcap (.inl rfl) trivial,hle,hinv⟩
  ·rename_i id off len c
   split at h
   ·rename_i s0 l e' tot hg
    obtain⟨hc,hK⟩:=a_h h
    simp only[Bool.and_eq_true,Bool.not_eq_true'] at hc
    obtain⟨⟨h1,h2⟩,hro⟩:=hc
    have he:=d_y h2
    have hsd:src=dst:=Nat.eq_of_beq_eq_true h1
    obtain⟨r,o,hr,ho,⟨rest,fz,rfl,ht,hfz⟩,_⟩:=hi.blk _ _ hg
    cases hx with
    |slc hr' hl hoff hcap=>
    rename_i off' r' cap'
    rw[hr] at hr';cases hr'
    have hrun:(convert src dst (.slice (some ⟨r,off',none⟩) len cap')).run P w=.ok (.slice (some ⟨r,off',none⟩) len cap') (w.freeze ⟨r,l.length+rest.length,none⟩ 1):=by
     subst hsd
     simp[convert,a_a hd,a_a he,markStringish,World.shape?,ho]
    rw[hrun]
    have hw:w.freeze ⟨r,l.length+rest.length,none⟩ 1=a_H w r (.cells (l.map a_v++rest).toArray e' (if fz.1==fz.2 then(l.length+rest.length,l.length+rest.length+1) else(min fz.1 (l.length+rest.length),max fz.2 (l.length+rest.length+1)))):=by
     unfold World.freeze a_H
     rw[if_neg ar]
     congr 1
     apply Array.ext_getElem?
     intro i
     rw[Array.getElem?_modify,Array.getElem?_setIfInBounds]
     by_cases e:r=i
     ·subst e
      have hlt:r<w.heap.size:=by
       rcases Nat.lt_or_ge r w.heap.size with h'|h'
       ·exact h'
       ·rw[Array.getElem?_eq_none h'] at ho;cases ho
      rw[if_pos rfl,if_pos rfl,if_pos hlt,ho]
      rfl
     ·rw[if_neg e,if_neg e]
    rw[hw]
    refine⟨_,_,ι,hK,.slc hr hl hoff hcap,Inj.le_refl _,?_⟩
    refine hi.set hg hr hro (b':=.bytes l e' tot) ⟨rest,_,rfl,ht,fun k hk=>?_⟩ (a_M ho) (fun k hk=>a_A hk) a_I rfl rfl rfl
    have h0:=hfz fz.1
    have hk0:=hfz k hk
    split
    ·simp only;omega
    ·rename_i hne
     have hne:fz.1≠fz.2:=fun e=>hne (by rw[e];exact beq_self_eq_true _)
     simp only
     omega
   ·exact h.elim
  ·exact h.elim
 ·exact h.elim
end
end Go.Sx
namespace Go.Sx
open Go
variable [Syms]
section
variable {P:Program} {w0 w:World} {F0:Fp} {ι:Inj} {H:AHeap}
theorem Inv.rebind(h:Inv w0 F0 ι H w){id r:Nat}{b b':ABlk}{o':Obj}(hg:H.get id=some b)(hr:ι id=some r)(hro:H.isRo id=false)
 {w':World} (hb:∀ι':Inj,ι.le ι'->BDen ι' b' o') (hw:w'.heap[r]?=some o') (hoth:∀k,k≠r->w'.heap[k]?=w.heap[k]?) (hsz:w'.heap.size=w.heap.size) (ht:w'.tape=w.tape) (hos:w'.os=w.os) (hout:w'.output=w.output):
 ∃ι',ι.le ι'/\ι' H.next=some r/\Inv w0 F0 ι' ((H.del id).new b') w':=by
 have hn:ι H.next=none:=h.fresh _ (Nat.le_refl _)
 let ι':Inj:=⟨fun i=>if i=H.next then some r else ι i,ι.m,ι.ad⟩
 have hle:ι.le ι':=⟨fun i x hi=>by
  by_cases e:i=H.next
  ·subst e;rw[hn] at hi;cases hi
  ·simp[ι',e,hi],fun _ _ h=>h,fun _ _ h=>h⟩
 have hnm:ι.m r=none:=h.fz.nofz id b r hg hr
 obtain⟨r0,o0,hr0,ho0,_,hf0⟩:=h.blk id b hg
 rw[hr] at hr0;cases hr0
 have hnx:(H.del id).next=H.next:=rfl
 have old:∀k c,k≠H.next->((H.del id).new b').get k=some c->k≠id/\H.get k=some c:=by
  intro k c hk hgk
  rw[AHeap.get_new,hnx,if_neg hk,AHeap.get_del] at hgk
  by_cases e:k=id
  ·simp[e] at hgk
  ·rw[if_neg e] at hgk;exact⟨e,hgk⟩
 have hf1:F0.w r\/w0.heap.size<=r:=by
  rcases hf0 with h1|h1|h1
  ·exact .inl h1
  ·exact .inr h1
  ·rw[hro] at h1;cases h1.2
 refine⟨ι',hle,by simp[ι'],?_,?_,?_,?_,by rw[hsz];exact h.size,ht.trans h.tape,hos.trans h.os,hout.trans h.output,h.glob,⟨fun k o hm=>?_,fun k c x hk hx=>?_,fun x c r hx hr=>?_,h.fz.stinj,h.fz.stad⟩⟩
 rotate_left 4
 ·obtain⟨h1,h2⟩:=h.fz.frz k o hm
  refine⟨?_,h2⟩
  rw[hoth k (fun e=>by rw[e,hnm] at hm;cases hm)]
  exact h1
 ·by_cases e:k=H.next
  ·have:r=x:=by rw[e] at hx;simpa[ι'] using hx
   rw[←this];exact hnm
  ·obtain⟨_,hgk⟩:=old k c e hk
   exact h.fz.nofz k c x hgk (by simpa[ι',e] using hx)
 ·obtain⟨o,h1,h2⟩:=h.fz.st x c r hx hr
  exact⟨o,h1,h2.mono (Inj.bare_mono hle 0)⟩
 ·intro k c hc
  by_cases e:k=H.next
  ·subst e
   rw[AHeap.get_new,hnx,if_pos rfl] at hc
   cases hc
   exact⟨r,o',by simp[ι'],hw,hb ι' hle,hf1.elim .inl fun h=>.inr (.inl h)⟩
  ·obtain⟨hne,hgk⟩:=old k c e hc
   obtain⟨r1,o1,hr1,ho1,hb1,hf1⟩:=h.blk k c hgk
   have hrr:r1≠r:=fun e'=>hne (h.inj k id c b r hgk hg (e'▸hr1) hr)
   exact⟨r1,o1,hle _ _ hr1,by rw[hoth r1 hrr];exact ho1,hb1.mono hle,hf1⟩
 ·intro i j bi bj x hi hj hri hrj
  by_cases ei:i=H.next<;>by_cases ej:j=H.next
  ·rw[ei,ej]
  ·obtain⟨hne,hgj⟩:=old j bj ej hj
   have h1:x=r:=bJ
   have h2:ι j=some x:=by simpa[ι',ej] using hrj
   exact(hne (h.inj j id bj b r hgj hg (h1▸h2) hr)).elim
  ·obtain⟨hne,hgi⟩:=old i bi ei hi
   have h1:x=r:=bK
   have h2:ι i=some x:=by simpa[ι',ei] using hri
   exact(hne (h.inj i id bi b r hgi hg (h1▸h2) hr)).elim
  ·obtain⟨_,hgi⟩:=old i bi ei hi
   obtain⟨_,hgj⟩:=old j bj ej hj
   exact h.inj i j bi bj x hgi hgj (by simpa[ι',ei] using hri) (by simpa[ι',ej] using hrj)
 ·intro k hk
  have:k≠H.next:=fun e=>by subst e;simp[AHeap.new,AHeap.del] at hk;omega
  simp only[ι',if_neg this]
  exact h.fresh k (by simp[AHeap.new,AHeap.del] at hk;omega)
 ·intro k hk hf
  have hne:k≠r:=fun e=>by
   subst e
   rcases hf1 with hf0|hf0
   ·exact hf hf0
   ·omega
  rw[hoth k hne]
  exact h.frame k hk hf
def l_P(P:Program)(t:TypeId)(x:AVal)(K:AVal->Prop):Prop:=
 match P.underlying t with
 |some (.interface _)=>False
 |some _=>K (.ifc t x)
 |none=>False
theorem o_T{t:TypeId}{x:AVal}{a:Value}{K:AVal->AHeap->Prop}(h:l_P P t x (fun v=>K v H))(hi:Inv w0 F0 ι H w)(hx:Den ι x a):Ok w0 F0 ι K ((Instr.makeInterface t a).run P w):=by
 unfold l_P at h
 split at h
 ·exact h.elim
 ·rename_i d hd hu
  have:(Instr.makeInterface t a).run P w=.ok (.iface t a) w:=by
   simp only[Instr.makeInterface,Sem.run_bind,a_a hu,Result.andThen_ok]
   cases d<;>first|rfl|exact(hd _ hu).elim
  rw[this]
  exact⟨_,_,ι,h,.ifc hx,Inj.le_refl _,hi⟩
 ·exact h.elim
def t_z:AVal->Option (List AVal)
 | .tup cs=>some cs
 | .lit (.tuple c)=>some (c.toList.map (ofValue 2))
 |_=>none
theorem r_v{a:AVal}{v:Value}{cs:List AVal}(h:t_z a=some cs)(hd:Den ι a v):∃c:Array Value,v=.tuple c/\DenL ι cs c.toList:=by
 cases hd with
 |tup hs=>simp[t_z] at h;subst h;exact⟨_,rfl,hs⟩
 |lit=>cases v<;>simp[t_z] at h;subst h;exact⟨_,rfl,DenL.map_of (a_Q 2) _⟩
 |_=>simp[t_z] at h
def g_U(x:AVal)(i:Nat)(K:AVal->Prop):Prop:=
 match t_z x with
 |some cs=>match h_R cs i with
  |some v=>K v
  |none=>False
 |none=>False
theorem k_p{x:AVal}{a:Value}{i:Nat}{K:AVal->AHeap->Prop}(h:g_U x i (fun v=>K v H))(hi:Inv w0 F0 ι H w)(hx:Den ι x a):Ok w0 F0 ι K ((Instr.extract a i).run P w):=by
 unfold g_U at h
 split at h
 ·rename_i cs hcs
  obtain⟨c,rfl,hc⟩:=r_v hcs hx
  split at h
  ·rename_i v hv
   rw[b_J] at hv
   obtain⟨y,hy,hden⟩:=hc.get i hv
   have hy':c[i]?=some y:=by simpa using hy
   simp only[Instr.extract,hy',Sem.run_pure]
   exact⟨_,_,ι,h,hden,Inj.le_refl _,hi⟩
  ·exact h.elim
 ·exact h.elim
def i_X(P:Program)(x:AVal)(t:TypeId)(ok:Bool)(K:AVal->Prop):Prop:=
 match P.underlying t with
 |some (.interface want)=>match x with
  | .lit .nilIface=>match ok,c_z P t with
    |true,some z=>K (.tup [ofValue 1 z,.lit (.bool false)])
    |_,_=>False
  | .ifc d v=>match P.info? d with
    |some i=>match Instr.missingMethod want i.methods with
     |none=>K (cond ok (.tup [.ifc d v,.lit (.bool true)]) (.ifc d v))
     |some _=>match ok,c_z P t with
      |true,some z=>K (.tup [ofValue 1 z,.lit (.bool false)])
      |_,_=>False
    |none=>False
  |_=>False
 |some _=>match x with
  | .lit .nilIface=>match ok,c_z P t with
    |true,some z=>K (.tup [ofValue 1 z,.lit (.bool false)])
    |_,_=>False
  | .ifc d v=>cond (Nat.beq d t) (K (cond ok (.tup [v,.lit (.bool true)]) v)) (match ok,c_z P t with
    |true,some z=>K (.tup [ofValue 1 z,.lit (.bool false)])
    |_,_=>False)
  |_=>False
 |none=>False
theorem c_l{a b:AVal}{x y:Value}(h:Den ι a x)(h':Den ι b y):Den ι (.tup [a,b]) (.tuple #[x,y]):=.tup (.cons h (.cons h' .nil))
theorem l_Q{x:AVal}{a:Value}{s t:TypeId}{ok:Bool}{K:AVal->AHeap->Prop}(h:i_X P x t ok (fun v=>K v H))(hi:Inv w0 F0 ι H w)(hx:Den ι x a):Ok w0 F0 ι K ((Instr.typeAssert a s t ok).run P w):=by
 have fin:∀{v:Value} {z:AVal},K z H->Den ι z v->(Instr.typeAssert a s t ok).run P w=.ok v w->Ok w0 F0 ι K ((Instr.typeAssert a s t ok).run P w):=by
  intro v z hK hz hr
  rw[hr]
  exact⟨_,_,ι,hK,hz,Inj.le_refl _,hi⟩
 unfold i_X at h
 split at h
 ·rename_i want hu
  split at h
  ·cases hx
   split at h
   ·rename_i z hz
    exact fin h (c_l (a_Q 1 z) .lit) (by simp[Instr.typeAssert,a_a hu,b_g hz])
   ·exact h.elim
  ·rename_i d v
   cases hx with
   |ifc hx=>
   split at h
   ·rename_i i hinf
    split at h
    ·rename_i hm
     cases ok
     ·exact fin h (.ifc hx) bA
     ·exact fin h (c_l (.ifc hx) .lit) bA
    ·rename_i m hm
     split at h
     ·rename_i z hz
      exact fin h (c_l (a_Q 1 z) .lit) (by simp[Instr.typeAssert,a_a hu,a_u hinf,hm,b_g hz])
     ·exact h.elim
   ·exact h.elim
  ·exact h.elim
 ·rename_i d0 hnot hu
  have hd0:∀want,d0≠ .interface want:=fun want e=>hnot want e
  split at h
  ·cases hx
   split at h
   ·rename_i z hz
    refine fin h (c_l (a_Q 1 z) .lit) ?_
    simp only[Instr.typeAssert,Sem.run_bind,a_a hu,Result.andThen_ok]
    cases d0<;>first|exact(hd0 _ rfl).elim|simp[b_g hz]
   ·exact h.elim
  ·rename_i d v
   cases hx with
   |ifc hx=>
   rename_i y
   by_cases hdt:d=t
   ·subst hdt
    rw[beq_self] at h
    simp only[cond_true] at h
    cases ok
    ·refine fin h hx ?_
     simp only[Instr.typeAssert,Sem.run_bind,a_a hu,Result.andThen_ok]
     cases d0<;>first|exact(hd0 _ rfl).elim|simp
    ·refine fin h (c_l hx .lit) ?_
     simp only[Instr.typeAssert,Sem.run_bind,a_a hu,Result.andThen_ok]
     cases d0<;>first|exact(hd0 _ rfl).elim|simp
   ·rw[b_b hdt] at h
    simp only[cond_false] at h
    split at h
    ·rename_i z hz
     refine fin h (c_l (a_Q 1 z) .lit) ?_
     simp only[Instr.typeAssert,Sem.run_bind,a_a hu,Result.andThen_ok]
     cases d0<;>first|exact(hd0 _ rfl).elim|simp[hdt,b_g hz]
    ·exact h.elim
  ·exact h.elim
 ·exact h.elim
def l_R(H:AHeap)(K:AVal->AHeap->Prop):Prop:=K (.map H.next) (H.new (.map [] 0))
theorem l_S{t:TypeId}{K:AVal->AHeap->Prop}(h:l_R H K)(hi:Inv w0 F0 ι H w):Ok w0 F0 ι K ((Instr.makeMap t none).run P w):=by
 obtain⟨ι',hle,hn,hinv⟩:=hi.new (b:=.map [] 0) (o:=.map #[] 0) ⟨#[],rfl,trivial⟩
 simp only[Instr.makeMap,Sem.run_bind,run_newObj,Result.andThen_ok,Sem.run_pure]
 exact⟨_,_,ι',h,.map hn,hle,hinv⟩
def k_q:AVal->AVal->Option Bool
 | .str a,.str b=>some (eqL a b)
 | .lit (.int k a),.lit (.int k' b)=>cond (decide (k=k')) (some (a==b)) none
 |_,_=>none
def b_3(P:Program)(t:TypeId)(k:AVal):Bool:=
 match P.underlying t,k with
 |some .string,.str _=>true
 |some (.int _),.lit (.int _ _)=>true
 |_,_=>false
def g_V(k:AVal):List (AVal×AVal×Nat)->Nat->Option (Option (Nat×AVal))
 |[],_=>some none
 |(k',v,_)::r,i=>match k_q k k' with
  |some true=>some (some (i,v))
  |some false=>g_V k r (i+1)
  |none=>none
def x_N(k v:AVal):List (AVal×AVal×Nat)->Nat->List (AVal×AVal×Nat)
 |[],_=>[]
 |(_,_,n)::r,0=>(k,v,n)::r
 |e::r,i+1=>e::x_N k v r i
theorem o_U{t:TypeId}{k k':AVal}{a a':Value}{b:Bool}{d:TypeDesc}(hp:b_3 P t k=true)(hu:P.underlying t=some d)(h:k_q k k'=some b)(hk:Den ι k a)(hk':Den ι k' a'):Instr.sameNow d a a'=some b/\(b=true->Instr.sameBits 10000 a' a=true):=by
 unfold b_3 at hp
 split at hp
 ·rename_i l hus
  rw[hu] at hus;cases hus
  cases k'<;>simp[k_q] at h
  cases hk;cases hk'
  subst h
  refine⟨by simp[Instr.sameNow,d_s,e_k],fun hb=>?_⟩
  rw[d_s] at hb
  have:=(eq_of_beq hb)
  subst this
  simp[Instr.sameBits,e_k]
 ·rename_i kk n nn hus
  rw[hu] at hus;cases hus
  cases k'<;>simp only[k_q] at h<;>try cases h
  rename_i v
  cases v<;>simp only[] at h<;>try cases h
  rename_i k2 n2
  cases hk;cases hk'
  by_cases e:n=k2
  ·subst e
   simp at h
   subst h
   exact⟨by simp[Instr.sameNow],fun hb=>by simp at hb;subst hb;simp[Instr.sameBits]⟩
  ·simp[e] at h
 ·cases hp
theorem e_I{t:TypeId}{k:AVal}{a:Value}{d:TypeDesc}(hp:b_3 P t k=true)(hu:P.underlying t=some d)(hk:Den ι k a):
 ∀{es:List (AVal×AVal×Nat)} {l:List MapEntry} (_:EDen ι es l) (i:Nat) {r:Option (Nat×AVal)},g_V k es i=some r->
  (r=none->Instr.findNow d a l i=some none)/\(∀j v,r=some (j,v)->i<=j/\∃x e,Instr.findNow d a l i=some (some (j,x))/\Den ι v x/\l[j-i]?=some e/\e.val=x/\Instr.sameBits 10000 e.key a=true)
 |[],[],_,i,r,h=>by simp[g_V] at h;subst h;exact⟨fun _=>rfl,fun j v hh=>by cases hh⟩
 |(k',v',n)::es,e::l,he,i,r,h=>by
  obtain⟨h1,h2,h3,h4⟩:=he
  simp only[g_V] at h
  cases hq:k_q k k' with
  |none=>rw[hq] at h;cases h
  |some b=>
   rw[hq] at h
   obtain⟨hs,hbits⟩:=o_U hp hu hq hk h1
   cases b with
   |true=>
    simp at h;subst h
    refine⟨fun hh=>(by cases hh),fun j v hh=>?_⟩
    cases hh
    exact⟨Nat.le_refl _,e.val,e,by simp[Instr.findNow,hs],h2,an,rfl,hbits rfl⟩
   |false=>
    simp at h
    obtain⟨g1,g2⟩:=e_I hp hu hk h4 (i+1) h
    refine⟨fun hh=>by simpa[Instr.findNow,hs] using g1 hh,fun j v hh=>?_⟩
    obtain⟨hle,x,e',hf,hden,hget,hval,hb⟩:=g2 j v hh
    refine⟨ac,x,e',by simpa[Instr.findNow,hs] using hf,hden,?_,hval,hb⟩
    have:j-i=(j-(i+1))+1:=ac
    rw[this]
    simpa using hget
 |[],_::_,he,_,_,_=>by cases he
 |_::_,[],he,_,_,_=>by obtain⟨_,_,_⟩:= ‹AVal×AVal×Nat›;cases he
theorem l_T{k v:AVal}{a x:Value}(hk:Den ι k a)(hv:Den ι v x):∀{es:List (AVal×AVal×Nat)} {l:List MapEntry} (_:EDen ι es l) (i:Nat),EDen ι (x_N k v es i) (l.modify i fun e=>{e with key:=a,val:=x})
 |[],[],h,i=>by cases i<;>exact h
 |(_,_,_)::_,_::_,h,0=>⟨hk,hv,h.2.2.1,h.2.2.2⟩
 |(_,_,_)::_,_::_,h,i+1=>by rw[List.modify_succ_cons];exact⟨h.1,h.2.1,h.2.2.1,l_T hk hv h.2.2.2 i⟩
 |[],_::_,h,_=>am
 |(_,_,_)::_,[],h,_=>am
theorem EDen.snoc{k v:AVal}{e:MapEntry}{n:Nat}(hk:Den ι k e.key)(hv:Den ι v e.val)(hn:e.born=n):∀{es:List (AVal×AVal×Nat)} {l:List MapEntry} (_:EDen ι es l),EDen ι (es++[(k,v,n)]) (l++[e])
 |[],[],_=>⟨hk,hv,hn,trivial⟩
 |(_,_,_)::_,_::_,h=>⟨h.1,h.2.1,h.2.2.1,EDen.snoc hk hv hn h.2.2.2⟩
 |[],_::_,h=>am
 |(_,_,_)::_,[],h=>am
def g_W(P:Program)(t:TypeId)(m k v:AVal)(H:AHeap)(K:AHeap->Prop):Prop:=
 match P.underlying t,m with
 |some (.map kt _),.map id=>gd (b_3 P kt k&& !H.isRo id) (match H.get id with
  |some (.map es clock)=>match g_V k es 0 with
   |some (some (i,_))=>K (H.set id (.map (x_N k v es i) clock))
   |some none=>K (H.set id (.map (es++[(k,v,clock)]) (clock+1)))
   |none=>False
  |_=>False)
 |_,_=>False
theorem c_5{b:Bool}{n:Nat}{t:TypeId}{k:AVal}{a:Value}(hp:b_3 P t k=true)(hk:Den ι k a):(Instr.checkKey b (n+1) t a).run P w=.ok () w:=by
 unfold b_3 at hp
 split at hp
 ·rename_i l hus
  cases hk
  simp[Instr.checkKey,a_a hus]
 ·rename_i kk n' kk' hus
  cases hk
  simp[Instr.checkKey,a_a hus]
 ·cases hp
theorem e_x{t:TypeId}{k:AVal}(hp:b_3 P t k=true):∃d,P.underlying t=some d:=by
 unfold b_3 at hp
 split at hp
 ·exact⟨_,ai⟩
 ·exact⟨_,ai⟩
 ·cases hp
theorem c_E{r:Nat}{es:Array MapEntry}{c:Nat}(h:w.heap[r]?=some (.map es c)):(getObj r).run P w=.ok (.map es c) w:=by
 simp[getObj,Sem.run,h]
theorem f_0{r:Nat}{es:Array MapEntry}{c:Nat}{o:Obj}(h:w.heap[r]?=some (.map es c)):(setObj r o).run P w=.ok () (a_H w r o):=by
 simp[setObj,Sem.run,h,a_H]
theorem h_1{t:TypeId}{m k v:AVal}{mv kv vv:Value}{K:AHeap->Prop}(h:g_W P t m k v H K)(hi:Inv w0 F0 ι H w)(hm:Den ι m mv)(hk:Den ι k kv)(hv:Den ι v vv):OkU w0 F0 ι K ((Instr.mapUpdate t mv kv vv).run P w):=by
 unfold g_W at h
 split at h
 ·rename_i kt e id hu
  obtain⟨hp,h⟩:=a_h h
  simp only[Bool.and_eq_true,Bool.not_eq_true'] at hp
  obtain⟨hp,hro⟩:=hp
  cases hm with
  |map hr=>
  rename_i r
  split at h
  ·rename_i es clock hg
   obtain⟨r',o,hr',ho,hb,hf⟩:=hi.blk _ _ hg
   rw[hr] at hr';cases hr'
   obtain⟨ent,rfl,hE⟩:=hb
   obtain⟨d,hd⟩:=e_x hp
   have hck:=c_5 (P:=P) (w:=w) (b:=false) (n:=9999) hp hk
   split at h
   ·rename_i i v0 hfind
    obtain⟨_,g⟩:=e_I hp hd hk hE 0 hfind
    obtain⟨_,x,e',hfn,_,hget,_,hbits⟩:=g i v0 rfl
    have hget':ent[i]?=some e':=by simpa using hget
    have hrun:(Instr.mapUpdate t (.map (some r)) kv vv).run P w=.ok () (a_H w r (.map (ent.modify i fun e=>{e with key:=kv,val:=vv}) clock)):=by
     simp only[Instr.mapUpdate,Sem.run_bind,a_a hu,Result.andThen_ok,c_E ho,hck,Instr.findKey,a_a hd,hfn,Sem.run_pure,hget',Option.map_some,Option.getD_some,Instr.keyThatStays,hbits,if_true,f_0 ho]
    rw[hrun]
    refine⟨_,ι,h,Inj.le_refl _,hi.set hg hr hro ?_ (a_M ho) (fun k hk=>a_A hk) a_I rfl rfl rfl⟩
    exact⟨_,rfl,by simpa using l_T hk hv hE i⟩
   ·rename_i hfind
    obtain⟨g,_⟩:=e_I hp hd hk hE 0 hfind
    have hfn:=g rfl
    have hrun:(Instr.mapUpdate t (.map (some r)) kv vv).run P w=.ok () (a_H w r (.map (ent.push {key:=kv,val:=vv,born:=clock}) (clock+1))):=by
     simp only[Instr.mapUpdate,Sem.run_bind,a_a hu,Result.andThen_ok,c_E ho,hck,Instr.findKey,a_a hd,hfn,Sem.run_pure,f_0 ho]
    rw[hrun]
    refine⟨_,ι,h,Inj.le_refl _,hi.set hg hr hro ?_ (a_M ho) (fun k hk=>a_A hk) a_I rfl rfl rfl⟩
    exact⟨_,rfl,by simpa using EDen.snoc (e:={key:=kv,val:=vv,born:=clock}) hk hv rfl hE⟩
   ·exact h.elim
  ·exact h.elim
 ·exact h.elim
def o_V(z:AVal):Option (Nat×AVal)->AVal
 |some (_,v)=>v
 |none=>z
def o_W:Option (Nat×AVal)->Bool
 |some _=>true
 |none=>false
def x_n(k:IntKind):List (AVal×AVal×Nat)->Bool
 |[]=>true
 |(.lit (.int k' _),_,_)::r=>decide (k=k')&&x_n k r
 |_=>false
def x_o(n:Int):List (AVal×AVal×Nat)->Bool
 |[]=>false
 |(.lit (.int _ m),_,_)::r=>(n==m)||x_o n r
 |_=>false
theorem h_2{k:IntKind}{n:Int}:∀{es:List (AVal×AVal×Nat)} (i:Nat),x_n k es=true->∃r,g_V (.lit (.int k n)) es i=some r/\o_W r=x_o n es
 |[],i,_=>⟨none,rfl,rfl⟩
 |(a,v,b)::r,i,h=>by
  unfold x_n at h
  split at h
  ·rename_i e;cases e
  ·rename_i k' m v' b' r' e
   cases e
   simp only[Bool.and_eq_true,decide_eq_true_eq] at h
   obtain⟨rfl,h⟩:=h
   obtain⟨x,hx,hb⟩:=h_2 (i+1) h
   simp only[g_V,k_q,decide_true,cond_true,x_o]
   cases hn:(n==m) with
   |true=>exact⟨_,rfl,by simp[o_W]⟩
   |false=>exact⟨x,hx,by simp[hb]⟩
  ·cases h
def r_w(P:Program)(kt:TypeId)(es:List (AVal×AVal×Nat))(z:Value)(k:AVal)(ok:Bool)(K:AVal->Prop):Prop:=
 gd (b_3 P kt k) (match ok,k with
     |true,.lit (.int kk n)=>gd (x_n kk es) (K (.tup [.top,.lit (.bool (x_o n es))]))
     |_,_=>match g_V k es 0 with
      |some r=>K (cond ok (.tup [o_V (ofValue 1 z) r,.lit (.bool (o_W r))]) (o_V (ofValue 1 z) r))
      |none=>False)
def c_N(P:Program)(t:TypeId)(m k:AVal)(ok:Bool)(H:AHeap)(K:AVal->Prop):Prop:=
 match P.underlying t with
 |some (.map kt et)=>match c_z P et with
  |some z=>match m with
   | .map id=>match H.get id with
     |some (.map es _)=>r_w P kt es z k ok K
     |_=>False
   | .smp x=>match H.st x with
     |some (.map es _)=>r_w P kt es z k ok K
     |_=>False
   |_=>False
  |none=>False
 |_=>False
theorem j_x{t kt et:TypeId}{es:List (AVal×AVal×Nat)}{ent:Array MapEntry}{z:Value}{clock r:Nat}{k:AVal}{kv:Value}{ok:Bool}{K:AVal->Prop}(h:r_w P kt es z k ok K)(hu:P.underlying t=some (.map kt et))(hz:c_z P et=some z)(hE:EDen ι es ent.toList)(hk:Den ι k kv):
 ∃x v,(∀w':World,w'.heap[r]?=some (.map ent clock)->(Instr.lookup t (.map (some r)) kv ok).run P w'=.ok v w')/\Den ι x v/\K x:=by
 obtain⟨hp,h⟩:=a_h h
 obtain⟨d,hd⟩:=e_x hp
 have go:∀(res:Option (Nat×AVal)),g_V k es 0=some res->∃v,(∀w':World,w'.heap[r]?=some (.map ent clock)->(Instr.lookup t (.map (some r)) kv ok).run P w'=.ok v w')/\Den ι (cond ok (.tup [o_V (ofValue 1 z) res,.lit (.bool (o_W res))]) (o_V (ofValue 1 z) res)) v:=by
  intro res hfind
  obtain⟨g1,g2⟩:=e_I hp hd hk hE 0 hfind
  cases res with
  |none=>
   have hfn:=g1 rfl
   have hrun:∀w':World,w'.heap[r]?=some (.map ent clock)->(Instr.lookup t (.map (some r)) kv ok).run P w'=.ok (if ok then .tuple #[z,.bool false] else z) w':=by
    intro w' ho
    have hck:=c_5 (P:=P) (w:=w') (b:=ent.isEmpty) (n:=9999) hp hk
    simp only[Instr.lookup,Sem.run_bind,a_a hu,Result.andThen_ok,c_E ho,Sem.run_pure,hck,Instr.findKey,a_a hd,hfn,b_g hz]
   cases ok
   ·exact⟨_,hrun,a_Q 1 z⟩
   ·exact⟨_,hrun,c_l (a_Q 1 z) .lit⟩
  |some jv=>
   obtain⟨j,v⟩:=jv
   obtain⟨_,x,e',hfn,hden,_,_,_⟩:=g2 j v rfl
   have hrun:∀w':World,w'.heap[r]?=some (.map ent clock)->(Instr.lookup t (.map (some r)) kv ok).run P w'=.ok (if ok then .tuple #[x,.bool true] else x) w':=by
    intro w' ho
    have hck:=c_5 (P:=P) (w:=w') (b:=ent.isEmpty) (n:=9999) hp hk
    simp only[Instr.lookup,Sem.run_bind,a_a hu,Result.andThen_ok,c_E ho,Sem.run_pure,hck,Instr.findKey,a_a hd,hfn]
   cases ok
   ·exact⟨_,hrun,hden⟩
   ·exact⟨_,hrun,c_l hden .lit⟩
 split at h
 ·rename_i kk n _
  obtain⟨hall,h⟩:=a_h h
  obtain⟨res,hfind,hb⟩:=h_2 (n:=n) 0 hall
  obtain⟨v,hrun,hden⟩:=go res hfind
  refine⟨_,_,hrun,?_,h⟩
  rw[cond_true] at hden
  rw[hb] at hden
  cases hden with
  |tup hden=>
  cases hden with
  |cons h1 h2=>exact .tup (.cons .top h2)
 ·split at h
  ·rename_i res hfind
   obtain⟨v,hrun,hden⟩:=go res hfind
   exact⟨_,_,hrun,hden,h⟩
  ·exact h.elim
theorem h_3{t:TypeId}{id:Nat}{k:AVal}{mv kv:Value}{ok:Bool}{K:AVal->AHeap->Prop}(h:c_N P t (.map id) k ok H (fun v=>K v H))(hi:Inv w0 F0 ι H w)(hm:Den ι (.map id) mv)(hk:Den ι k kv):
 ∃x v r o b,ι id=some r/\H.get id=some b/\w.heap[r]?=some o/\(∀w':World,w'.heap[r]?=some o->(Instr.lookup t mv kv ok).run P w'=.ok v w')/\Den ι x v/\K x H:=by
 unfold c_N at h
 split at h
 ·rename_i kt et hu
  split at h
  ·rename_i z hz
   cases hm with
   |map hr=>
   simp only at h
   split at h
   ·rename_i es clock hg
    obtain⟨r',o,hr',ho,hb,hf⟩:=hi.blk _ _ hg
    rw[hr] at hr';cases hr'
    obtain⟨ent,rfl,hE⟩:=hb
    obtain⟨x,v,h1,h2,h3⟩:=j_x h hu hz hE hk
    exact⟨x,v,_,_,_,hr,hg,ho,h1,h2,h3⟩
   ·exact h.elim
  ·exact h.elim
 ·exact h.elim
theorem h_4{t:TypeId}{sx:SId}{k:AVal}{mv kv:Value}{ok:Bool}{K:AVal->AHeap->Prop}(h:c_N P t (.smp sx) k ok H (fun v=>K v H))(hi:Inv w0 F0 ι H w)(hm:Den ι (.smp sx) mv)(hk:Den ι k kv):
 ∃x v r o,ι.m r=some o/\w.heap[r]?=some o/\(∀w':World,w'.heap[r]?=some o->(Instr.lookup t mv kv ok).run P w'=.ok v w')/\Den ι x v/\K x H:=by
 unfold c_N at h
 split at h
 ·rename_i kt et hu
  split at h
  ·rename_i z hz
   cases hm with
   |smp had=>
   simp only at h
   split at h
   ·rename_i es clock hg
    obtain⟨o,hmm,ho,hb⟩:=hi.stat hg had
    obtain⟨ent,rfl,hE⟩:=hb
    obtain⟨x,v,h1,h2,h3⟩:=j_x h hu hz hE hk
    exact⟨x,v,_,_,hmm,ho,h1,h2,h3⟩
   ·exact h.elim
  ·exact h.elim
 ·exact h.elim
theorem l_U{t:TypeId}{m k:AVal}{mv kv:Value}{ok:Bool}{K:AVal->AHeap->Prop}(h:c_N P t m k ok H (fun v=>K v H))(hi:Inv w0 F0 ι H w)(hm:Den ι m mv)(hk:Den ι k kv):Ok w0 F0 ι K ((Instr.lookup t mv kv ok).run P w):=by
 cases m with
 |map id=>
  obtain⟨x,v,r,o,b,hr,hg,ho,hrun,hd,hK⟩:=h_3 h hi hm hk
  rw[hrun w ho]
  exact⟨_,_,ι,hK,hd,Inj.le_refl _,hi⟩
 |smp sx=>
  obtain⟨x,v,r,o,_,ho,hrun,hd,hK⟩:=h_4 h hi hm hk
  rw[hrun w ho]
  exact⟨_,_,ι,hK,hd,Inj.le_refl _,hi⟩
 |_=>
  unfold c_N at h
  split at h
  ·split at h
   ·exact h.elim
   ·exact h.elim
  ·exact h.elim
end
end Go.Sx

