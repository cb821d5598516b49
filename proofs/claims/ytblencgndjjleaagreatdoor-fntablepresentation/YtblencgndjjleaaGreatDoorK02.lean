/- Lemmas of this claim; the last text says what is proved. -/
import Derived.Test.YtblencgndjjleaaGreatDoorK01
set_option linter.all false
namespace Go.Sx
open Go
variable [Syms]
section
variable {P:Program} {w0 w:World} {F0:Fp} {ι:Inj} {H:AHeap}
theorem a_a{t:TypeId}{d:TypeDesc}(h:P.underlying t=some d):(underlying t).run P w=.ok d w:=by simp[underlying,h]
theorem a_u{t:TypeId}{i:TypeInfo}(h:P.info? t=some i):(typeInfo t).run P w=.ok i w:=by simp[typeInfo,h]
theorem a_q{t:TypeId}{n:Nat}(h:(P.info? t).map (·.size)=some n):(sizeOf t).run P w=.ok n w:=by
 cases hi:P.info? t with
 |none=>rw[hi] at h;cases h
 |some i=>rw[hi] at h;simp at h;simp[sizeOf,a_u hi,h]
theorem b_g{t:TypeId}{z:Value}(h:(P.info? t).bind (·.zero)=some z):(zeroValue t).run P w=.ok z w:=by
 cases hi:P.info? t with
 |none=>rw[hi] at h;cases h
 |some i=>rw[hi] at h;simp at h;simp[zeroValue,a_u hi,h]
def szA(P:Program)(t:TypeId):Option Nat:=(P.info? t).map (·.size)
def c_z(P:Program)(t:TypeId):Option Value:=(P.info? t).bind (·.zero)
def c_Y(P:Program)(t:TypeId):Option Nat:=(P.info? t).map (·.bytes)
def k_k(P:Program)(t:TypeId):Option (Option Nat):=
 match P.underlying t with
 |some (.struct _)=>(szA P t).map some
 |some (.array _ _)=>(szA P t).map some
 |some _=>some none
 |none=>none
theorem h_S{t:TypeId}{n:Nat}(h:k_k P t=some (some n)):(isAgg t).run P w=.ok true w/\(P.info? t).map (·.size)=some n:=by
 unfold k_k at h
 split at h
 ·rename_i fs hu
  cases hs:szA P t with
  |none=>rw[hs] at h;cases h
  |some m=>rw[hs] at h;simp at h;subst h;exact⟨by simp[isAgg,a_a hu],hs⟩
 ·rename_i k e hu
  cases hs:szA P t with
  |none=>rw[hs] at h;cases h
  |some m=>rw[hs] at h;simp at h;subst h;exact⟨by simp[isAgg,a_a hu],hs⟩
 ·cases h
 ·cases h
theorem h_T{t:TypeId}(h:k_k P t=some none):(isAgg t).run P w=.ok false w:=by
 unfold k_k at h
 split at h
 ·cases hs:szA P t with
  |none=>rw[hs] at h;cases h
  |some m=>rw[hs] at h;simp at h
 ·cases hs:szA P t with
  |none=>rw[hs] at h;cases h
  |some m=>rw[hs] at h;simp at h
 ·rename_i d h1 h2 hu
  simp only[isAgg,Sem.run_bind,a_a hu,Result.andThen_ok]
  cases d<;>first|rfl|exact(h1 _ hu).elim|exact(h2 _ _ hu).elim
 ·cases h
theorem c_A{t:TypeId}{r off:Nat}{c:Array Value}{e:TypeId}{fz:Nat×Nat}{y:Value}(h:w.heap[r]?=some (.cells c e fz))(ha:k_k P t=some none)(hy:c[off]?=some y):(Instr.loadAt t (.pointer (some ⟨r,off,none⟩))).run P w=.ok y w:=by
 simp only[Instr.loadAt,Instr.sureAddr,loadVar,Sem.run_bind,Sem.run_pure,Result.andThen_ok,h_T ha,Sem.run_ite,Bool.false_eq_true,if_false,run_load,cell_at h,hy]
theorem e_Z{t:TypeId}{r off n:Nat}{c:Array Value}{e:TypeId}{fz:Nat×Nat}(h:w.heap[r]?=some (.cells c e fz))(ha:k_k P t=some (some n))(hle:off+n<=c.size):(Instr.loadAt t (.pointer (some ⟨r,off,none⟩))).run P w=.ok (.agg ((c.toList.drop off).take n).toArray) w:=by
 have:=h_S (w:=w) ha
 simp only[Instr.loadAt,Instr.sureAddr,loadVar,Sem.run_bind,Sem.run_pure,Result.andThen_ok,this.1,Sem.run_ite,if_true,a_q this.2]
 rw[a_T (w:=w) h _ _ hle,Result.andThen_ok]
def k_l(P:Program)(t:TypeId)(b:ABlk)(off:Nat)(K:AVal->Prop):Prop:=
 match k_k P t with
 |some (some n)=>rdN b off n (fun vs=>K (.agg vs))
 |some none=>rd b off K
 |none=>False
theorem j_m{t:TypeId}{b:ABlk}{o:Obj}{r off:Nat}{K:AVal->Prop}(h:k_l P t b off K)(hb:BDen ι b o):∃x y,(∀w':World,w'.heap[r]?=some o->(Instr.loadAt t (.pointer (some ⟨r,off,none⟩))).run P w'=.ok y w')/\Den ι x y/\K x:=by
 unfold k_l at h
 split at h
 ·rename_i n ha
  obtain⟨c,e,fz,as,rfl,hle,hden,hK⟩:=t_w hb h
  exact⟨_,_,fun w' hw'=>e_Z hw' ha hle,.agg hden,hK⟩
 ·rename_i ha
  obtain⟨c,e,fz,as,y,rfl,hy,hden,hK⟩:=x_J hb h
  exact⟨_,_,fun w' hw'=>c_A hw' ha hy,hden,hK⟩
 ·exact h.elim
def c_B(P:Program)(t:TypeId)(a:AVal)(H:AHeap)(K:AVal->AHeap->Prop):Prop:=
 match a with
 | .ptr id off=>match H.get id with
   |some b=>k_l P t b off (fun v=>K v H)
   |none=>False
 | .sp x off=>match H.st x with
   |some b=>k_l P t b off (fun v=>K v H)
   |none=>False
 | .bp l k=>match k_k P t with
   |some none=>gd (Nat.blt k l.length) (K (.lit (a_v (l.getD k 0))) H)
   |_=>False
 | .fmp f n k=>match k_k P t with
   |some none=>gd (Nat.blt k n) (k_j 8 (f k) (fun v=>K v H))
   |_=>False
 | .fpt cs off=>k_l P t (.row cs 0 (.n 0)) off (fun v=>K v H)
 | .fwp f _ _ k off=>match k_k P t with
   |some none=>match h_R (f k) off with
    |some v=>k_j 8 v (fun v=>K v H)
    |none=>False
   |some (some m)=>gd (Nat.ble (off+m) (f k).length) (K (.agg (((f k).drop off).take m)) H)
   |none=>False
 | .lit (.pointer (some ⟨g,k,none⟩))=>match k_k P t with
   |some none=>gd (Syms.gn g k) (K (.lit (.int .u8 (Syms.gf g k).toNat)) H)
   |_=>False
 |_=>False
theorem d_G{α:Type}{l:List α}{a w o:Nat}{y:α}(h:((l.drop a).take w)[o]?=some y):l[a+o]?=some y:=by
 rw[List.getElem?_take] at h
 split at h
 ·rwa [List.getElem?_drop] at h
 ·cases h
theorem j_n{t:TypeId}{id off:Nat}{v:Value}{K:AVal->AHeap->Prop}(h:c_B P t (.ptr id off) H K)(hi:Inv w0 F0 ι H w)(hd:Den ι (.ptr id off) v):
 ∃x y r o b,ι id=some r/\H.get id=some b/\w.heap[r]?=some o/\(∀w':World,w'.heap[r]?=some o->(Instr.loadAt t v).run P w'=.ok y w')/\Den ι x y/\K x H:=by
 cases hd with
 |ptr hr=>
  simp only[c_B] at h
  split at h
  ·rename_i b hg
   obtain⟨r,o,hr',ho,hb,_⟩:=hi.blk _ _ hg
   rw[hr] at hr';cases hr'
   obtain⟨x,y,h1,h2,h3⟩:=j_m h hb
   exact⟨x,y,_,_,b,hr,hg,ho,h1,h2,h3⟩
  ·exact h.elim
theorem Inv.stat(hi:Inv w0 F0 ι H w){x:SId}{b:ABlk}{r:Nat}(h:H.st x=some b)(hr:ι.ad x=some r):∃o,ι.m r=some o/\w.heap[r]?=some o/\BDen ι b o:=by
 obtain⟨o,h1,h2⟩:=hi.fz.st x b r h hr
 exact⟨o,h1,(hi.fz.frz _ _ h1).1,h2.mono (Inj.bare_le _ _)⟩
def fzA:AVal->Bool
 | .sp _ _=>true
 | .bp _ _=>true
 | .fmp _ _ _=>true
 | .fpt _ _=>true
 | .fwp _ _ _ _ _=>true
 |_=>false
theorem j_o{t:TypeId}{a:AVal}{v:Value}{K:AVal->AHeap->Prop}(h:c_B P t a H K)(hi:Inv w0 F0 ι H w)(hd:Den ι a v)(hz:fzA a=true):∃x y r o,ι.m r=some o/\w.heap[r]?=some o/\(∀w':World,w'.heap[r]?=some o->(Instr.loadAt t v).run P w'=.ok y w')/\Den ι x y/\K x H:=by
 cases hd with
 |sp had=>
  simp only[c_B] at h
  split at h
  ·rename_i b hg
   obtain⟨o,hm,ho,hb⟩:=hi.stat hg had
   obtain⟨x,y,h1,h2,h3⟩:=j_m h hb
   exact⟨x,y,_,o,hm,ho,h1,h2,h3⟩
  ·exact h.elim
 |@bp l k r off pre rest e fz hm hof=>
  subst hof
  simp only[c_B] at h
  split at h
  ·rename_i ha
   obtain⟨hlt,hK⟩:=a_h h
   have hlt:=a_Y hlt
   have ho:=(hi.fz.frz _ _ hm).1
   refine⟨_,a_v (l.getD k 0),_,_,hm,ho,fun w' hw'=>c_A hw' ha ?_,.lit,hK⟩
   rw[List.getElem?_toArray,List.getElem?_append_right ac,Nat.add_sub_cancel_left,List.getElem?_append_left bQ]
   simp[List.getD,hlt]
  ·exact h.elim
 |@fwp f wd n k o r off pre vs rest e fz hm hn hv hkn hof=>
  subst hof
  simp only[c_B] at h
  have ho:=(hi.fz.frz _ _ hm).1
  have hd:=hv k hkn
  have hl:=hd.length
  have hmul:(k+1)*wd<=n*wd:=Nat.mul_le_mul_right _ hkn
  rw[Nat.succ_mul] at hmul
  have hl2:(f k).length=wd:=by rw[hl];simp;omega
  split at h
  ·rename_i ha
   split at h
   ·rename_i v hnth
    rw[b_J] at hnth
    obtain⟨y,hy,hden⟩:=hd.get o hnth
    obtain⟨x,hden,hK⟩:=b_2 h hden
    have hy:=d_G hy
    refine⟨x,y,_,_,hm,ho,fun w' hw'=>c_A hw' ha ?_,hden,hK⟩
    have hlt:k*wd+o<vs.length:=(List.getElem?_eq_some_iff.1 hy).1
    rw[List.getElem?_toArray,List.getElem?_append_right ac,Nat.add_sub_cancel_left,List.getElem?_append_left hlt,hy]
   ·exact h.elim
  ·rename_i m ha
   obtain⟨hle,hK⟩:=a_h h
   have hle:=a_B hle
   refine⟨_,_,_,_,hm,ho,fun w' hw'=>e_Z hw' ha af,.agg ?_,hK⟩
   have e1:((pre++(vs++rest)).toArray.toList.drop (pre.length+(k*wd+o))).take m=((((vs.drop (k*wd)).take wd).drop o).take m):=by
    simp only[List.drop_append]
    have e2:pre.drop (pre.length+(k*wd+o))=[]:=List.drop_eq_nil_of_le ac
    rw[e2,Nat.add_sub_cancel_left,List.nil_append,List.take_append_of_le_length af,List.drop_take,List.drop_drop,List.take_take,Nat.min_eq_left ac]
   rw[e1]
   exact(hd.drop o).take m
  ·exact h.elim
 |@fmp f n k r off pre vs rest e fz hm hn hv hof=>
  subst hof
  simp only[c_B] at h
  split at h
  ·rename_i ha
   obtain⟨hlt,hK⟩:=a_h h
   have hlt:=a_Y hlt
   have hlt':k<vs.length:=ac
   have ho:=(hi.fz.frz _ _ hm).1
   obtain⟨x,hden,hK⟩:=b_2 hK (hv k vs[k] (List.getElem?_eq_getElem hlt'))
   refine⟨x,vs[k],_,_,hm,ho,fun w' hw'=>c_A hw' ha ?_,hden,hK⟩
   rw[List.getElem?_toArray,List.getElem?_append_right ac,Nat.add_sub_cancel_left,List.getElem?_append_left hlt',List.getElem?_eq_getElem hlt']
  ·exact h.elim
 |@fpt cs off r vs rest e fz hm hv=>
  simp only[c_B] at h
  have ho:=(hi.fz.frz _ _ hm).1
  unfold k_l at h
  split at h
  ·rename_i n ha
   obtain⟨hle,hK⟩:=a_h h
   have hle:=a_B hle
   have hl:=hv.length
   refine⟨_,_,_,_,hm,ho,fun w' hw'=>e_Z hw' ha af,.agg ?_,hK⟩
   have:((vs++rest).toArray.toList.drop off).take n=(vs.drop off).take n:=by
    simp only[List.drop_append]
    rw[List.take_append_of_le_length af]
   rw[this]
   exact(hv.drop off).take n
  ·rename_i ha
   simp only[rd] at h
   cases hnn:h_R cs off with
   |none=>rw[hnn] at h;exact h.elim
   |some a=>
    rw[hnn] at h
    obtain⟨y,hy,hden⟩:=hv.get off (by rw[←b_J];exact hnn)
    obtain⟨a',hden',h⟩:=b_2 h hden
    refine⟨_,y,_,_,hm,ho,fun w' hw'=>c_A hw' ha ?_,hden',h⟩
    have hlt:off<vs.length:=(List.getElem?_eq_some_iff.1 hy).1
    rw[List.getElem?_toArray,List.getElem?_append_left hlt,hy]
  ·exact h.elim
 |_=>cases hz
theorem c_M{t:TypeId}{a:AVal}{v:Value}{K:AVal->AHeap->Prop}(h:c_B P t a H K)(hi:Inv w0 F0 ι H w)(hd:Den ι a v):∃x y,(∀w':World,w'.heap=w.heap->(Instr.loadAt t v).run P w'=.ok y w')/\Den ι x y/\K x H:=by
 have fz:fzA a=true->∃x y,(∀w':World,w'.heap=w.heap->(Instr.loadAt t v).run P w'=.ok y w')/\Den ι x y/\K x H:=fun hz=>by
  obtain⟨x,y,r,o,_,ho,h1,h2,h3⟩:=j_o h hi hd hz
  exact⟨x,y,fun w' hw'=>h1 w' aR,h2,h3⟩
 cases hd with
 |ptr hr=>
  obtain⟨x,y,r,o,b,_,_,ho,h1,h2,h3⟩:=j_n h hi (.ptr hr)
  exact⟨x,y,fun w' hw'=>h1 w' aR,h2,h3⟩
 |sp _=>exact fz rfl
 |bp _ _=>exact fz rfl
 |fmp _ _ _ _=>exact fz rfl
 |fwp _ _ _ _ _=>exact fz rfl
 |fpt _ _=>exact fz rfl
 |@lit v=>
  obtain⟨g,k,rfl,h2⟩:∃g k,v=.pointer (some ⟨g,k,none⟩)/\(match k_k P t with
   |some none=>gd (Syms.gn g k) (K (.lit (.int .u8 (Syms.gf g k).toNat)) H)
   |_=>False):=by
   unfold c_B at h
   split at h<;>first
    |(rename_i heq;cases heq;done)
    |(rename_i g k heq;cases heq;exact⟨_,_,rfl,h⟩)
    |exact h.elim
  clear h
  split at h2<;>try exact h2.elim
  rename_i ha
  obtain⟨hgn,hK⟩:=a_h h2
  obtain⟨c,e,fz',hc,hk⟩:=Syms.gok w g k hi.good hgn
  exact⟨_,_,fun w' hw'=>c_A (by rw[hw'];exact hc) ha hk,.lit,hK⟩
 |_=>exact h.elim
theorem o_O{t:TypeId}{a:AVal}{v:Value}{K:AVal->AHeap->Prop}(h:c_B P t a H K)(hi:Inv w0 F0 ι H w)(hd:Den ι a v):Ok w0 F0 ι K ((Instr.loadAt t v).run P w):=by
 obtain⟨x,y,hrun,hden,hK⟩:=c_M h hi hd
 rw[hrun w rfl]
 exact⟨_,_,ι,hK,hden,Inj.le_refl _,hi⟩
def f_X(P:Program)(t:TypeId)(a v:AVal)(H:AHeap)(K:AHeap->Prop):Prop:=
 match a with
 | .ptr id off=>match H.get id with
   |some b=>match szA P t with
    |some n=>gd (nt v&&(Nat.beq v.cells.length n&& !H.isRo id)) (wr b off v.cells (fun b'=>K (H.set id b')))
    |none=>False
   |none=>False
 | .sp x off=>match H.st x with
   |some (.row cs _ _)=>match h_R cs off with
    |some (.str l)=>match v with
     | .str l'=>match szA P t with
       |some n=>gd (Nat.beq n 1) (l'=l/\K H)
       |none=>False
     |_=>False
    |_=>False
   |_=>False
 |_=>False
def OkU(w0:World)(F0:Fp)(ι:Inj)(K:AHeap->Prop):Result Unit->Prop
 | .ok _ w'=>∃H' ι',K H'/\ι.le ι'/\Inv w0 F0 ι' H' w'
 | .halt _ _=>False
theorem e_0{t:TypeId}{a b:AVal}{x y:Value}{K:AHeap->Prop}(h:f_X P t a b H K)(hi:Inv w0 F0 ι H w)(hd:Den ι a x)(hd':Den ι b y):OkU w0 F0 ι K ((Instr.storeAt t x y).run P w):=by
 cases hd with
 |ptr hr=>
  simp only[f_X] at h
  split at h
  ·rename_i blk hg
   obtain⟨r,o,hr',ho,hb,hf⟩:=hi.blk _ _ hg
   rw[hr] at hr';cases hr'
   split at h
   ·rename_i n hn
    obtain⟨hc,hK⟩:=a_h h
    simp only[Bool.and_eq_true,Bool.not_eq_true'] at hc
    obtain⟨hnt,hc,hro⟩:=hc
    have hc:=Nat.eq_of_beq_eq_true hc
    obtain⟨b',o',hK,hb',hrun⟩:=wr_ok (P:=P) hb (hd'.cells hnt) hK ho
    have hsz:y.cells.size=n:=by have:=(hd'.cells hnt).length;simp at this;omega
    simp only[Instr.storeAt,Instr.sureAddr,storeVar,Sem.run_bind,Sem.run_pure,Result.andThen_ok,a_q hn,hsz,ne_eq,not_true,if_false,hrun]
    exact⟨_,ι,hK,Inj.le_refl _,hi.set hg hr hro hb' (a_M ho) (fun k hk=>a_A hk) a_I rfl rfl rfl⟩
   ·exact h.elim
  ·exact h.elim
 |@sp sx off r had=>
  simp only[f_X] at h
  split at h
  rotate_left
  ·exact h.elim
  rename_i cs e tot hst
  split at h
  rotate_left
  ·exact h.elim
  rename_i l hnn
  split at h
  rotate_left
  ·exact h.elim
  rename_i l'
  split at h
  rotate_left
  ·exact h.elim
  rename_i n hn
  obtain⟨hc,hll,hK⟩:=a_h h
  subst hll
  have hc:=Nat.eq_of_beq_eq_true hc
  subst hc
  cases hd' with
  |str=>
  obtain⟨o,_,ho,hb⟩:=hi.stat hst had
  obtain⟨vs,rest,rfl,hv,_⟩:=hb
  obtain⟨y,hy,hden⟩:=hv.get off (by rw[←b_J];exact hnn)
  cases hden
  have hlt:off<vs.length:=(List.getElem?_eq_some_iff.1 hy).1
  have hrun:=a_D (P:=P) (off:=off) (e:=e) (fz:=(0,0)) [Value.string ⟨l'.toArray⟩] 0 w (vs++rest) ho af (fun k _ _ hh=>aP) (fun x hx=>by rw[List.mem_singleton] at hx;subst hx;rfl)
  have e2:a_x (vs++rest) (off+0) [Value.string ⟨l'.toArray⟩]=vs++rest:=by
   rw[b_j _ _ _ _ af,a_R,Nat.add_zero]
   apply List.ext_getElem?
   intro i
   by_cases hi:i=off
   ·subst hi
    rw[List.getElem?_set_self af,List.getElem?_append_left hlt,hy]
   ·rw[List.getElem?_set_ne (Ne.symm hi)]
  rw[e2,b_s ho] at hrun
  have hcells:(Value.string ⟨l'.toArray⟩).cells.toList=[Value.string ⟨l'.toArray⟩]:=rfl
  have hsz:(Value.string ⟨l'.toArray⟩).cells.size=1:=rfl
  simp only[Instr.storeAt,Instr.sureAddr,storeVar,Sem.run_bind,Sem.run_pure,Result.andThen_ok,a_q hn,hsz,hcells,ne_eq,not_true,if_false,hrun]
  exact⟨H,ι,hK,Inj.le_refl _,hi⟩
 |_=>exact h.elim
def x_K(e:TypeId)(cs:List AVal)(H:AHeap)(K:AVal->AHeap->Prop):Prop:=K (.ptr H.next 0) (H.new (.row cs e (.n cs.length)))
theorem b_d{e:TypeId}{vs:Array Value}:(newRow e vs).run P w=.ok ⟨w.heap.size,0,none⟩ {w with heap:=w.heap.push (.cells vs e)}:=by
 simp[newRow]
theorem row_den{cs:List AVal}{vs:Array Value}{e:TypeId}(h:DenL ι cs vs.toList):BDen ι (.row cs e (.n cs.length)) (.cells vs e (0,0)):=
 ⟨vs.toList,[],an,h,by show _<=_;simp[h.length]⟩
theorem l_r{e:TypeId}{cs:List AVal}{vs:Array Value}{K:AVal->AHeap->Prop}(h:x_K e cs H K)(hi:Inv w0 F0 ι H w)(hd:DenL ι cs vs.toList):
 Ok w0 F0 ι K ((newRow e vs).run P w |>.andThen fun a w'=>.ok (.pointer (some a)) w'):=by
 rw[b_d]
 obtain⟨ι',hle,hn,hinv⟩:=hi.new (row_den (e:=e) hd)
 exact⟨_,_,ι',h,.ptr hn,hle,hinv⟩
def l_s(P:Program)(e:TypeId)(H:AHeap)(K:AVal->AHeap->Prop):Prop:=
 match c_z P e with
 |some z=>x_K e (AVal.lit z).cells H K
 |none=>False
theorem l_t{e:TypeId}{K:AVal->AHeap->Prop}(h:l_s P e H K)(hi:Inv w0 F0 ι H w):Ok w0 F0 ι K ((Instr.alloc e true (.tuple #[])).run P w):=by
 unfold l_s at h
 split at h
 ·rename_i z hz
  have:=l_r (P:=P) h hi (Den.cells (Den.lit (ι:=ι) (v:=z)) rfl)
  simpa[Instr.alloc,b_g hz,newVar] using this
 ·exact h.elim
def G_C(e:TypeId)(v:AVal)(H:AHeap)(K:AVal->AHeap->Prop):Prop:=gd (nt v) (x_K e v.cells H K)
theorem r_o{e:TypeId}{a:AVal}{v:Value}{K:AVal->AHeap->Prop}(h:G_C e a H K)(hi:Inv w0 F0 ι H w)(hd:Den ι a v):Ok w0 F0 ι K ((Instr.box e v).run P w):=by
 obtain⟨hnt,h⟩:=a_h h
 have:=l_r (P:=P) h hi (hd.cells hnt)
 simpa[Instr.box,newVar] using this
def k_m(place:Nat->Option (Nat×Nat)):List AVal->List (Nat×AVal)->Option (List AVal)
 |cells,[]=>some cells
 |cells,(i,v)::rest=>
  match place i with
  |none=>none
  |some (off,size)=>cond (nt v&&(Nat.beq v.cells.length size&&Nat.ble (off+v.cells.length) cells.length)) (k_m place (splice cells off v.cells) rest) none
inductive PartsDen (ι:Inj):List (Nat×AVal)->List (Nat×Value)->Prop
 |nil:PartsDen ι [] []
 |cons {i:Nat} {a:AVal} {v:Value} {r:List (Nat×AVal)} {s:List (Nat×Value)} (h:Den ι a v) (hs:PartsDen ι r s):PartsDen ι ((i,a)::r) ((i,v)::s)
theorem h_U(off:Nat):∀(vs:List Value) (j:Nat) (cs:Array Value),off+j+vs.length<=cs.size->
 (vs.zipIdx j).foldl (fun cs (c,j)=>cs.setIfInBounds (off+j) c) cs=(a_x cs.toList (off+j) vs).toArray
 |[],j,cs,_=>by simp[a_R]
 |v::vs,j,cs,h=>by
  simp only[List.zipIdx_cons,List.foldl_cons]
  rw[h_U off vs (j+1) _ aQ]
  rw[b_j _ _ _ _ aQ]
  simp[Nat.add_assoc]
theorem g_M(place:Nat->Option (Nat×Nat)):∀{r s} (_:PartsDen ι r s) {cells:List AVal} {cs:Array Value} (_:DenL ι cells cs.toList) {out:List AVal},k_m place cells r=some out->
 ∃vs,Instr.fill place cs s=some vs/\DenL ι out vs.toList
 |_,_,.nil,cells,cs,hd,out,h=>by simp[k_m] at h;subst h;exact⟨cs,rfl,hd⟩
 |_,_,.cons (i:=i) (a:=a) (v:=v) hv hs,cells,cs,hd,out,h=>by
  simp only[k_m] at h
  cases hp:place i with
  |none=>rw[hp] at h;cases h
  |some x=>
   obtain⟨off,size⟩:=x
   rw[hp] at h
   simp only at h
   cases hc:(nt a&&(Nat.beq a.cells.length size&&Nat.ble (off+a.cells.length) cells.length)) with
   |false=>rw[hc] at h;cases h
   |true=>
    rw[hc] at h
    simp only[cond_true] at h
    simp only[Bool.and_eq_true] at hc
    obtain⟨hnt,hc⟩:=hc
    have h1:=Nat.eq_of_beq_eq_true hc.1
    have h2:=a_B hc.2
    have hl:=(hv.cells hnt).length
    have hl':=hd.length
    simp at hl hl'
    have hsp:=hd.splice off (hv.cells hnt)
    obtain⟨vs,hf,hden⟩:=g_M place hs (cs:=(a_x cs.toList off v.cells.toList).toArray) (by simpa using hsp) h
    refine⟨vs,?_,hden⟩
    simp only[Instr.fill,hp]
    have c1:(decide (v.cells.size≠size)||decide (off+v.cells.size>cs.size))=false:=af
    have c2:¬(decide (v.cells.size≠size)||decide (off+v.cells.size>cs.size))=true:=by rw[c1];simp
    rw[if_neg (by simpa using c2)]
    have:=h_U off v.cells.toList 0 cs af
    rw[Nat.add_zero] at this
    rw[←hf,←this]
    congr 1
    rw[←Array.toList_zipIdx,←Array.foldl_toList]
def e_h(P:Program):List Field->Option (List (Nat×Nat))
 |[]=>some []
 |f::r=>match szA P f.type with
  |some n=>match e_h P r with
   |some l=>some ((f.offset,n)::l)
   |none=>none
  |none=>none
theorem f_Y:∀(l:List Field) {out:List (Nat×Nat)},e_h P l=some out->
 (l.mapM (fun f=>do pure (f.offset,←sizeOf f.type):Field->Sem (Nat×Nat))).run P w=.ok out w
 |[],out,h=>by simp[e_h] at h;subst h;rfl
 |f::r,out,h=>by
  simp only[e_h] at h
  cases hs:szA P f.type with
  |none=>rw[hs] at h;cases h
  |some n=>
   rw[hs] at h
   cases hr:e_h P r with
   |none=>rw[hr] at h;cases h
   |some l=>
    rw[hr] at h
    simp at h;subst h
    have:=f_Y r hr
    simp only[List.mapM_cons,Sem.run_bind,a_q hs,Result.andThen_ok,Sem.run_pure,this]
def l_u(P:Program)(t:TypeId)(parts:List (Nat×AVal))(K:AVal->Prop):Prop:=
 match c_z P t,P.underlying t with
 |some z,some (.struct fs)=>match e_h P fs.toList with
  |some pl=>match k_m (fun i=>h_R pl i) (AVal.lit z).cells parts with
   |some cs=>K (.agg cs)
   |none=>False
  |none=>False
 |_,_=>False
theorem l_v{t:TypeId}{parts:List (Nat×AVal)}{ps:Array (Nat×Value)}{K:AVal->AHeap->Prop}(h:l_u P t parts (fun v=>K v H))(hi:Inv w0 F0 ι H w)(hd:PartsDen ι parts ps.toList):Ok w0 F0 ι K ((Instr.build t ps).run P w):=by
 unfold l_u at h
 split at h
 ·rename_i z fs hz hu
  split at h
  ·rename_i pl hpl
   split at h
   ·rename_i cs hcs
    obtain⟨vs,hf,hden⟩:=g_M (ι:=ι) (fun i=>h_R pl i) hd (Den.cells (Den.lit (ι:=ι) (v:=z)) rfl) hcs
    have hf':Instr.fill (fun i=>pl.toArray[i]?) z.cells ps.toList=some vs:=by
     rw[←hf];congr 1;funext i;rw[b_J];simp
    have hpl':=f_Y (w:=w) fs.toList hpl
    have hm:(fs.mapM (fun f=>do pure (f.offset,←sizeOf f.type):Field->Sem (Nat×Nat))).run P w=.ok pl.toArray w:=by
     rw[Array.mapM_eq_mapM_toList]
     simp only[Sem.run_map,hpl',Result.andThen_ok]
    simp only[Instr.build,Sem.run_bind,b_g hz,Result.andThen_ok,a_a hu,hm,hf']
    exact⟨_,_,ι,h,.agg hden,Inj.le_refl _,hi⟩
   ·exact h.elim
  ·exact h.elim
 ·exact h.elim
end
end Go.Sx
namespace Go.Sx
open Go
variable [Syms]
theorem b_Q{t:Nat}(h:Nat.blt t 256=true):o_N t=[UInt8.ofNat t]:=by simp[o_N,h]
theorem g_N{t:Nat}(h:Nat.blt t 256=false):o_N t=Syms.w (t-256):=by simp[o_N,h]
theorem d_w(a b:List Nat):a_3 (a++b)=a_3 a++a_3 b:=by
 induction a with
 |nil=>rfl
 |cons t r ih=>simp[a_3,ih]
def r_p:List UInt8->List Nat
 |[]=>[]
 |b::r=>b.toNat::r_p r
theorem c_Z:∀l,a_3 (r_p l)=l
 |[]=>rfl
 |b::r=>by
  have hb:Nat.blt b.toNat 256=true:=Nat.ble_eq_true_of_le (UInt8.toNat_lt b)
  simp[r_p,a_3,b_Q hb,c_Z r]
def k_n(t:Nat):Nat:=cond (Nat.blt t 256) 1 (Syms.cls (t-256)).lo
def r_q(t:Nat):Nat:=cond (Nat.blt t 256) 1 (Syms.cls (t-256)).hi
def loR:List Nat->Nat
 |[]=>0
 |t::r=>k_n t+loR r
def hiR:List Nat->Nat
 |[]=>0
 |t::r=>r_q t+hiR r
theorem l_w(t:Nat):k_n t<=(o_N t).length/\(o_N t).length<=r_q t:=by
 unfold k_n r_q
 cases h:Nat.blt t 256 with
 |true=>simp[b_Q h]
 |false=>
  rw[g_N h]
  exact⟨(Syms.ok _).lo,(Syms.ok _).hi⟩
theorem k_o:∀r,loR r<=(a_3 r).length/\(a_3 r).length<=hiR r
 |[]=>by simp[loR,a_3]
 |t::r=>by
  have h1:=l_w t
  have h2:=k_o r
  simp only[loR,hiR,a_3,List.length_append]
  omega
def eqN:List Nat->List Nat->Bool
 |[],[]=>true
 |a::x,b::y=>cond (Nat.beq a b) (eqN x y) false
 |_,_=>false
theorem e_v:∀{a b:List Nat},eqN a b=true->a=b
 |[],[],_=>rfl
 |[],_::_,h=>am
 |_::_,[],h=>am
 |a::x,b::y,h=>by
  simp only[eqN] at h
  cases hb:Nat.beq a b with
  |true=>rw[hb,cond_true] at h;rw[Nat.eq_of_beq_eq_true hb,e_v h]
  |false=>rw[hb] at h;cases h
def h_V(t:Nat):Nat:=cond (Nat.blt t 256) (Nat.shiftLeft 1 t) (Syms.cls (t-256)).fst
theorem i_W(t:Nat):c_y (Nat.shiftLeft 1 t) t=true:=by
 have h:Nat.shiftRight (Nat.shiftLeft 1 t) t=1:=by
  show(1 <<< t) >>> t=1
  rw[Nat.shiftLeft_eq,Nat.shiftRight_eq_div_pow,Nat.one_mul,Nat.div_self (Nat.two_pow_pos t)]
 unfold c_y
 rw[h]
 rfl
theorem c_0{t:Nat}(h:Nat.blt t 256=true):(UInt8.ofNat t).toNat=t:=by
 have:t<256:=Nat.le_of_ble_eq_true h
 simp
 omega
theorem l_x{t:Nat}{b:UInt8}(hb:(o_N t).head?=some b):c_y (h_V t) b.toNat=true:=by
 unfold h_V
 cases h:Nat.blt t 256 with
 |true=>
  rw[b_Q h] at hb
  cases hb
  rw[c_0 h]
  exact i_W t
 |false=>
  rw[g_N h] at hb
  exact(Syms.ok _).fst b hb
def j_p:List Nat->Nat->(AVal->Prop)->Prop
 |t::_,0,K=>cond (Nat.blt t 256) (K (.lit (a_v (UInt8.ofNat t)))) (gd (Nat.blt 0 (Syms.cls (t-256)).lo) (K (.ub (Syms.cls (t-256)).fst)))
 |t::r,n+1,K=>gd (Nat.blt t 256) (j_p r n K)
 |[],_,_=>False
theorem h_W{ι:Inj}:∀{r:List Nat} {n:Nat} {K:AVal->Prop},j_p r n K->∃b a,(a_3 r)[n]?=some b/\Den ι a (a_v b)/\K a
 |t::r,0,K,h=>by
  simp only[j_p] at h
  cases ht:Nat.blt t 256 with
  |true=>
   rw[ht,cond_true] at h
   exact⟨_,_,by simp[a_3,b_Q ht],.lit,h⟩
  |false=>
   rw[ht,cond_false] at h
   obtain⟨h0,hK⟩:=a_h h
   have h0:=a_Y h0
   have hl:=(Syms.ok (t-256)).lo
   have hw:=g_N ht
   cases hc:Syms.w (t-256) with
   |nil=>rw[hc] at hl;simp at hl;omega
   |cons b l=>
    refine⟨b,_,by simp[a_3,hw,hc],.ub ?_,hK⟩
    exact(Syms.ok (t-256)).fst b (by rw[hc];rfl)
 |t::r,n+1,K,h=>by
  obtain⟨ht,h⟩:=a_h h
  obtain⟨b,a,h1,h2,h3⟩:=h_W (ι:=ι) h
  exact⟨b,a,by simpa[a_3,b_Q ht] using h1,h2,h3⟩
 |[],_,_,h=>h.elim
def l_y:List Nat->Nat->Option (List Nat)
 |r,0=>some r
 |t::r,n+1=>cond (Nat.blt t 256) (l_y r n) none
 |[],_+1=>none
theorem j_q:∀{r:List Nat} {n:Nat} {r':List Nat},l_y r n=some r'->a_3 r'=(a_3 r).drop n/\n<=(a_3 r).length
 |r,0,r',h=>by simp[l_y] at h;subst h;simp
 |t::r,n+1,r',h=>by
  simp only[l_y] at h
  cases ht:Nat.blt t 256 with
  |true=>
   rw[ht,cond_true] at h
   obtain⟨h1,h2⟩:=j_q h
   simp[a_3,b_Q ht,h1]
   omega
  |false=>rw[ht] at h;cases h
 |[],_+1,_,h=>am
def e_i:List Nat->List Nat->Option (List Nat)
 |[],r=>some r
 |t::p,u::r=>cond (Nat.beq t u) (e_i p r) none
 |_::_,[]=>none
theorem e_j:∀{p r q:List Nat},e_i p r=some q->r=p++q
 |[],r,q,h=>by simp[e_i] at h;simp[h]
 |t::p,u::r,q,h=>by
  simp only[e_i] at h
  cases hb:Nat.beq t u with
  |true=>rw[hb,cond_true] at h;rw[Nat.eq_of_beq_eq_true hb,e_j h];rfl
  |false=>rw[hb] at h;cases h
 |_::_,[],_,h=>am
def h_X:List Nat->List Nat->Bool
 |t::r,u::s=>cond (Nat.blt t 256&&Nat.blt u 256) (cond (Nat.beq t u) (h_X r s) true)
  (cond (Nat.blt t 256) (Nat.blt 0 (k_n u)&& !c_y (h_V u) t) (cond (Nat.blt u 256) (Nat.blt 0 (k_n t)&& !c_y (h_V t) u) false))
 |_,_=>false
theorem j_r{u:Nat}{r:List Nat}(h:Nat.blt 0 (k_n u)=true):∃b,(a_3 (u::r)).head?=some b/\c_y (h_V u) b.toNat=true:=by
 have h0:=a_Y h
 have h1:=(l_w u).1
 cases hc:o_N u with
 |nil=>rw[hc] at h1;simp at h1;omega
 |cons b l=>exact⟨b,by simp[a_3,hc],l_x (by rw[hc];rfl)⟩
theorem h_Y:∀{a b:List Nat},h_X a b=true->a_3 a≠a_3 b
 |[],_,h=>am
 |_::_,[],h=>am
 |t::r,u::s,h=>by
  simp only[h_X] at h
  cases ht:Nat.blt t 256<;>cases hu:Nat.blt u 256<;>simp only[ht,hu,Bool.and_true,Bool.and_false,cond_true,cond_false] at h
  ·cases h
  ·simp only[Bool.and_eq_true,Bool.not_eq_true'] at h
   obtain⟨h1,h2⟩:=h
   obtain⟨b,hb,hm⟩:=j_r (r:=r) h1
   intro e
   rw[e,a_3,b_Q hu] at hb
   cases hb
   rw[c_0 hu,h2] at hm
   cases hm
  ·simp only[Bool.and_eq_true,Bool.not_eq_true'] at h
   obtain⟨h1,h2⟩:=h
   obtain⟨b,hb,hm⟩:=j_r (r:=s) h1
   intro e
   rw[←e,a_3,b_Q ht] at hb
   cases hb
   rw[c_0 ht,h2] at hm
   cases hm
  ·simp only[a_3,b_Q ht,b_Q hu]
   cases hb:Nat.beq t u with
   |true=>
    rw[hb,cond_true] at h
    intro e
    simp only[List.cons_append,List.nil_append,List.cons.injEq] at e
    exact h_Y h e.2
   |false=>
    intro e
    simp only[List.cons_append,List.nil_append,List.cons.injEq] at e
    have h3:=congrArg UInt8.toNat e.1
    rw[c_0 ht,c_0 hu] at h3
    subst h3
    rw[Nat.beq_refl] at hb
    cases hb
def eqR(a b:List Nat):Option Bool:=
 cond (eqN a b) (some true) (cond (Nat.blt (hiR a) (loR b)||(Nat.blt (hiR b) (loR a)||h_X a b)) (some false) none)
theorem h_Z{a b:List Nat}{r:Bool}(h:eqR a b=some r):(a_3 a==a_3 b)=r:=by
 unfold eqR at h
 cases he:eqN a b with
 |true=>
  rw[he,cond_true] at h
  cases h
  rw[e_v he]
  simp
 |false=>
  rw[he,cond_false] at h
  cases hc:(Nat.blt (hiR a) (loR b)||(Nat.blt (hiR b) (loR a)||h_X a b)) with
  |false=>rw[hc] at h;cases h
  |true=>
   rw[hc,cond_true] at h
   cases h
   simp only[Bool.or_eq_true] at hc
   have h1:=k_o a
   have h2:=k_o b
   have hne:a_3 a≠a_3 b:=by
    rcases hc with h3|h3|h3
    ·have h3:=a_Y h3
     intro e;rw[e] at h1;omega
    ·have h3:=a_Y h3
     intro e;rw[e] at h1;omega
    ·exact h_Y h3
   simp[hne]
def j_s(op:BinOp)(r:List Nat)(n:Int):Option Bool:=
 match op with
 | .lss=>cond (decide ((hiR r:Int)<n)) (some true) (cond (decide (n<=(loR r:Int))) (some false) none)
 | .leq=>cond (decide ((hiR r:Int)<=n)) (some true) (cond (decide (n<(loR r:Int))) (some false) none)
 | .gtr=>cond (decide (n<(loR r:Int))) (some true) (cond (decide ((hiR r:Int)<=n)) (some false) none)
 | .geq=>cond (decide (n<=(loR r:Int))) (some true) (cond (decide ((hiR r:Int)<n)) (some false) none)
 | .eql=>cond (decide (n<(loR r:Int))||decide ((hiR r:Int)<n)) (some false) none
 | .neq=>cond (decide (n<(loR r:Int))||decide ((hiR r:Int)<n)) (some true) none
 |_=>none
theorem l_z{P:Program}{w:World}{op:BinOp}{r:List Nat}{n:Int}{b:Bool}(h:j_s op r n=some b):(Op.intCmp op (a_3 r).length n).run P w=.ok (.bool b) w:=by
 have h1:=k_o r
 have two:∀{p q:Prop} [Decidable p] [Decidable q] {x y:Bool},cond (decide p) (some x) (cond (decide q) (some y) none)=some b->(p/\x=b)\/(q/\y=b):=by
  intro p q _ _ x y hh
  by_cases hp:p
  ·simp[hp] at hh;exact .inl ⟨hp,hh⟩
  ·by_cases hq:q
   ·simp[hp,hq] at hh;exact .inr ⟨hq,hh⟩
   ·simp[hp,hq] at hh
 have one:∀{p q:Prop} [Decidable p] [Decidable q] {x:Bool},cond (decide p||decide q) (some x) none=some b->(p\/q)/\x=b:=by
  intro p q _ _ x hh
  by_cases hp:p\/q
  ·have:(decide p||decide q)=true:=by simpa using hp
   rw[this] at hh;cases hh;exact⟨hp,rfl⟩
  ·have:(decide p||decide q)=false:=by simpa using hp
   rw[this] at hh;cases hh
 cases op<;>simp only[j_s] at h<;>try(cases h;done)
 ·obtain⟨h2,rfl⟩:=one h
  have hp:((((a_3 r).length:Int))==n)=false:=by rw[beq_eq_false_iff_ne];omega
  simp only[Op.intCmp,hp,Sem.run_pure]
 ·obtain⟨h2,rfl⟩:=one h
  have hp:((((a_3 r).length:Int))!=n)=true:=by rw[bne_iff_ne];omega
  simp only[Op.intCmp,hp,Sem.run_pure]
 all_goals
  rcases two h with⟨h2,rfl⟩|⟨h2,rfl⟩
  ·simp only[Op.intCmp,Sem.run_pure,gt_iff_lt,ge_iff_le]
   congr 2
   simp only[decide_eq_true_eq]
   omega
  ·simp only[Op.intCmp,Sem.run_pure,gt_iff_lt,ge_iff_le]
   congr 2
   simp only[decide_eq_false_iff_not]
   omega
end Go.Sx

