/- Lemmas of this claim; the last text says what is proved. -/
import Derived.Test.YtblencgndjjleaaGreatDoorK05
set_option linter.all false
namespace Go.Sx
open Go
variable [Syms]
section
variable {P:Program} {w0 w:World} {F0:Fp} {ι:Inj} {H:AHeap}
def c_s(P:Program)(t:TypeId):Bool:=match P.underlying t with|some (.int _)=>false|some _=>true|none=>false
theorem c_F{t:TypeId}(h:c_s P t=true):∃d,P.underlying t=some d/\∀k,d≠ .int k:=by
 unfold c_s at h
 split at h
 ·cases h
 ·rename_i d hd hu;exact⟨d,hu,fun k e=>hd k e⟩
 ·cases h
structure News (P:Program) (w:World) (sz n:Nat) (xv:Value) (news:Array Value):Prop where
 len:(Builtin.lenOf xv).run P w=.ok n w
 cells:(Builtin.firstCells sz n xv).run P w=.ok news w
 size:news.size=n*sz
theorem e_4{t u e:TypeId}{xt:TypeId}{sz n:Nat}{xv:Value}{news:Array Value}(hu:P.underlying t=some (.slice e))(hs:(P.info? e).map (·.size)=some sz)(hx:c_s P xt=true)
 (hn:News P w sz n xv news) {r off len cap:Nat} (hroom:len+n<=cap):
 (Builtin.append_ #[t,xt] u #[.slice (some ⟨r,off,none⟩) len cap,xv]).run P w=((storeCells ⟨r,off+len*sz,none⟩ news.toList).run P w).andThen fun _ w'=>.ok (.slice (some ⟨r,off,none⟩) (len+n) cap) w':=by
 obtain⟨d,hd,hnd⟩:=c_F hx
 have e0:(#[t,xt]:Array TypeId)[0]?=some t:=rfl
 have e1:(#[t,xt]:Array TypeId)[1]?=some xt:=rfl
 have e2:(#[Value.slice (some ⟨r,off,none⟩) len cap,xv]:Array Value)[0]?=some (.slice (some ⟨r,off,none⟩) len cap):=rfl
 have e3:(#[Value.slice (some ⟨r,off,none⟩) len cap,xv]:Array Value)[1]?=some xv:=rfl
 simp only[Builtin.append_,e0,e1,e2,e3,Sem.run_bind,a_a hu,Result.andThen_ok,a_q hs,a_a hd]
 cases d<;>first
  |exact(hnd _ rfl).elim
  |(simp only[Sem.run_pure,Result.andThen_ok,Bool.false_eq_true,if_false,hn.len,hroom,if_true,Sem.run_bind,Bool.not_false,hn.cells,b_h])
theorem b_M{t u e:TypeId}{xt:TypeId}{sz n b:Nat}{z:Value}{xv:Value}{news olds:Array Value}(hu:P.underlying t=some (.slice e))(hs:(P.info? e).map (·.size)=some sz)(hb:c_Y P e=some b)(hz:c_z P e=some z)(hx:c_s P xt=true)
 {base:Option Addr} {len cap:Nat} (hn:∀w':World,w'.heap=w.heap->News P w' sz n xv news) (ho:∀w':World,w'.heap=w.heap->(Builtin.firstCells sz len (.slice base len cap)).run P w'=.ok olds w') (hroom:cap<len+n) (hbd:(len+n)*b<=140737488355328) (hbd':len+n<=140737488355328):
 ∃c,len+n<=c/\c<9223372036854775808/\(Builtin.append_ #[t,xt] u #[.slice base len cap,xv]).run P w=.ok (.slice (some ⟨w.heap.size,0,none⟩) (len+n) c) {w with heap:=w.heap.push (.cells (olds++news++Builtin.zeroCells z.cells (c-(len+n))) e),drawn:=w.drawn+1}:=by
 obtain⟨d,hd,hnd⟩:=c_F hx
 have e0:(#[t,xt]:Array TypeId)[0]?=some t:=rfl
 have e1:(#[t,xt]:Array TypeId)[1]?=some xt:=rfl
 have e2:(#[Value.slice base len cap,xv]:Array Value)[0]?=some (.slice base len cap):=rfl
 have e3:(#[Value.slice base len cap,xv]:Array Value)[1]?=some xv:=rfl
 have hinfo:∃i,P.info? e=some i/\i.bytes=b:=by
  unfold c_Y at hb
  cases hi':P.info? e with
  |none=>rw[hi'] at hb;cases hb
  |some i=>rw[hi'] at hb;simp at hb;exact⟨i,rfl,hb⟩
 obtain⟨inf,hinf,hbytes⟩:=hinfo
 have h1:=hn w rfl
 have hm:IntKind.i64.max=9223372036854775807:=ar
 have hfit:=growslice_fits hroom hbd
 refine⟨(Question.appendCap (len+n) cap e).cut (w.tape w.drawn (.appendCap (len+n) cap e)),by simp[Question.cut],by
  simp only[Question.cut]
  have:=Nat.mod_lt (w.tape w.drawn (.appendCap (len+n) cap e)) (show 0<2 ^ 63-(len+n) by omega)
  omega,?_⟩
 have h2:=hn {w with drawn:=w.drawn+1} rfl
 have h3:=ho {w with drawn:=w.drawn+1} rfl
 simp only[Builtin.append_,e0,e1,e2,e3,Sem.run_bind,a_a hu,Result.andThen_ok,a_q hs,a_a hd]
 cases d<;>first
  |exact(hnd _ rfl).elim
  |(simp only[Sem.run_pure,Result.andThen_ok,Bool.false_eq_true,if_false,h1.len,Nat.not_le.2 hroom,Sem.run_bind,a_u hinf,hbytes,hm,Bool.not_false,if_true]
    rw[if_neg ac]
    simp only[Sem.run_bind,a_u hinf,Result.andThen_ok,hbytes]
    rw[if_neg (by have:(2:Nat) ^ 48=281474976710656:=by decide
                  omega)]
    simp only[Sem.run_bind,run_choose,Question.forced,Bool.false_eq_true,if_false,Result.andThen_ok,run_askRoom,a_u hinf,h3,h2.cells,b_g hz,b_d,Sem.run_pure])
def h_6(x:AVal)(H:AHeap)(K:List UInt8->Prop):Prop:=
 match x with
 | .str l=>K l
 | .slc id off n _=>match H.get id with
   |some (.bytes l _ _)=>gd (Nat.ble (off+n) l.length) (K ((l.drop off).take n))
   |_=>False
 | .lit (.slice none 0 0)=>K []
 | .by_ l=>K l
 | .e0=>K []
 |_=>False
theorem e_E(l:List UInt8)(sz:Nat):(Builtin.firstCells sz l.length (.string ⟨l.toArray⟩)).run P w=.ok (l.map a_v).toArray w:=by
 have:((⟨l.toArray⟩:ByteArray).extract 0 l.length).data=l.toArray:=by
  rw[b_t]
  simp
 simp only[Builtin.firstCells,Sem.run_pure,this]
 congr 1
 simp[a_v]
theorem j_y{x:AVal}{xv:Value}{K:List UInt8->Prop}(h:h_6 x H K)(hi:Inv w0 F0 ι H w)(hx:Den ι x xv):∃l,K l/\∀w':World,w'.heap=w.heap->News P w' 1 l.length xv (l.map a_v).toArray:=by
 unfold h_6 at h
 split at h
 ·rename_i l
  cases hx
  exact⟨l,h,fun w' _=>⟨by simp[Builtin.lenOf,ByteArray.size],e_E l 1,an⟩⟩
 ·rename_i id off n cap
  split at h
  ·rename_i l e tot hg
   obtain⟨hc,hK⟩:=a_h h
   have hle:=a_B hc
   obtain⟨r,o,hr,ho,hb,_⟩:=hi.blk _ _ hg
   cases hx with
   |slc hr' hl hoff hcap=>
   rename_i off' r' c'
   rw[hr] at hr';cases hr'
   have hlen:((l.drop off).take n).length=n:=af
   refine⟨_,hK,fun w' hw'=>⟨by simp[Builtin.lenOf,hlen],?_,an⟩⟩
   rw[hlen]
   simp only[Builtin.firstCells,Nat.mul_one]
   have ho':w'.heap[r]?=some o:=aR
   rcases hoff with rfl|h0
   ·exact a_0 (ι:=ι) (b:=.bytes l e tot) hb hle ho'
   ·have:n=0:=ac
    subst this
    simp[loadCells,loadCellsFrom]
  ·exact h.elim
 ·cases hx
  exact⟨[],h,fun w' _=>⟨aq,aL,an⟩⟩
 ·rename_i l
  cases hx with
  |by0=>
   rename_i a c
   refine⟨[],h,fun w' _=>⟨aq,?_,an⟩⟩
   cases a with
   |none=>simp[Builtin.firstCells]
   |some a=>simp[Builtin.firstCells,loadCells,loadCellsFrom]
  |@by_ _ r c off pre rest e fz hm hl hoff=>
  have ho:=(hi.fz.frz _ _ hm).1
  subst hoff
  refine⟨l,h,fun w' hw'=>⟨aq,?_,an⟩⟩
  simp only[Builtin.firstCells,Nat.mul_one]
  rw[a_T (w:=w') aR pre.length l.length an]
  congr 2
  rw[List.drop_left,List.take_append_of_le_length an]
  rw[List.take_of_length_le an]
 ·cases hx with
  |@e0 a c=>
  refine⟨[],h,fun w' _=>⟨aq,?_,an⟩⟩
  cases a with
  |none=>simp[Builtin.firstCells]
  |some a=>simp[Builtin.firstCells,loadCells,loadCellsFrom]
 ·exact h.elim
def h_7{α:Type}:List α->Bool
 |[]=>true
 |_=>false
def t_C:ACap->Nat->Bool
 | .n c,n=>Nat.blt c n
 |_,_=>false
theorem o_X{cap:ACap}{n c:Nat}(h:t_C cap n=true){ι:Inj}(hc:cap.den ι c):c<n:=by
 cases cap with
 |n k=>have hc:c=k:=hc;rw[hc];exact a_Y h
 |_=>cases h
def j_z(P:Program)(e:TypeId)(s x:AVal)(H:AHeap)(K:AVal->AHeap->Prop):Prop:=
 gd (l_V ((c_z P e).getD .nilFunc)&&(Nat.beq ((szA P e).getD 0) 1&&Nat.beq ((c_Y P e).getD 0) 1))
 (match s with
 | .lit (.slice none 0 0)=>h_6 x H fun l=>br (h_7 l) (K s H)
  (gd (Nat.ble l.length 140737488355328) (K (.slc (Nat.succ H.next) 0 l.length (.u H.next 0)) (H.nm.new (.bytes l e (.u H.next 1)))))
 | .slc id 0 len cap=>match H.get id with
   |some (.bytes old e' tot)=>h_6 x H fun l=>br (t_C cap (len+l.length)) (gd (Nat.beq e' e&&(Nat.ble len old.length&&Nat.ble (len+l.length) 140737488355328))
    (K (.slc (Nat.succ H.next) 0 (len+l.length) (.u H.next 0)) (H.nm.new (.bytes (old.take len++l) e (.u H.next 1)))))<|gd (Nat.beq e' e&&(Nat.ble len old.length&&(b_H 1 cap tot&&(Nat.ble (len+l.length) 140737488355328&& !H.isRo id))))
    (K (.slc (Nat.succ H.next) 0 (len+l.length) (.u H.next 0)) ((H.nm.del id).new (.bytes (old.take len++l) e (.u H.next 1))))
   |_=>False
 |_=>False)
theorem b_e:∀(c:List Value) (n:Nat) (v:List Value),n+v.length<=c.length->a_x c n v=c.take n++v++c.drop (n+v.length)
 |c,0,[],_=>by simp[a_R]
 |[],0,_::_,h=>bm
 |c::cs,0,v::vs,h=>by
  have:=b_e cs 0 vs aQ
  simp only[a_x,this]
  simp
 |[],n+1,v,h=>bm
 |c::cs,n+1,v,h=>by
  have:=b_e cs n v aQ
  simp only[a_x,this]
  have e:n+1+v.length=(n+v.length)+1:=ac
  rw[e]
  simp
theorem c_O(z:Array Value)(n:Nat):(Builtin.zeroCells z n).size=n*z.size:=by simp[Builtin.zeroCells]
theorem b_R{α:Type}{o:Option α}{d x:α}(h:o.getD d=x)(hne:d≠x):o=some x:=by
 cases o with
 |none=>exact(hne h).elim
 |some y=>simp at h;rw[h]
theorem k_r{t u xt e:TypeId}{s x:AVal}{sv xv:Value}{K:AVal->AHeap->Prop}(h:j_z P e s x H K)(hu:P.underlying t=some (.slice e))(hxt:c_s P xt=true)(hi:Inv w0 F0 ι H w)(hs:Den ι s sv)(hx:Den ι x xv):
 Ok w0 F0 ι K ((Builtin.append_ #[t,xt] u #[sv,xv]).run P w):=by
 obtain⟨hc,h⟩:=a_h h
 simp only[Bool.and_eq_true] at hc
 obtain⟨hz,hsz,hby⟩:=hc
 have hsz:=b_R (Nat.eq_of_beq_eq_true hsz) ac
 have hby:=b_R (Nat.eq_of_beq_eq_true hby) ac
 have hz:c_z P e=some (a_v 0):=b_R (g_X hz) (by simp[a_v])
 have hzc:∀n,(Builtin.zeroCells (a_v 0).cells n).toList.length=n:=fun n=>ba
 split at h
 ·cases hs
  obtain⟨l,hK,hn⟩:=j_y (P:=P) h hi hx
  rcases a_4 hK with⟨hnil,hK⟩|⟨hnil,hK⟩
  ·have:l=[]:=by cases l with|nil=>rfl|cons _ _=>cases hnil
   subst this
   have hrun:(Builtin.append_ #[t,xt] u #[.slice none 0 0,xv]).run P w=.ok (.slice none 0 0) w:=by
    obtain⟨d,hd,hnd⟩:=c_F hxt
    have e0:(#[t,xt]:Array TypeId)[0]?=some t:=rfl
    have e1:(#[t,xt]:Array TypeId)[1]?=some xt:=rfl
    have e2:(#[Value.slice none 0 0,xv]:Array Value)[0]?=some (.slice none 0 0):=rfl
    have e3:(#[Value.slice none 0 0,xv]:Array Value)[1]?=some xv:=rfl
    have h1:=hn w rfl
    have hl:=h1.len
    have hcl:=h1.cells
    simp only[List.length_nil] at hl hcl
    simp only[Builtin.append_,e0,e1,e2,e3,Sem.run_bind,a_a hu,Result.andThen_ok,a_q hsz,a_a hd]
    cases d<;>first
     |exact(hnd _ rfl).elim
     |(simp only[Sem.run_pure,Result.andThen_ok,Bool.false_eq_true,if_false,hl,Nat.add_zero,Nat.le_refl,if_true,Bool.not_false,Sem.run_bind,hcl])
   rw[hrun]
   exact⟨_,_,ι,hK,.lit,Inj.le_refl _,hi⟩
  ·obtain⟨hb,hK⟩:=a_h hK
   have hb:=a_B hb
   have hpos:0<l.length:=by cases l with|nil=>cases hnil|cons _ _=>simp
   obtain⟨c,hcge,hc63,hrun⟩:=b_M (P:=P) (w:=w) (u:=u) (base:=none) (len:=0) (cap:=0) (olds:=#[]) hu hsz hby hz hxt hn (fun w' _=>aL) ac ac ac
   rw[hrun]
   rw[Nat.zero_add] at hcge
   obtain⟨ι1,hle1,hn1,hd0⟩:=(hi.drew (w.drawn+1)).name c
   obtain⟨ι',hle,hnn,hinv⟩:=hd0.new (b:=.bytes l e (.u H.next 1)) (o:=.cells (#[]++(l.map a_v).toArray++Builtin.zeroCells (a_v 0).cells (c-(0+l.length))) e (0,0))
    ⟨(Builtin.zeroCells (a_v 0).cells (c-(0+l.length))).toList,(0,0),aF,⟨c,hn1,by rw[hzc];omega⟩,fun k _ hh=>aP⟩
   refine⟨_,_,ι',hK,?_,Inj.le_trans hle1 hle,hinv⟩
   rw[Nat.zero_add]
   exact .slc hnn hcge (.inl rfl) ⟨c,hle _ _ hn1,hc63,rfl⟩
 ·rename_i id len cap _
  split at h
  ·rename_i old e' tot hg
   obtain⟨r,o,hr,ho,hbd,hf⟩:=hi.blk _ _ hg
   cases hs with
   |slc hr' hl hoff hcapd=>
   rename_i off' r' cap'
   rw[hr] at hr';cases hr'
   obtain⟨l,hK,hn⟩:=j_y (P:=P) h hi hx
   rcases a_4 hK with⟨hfull,hK⟩|⟨_,hK⟩
   ·obtain⟨hc,hK⟩:=a_h hK
    simp only[Bool.and_eq_true] at hc
    have h0:=Nat.eq_of_beq_eq_true hc.1
    subst h0
    have h1:=a_B hc.2.1
    have h3:=a_B hc.2.2
    have hroom:=o_X hfull hcapd
    obtain⟨c,hcge,hc63,hrun⟩:=b_M (P:=P) (w:=w) (u:=u) (base:=some ⟨r,off',none⟩) (len:=len) (cap:=cap') (olds:=((old.take len).map a_v).toArray) hu hsz hby hz hxt hn (fun w' hw'=>by
     simp only[Builtin.firstCells,Nat.mul_one]
     have ho':w'.heap[r]?=some o:=aR
     rcases hoff with rfl|h0
     ·have:=a_0 (P:=P) (b:=.bytes old e' tot) (off:=0) (len:=len) hbd ac ho'
      simpa using this
     ·have:len=0:=ac
      subst this
      simp[loadCells,loadCellsFrom]) ac ac ac
    rw[hrun]
    obtain⟨ι1,hle1,hn1,hd0⟩:=(hi.drew (w.drawn+1)).name c
    obtain⟨ι',hle,hnn,hinv⟩:=hd0.new (b:=.bytes (old.take len++l) e' (.u H.next 1)) (o:=.cells (((old.take len).map a_v).toArray++(l.map a_v).toArray++Builtin.zeroCells (a_v 0).cells (c-(len+l.length))) e' (0,0))
     ⟨(Builtin.zeroCells (a_v 0).cells (c-(len+l.length))).toList,(0,0),aF,⟨c,hn1,by rw[hzc];simp;omega⟩,fun k _ hh=>aP⟩
    exact⟨_,_,ι',hK,.slc hnn hcge (.inl rfl) ⟨c,hle _ _ hn1,hc63,rfl⟩,Inj.le_trans hle1 hle,hinv⟩
   obtain⟨hc,hK⟩:=a_h hK
   simp only[Bool.and_eq_true] at hc
   have h0:=Nat.eq_of_beq_eq_true hc.1
   subst h0
   have h1:=a_B hc.2.1
   have h2:=hc.2.2.1
   have h3:=a_B hc.2.2.2.1
   have hro:H.isRo id=false:=by simpa using hc.2.2.2.2
   by_cases hroom:len+l.length<=cap'
   ·obtain⟨rest,fz,rfl,ht,hfz⟩:=hbd
    have hrun:=e_4 (P:=P) (u:=u) hu hsz hxt (hn w rfl) (r:=r) (off:=off') (len:=len) (cap:=cap') hroom
    have hc63:=b_I h2 hcapd
    have h2:=b_u h2 hcapd ht
    rw[Nat.mul_one] at h2
    have hlen:cap'<=(old.map a_v++rest).length:=af
    have hlen2:(old.map a_v++rest).length=old.length+rest.length:=an
    have hst:((storeCells ⟨r,off'+len*1,none⟩ ((l.map a_v).toArray).toList).run P w)=.ok () (a_H w r (.cells (a_x (old.map a_v++rest) len (l.map a_v)).toArray e' fz)):=by
     rcases hoff with rfl|hcap
     ·have:=a_D (P:=P) (r:=r) (off:=len) (e:=e') (fz:=fz) (l.map a_v) 0 w (old.map a_v++rest) ho (by rw[List.length_map];omega) (fun k hk1 hk2=>hfz k (by simp at hk2;omega)) (by intro v hv;simp at hv;obtain⟨b,_,rfl⟩:=hv;rfl)
      simpa using this
     ·have hl0:l=[]:=by cases l with|nil=>rfl|cons _ _=>simp at hroom;omega
      subst hl0
      simp only[List.map_nil,storeCells,Sem.run_pure,a_R]
      rw[b_s ho]
    rw[hst] at hrun
    simp only[Result.andThen_ok] at hrun
    rw[hrun]
    obtain⟨ι1,hle1,hn1,hi1⟩:=hi.name cap'
    obtain⟨ι',hle,hnn,hinv⟩:=hi1.rebind (id:=id) hg (hle1 _ _ hr) hro (b':=.bytes (old.take len++l) e' (.u H.next 1)) (o':=.cells (a_x (old.map a_v++rest) len (l.map a_v)).toArray e' fz) (w':=a_H w r (.cells (a_x (old.map a_v++rest) len (l.map a_v)).toArray e' fz)) (fun ι' hle'=>
     ⟨(old.map a_v++rest).drop (len+l.length),fz,by
       rw[b_e _ _ _ (by rw[List.length_map];omega),List.take_append_of_le_length (by simpa using h1)]
       simp[List.map_take],⟨cap',hle' _ _ hn1,af⟩,fun k hk=>hfz k (by simp at hk;omega)⟩) (a_M ho) (fun k hk=>a_A hk) a_I rfl rfl rfl
    refine⟨_,_,ι',hK,.slc hnn hroom ?_ ⟨cap',hle _ _ hn1,hc63,rfl⟩,Inj.le_trans hle1 hle,hinv⟩
    rcases hoff with ho'|ho'
    ·exact .inl ho'
    ·exact .inr ho'
   ·obtain⟨c,hcge,hc63,hrun⟩:=b_M (P:=P) (w:=w) (u:=u) (base:=some ⟨r,off',none⟩) (len:=len) (cap:=cap') (olds:=((old.take len).map a_v).toArray) hu hsz hby hz hxt hn (fun w' hw'=>by
     simp only[Builtin.firstCells,Nat.mul_one]
     have ho':w'.heap[r]?=some o:=aR
     rcases hoff with rfl|h0
     ·have:=a_0 (P:=P) (b:=.bytes old e' tot) (off:=0) (len:=len) hbd ac ho'
      simpa using this
     ·have:len=0:=ac
      subst this
      simp[loadCells,loadCellsFrom]) ac ac ac
    rw[hrun]
    obtain⟨ι1,hle1,hn1,hd1⟩:=(hi.drew (w.drawn+1)).name c
    have hd0:=hd1.del id
    obtain⟨ι',hle,hnn,hinv⟩:=hd0.new (b:=.bytes (old.take len++l) e' (.u H.next 1)) (o:=.cells (((old.take len).map a_v).toArray++(l.map a_v).toArray++Builtin.zeroCells (a_v 0).cells (c-(len+l.length))) e' (0,0))
     ⟨(Builtin.zeroCells (a_v 0).cells (c-(len+l.length))).toList,(0,0),aF,⟨c,hn1,by rw[hzc];simp;omega⟩,fun k _ hh=>aP⟩
    exact⟨_,_,ι',hK,.slc hnn hcge (.inl rfl) ⟨c,hle _ _ hn1,hc63,rfl⟩,Inj.le_trans hle1 hle,hinv⟩
  ·exact h.elim
 ·exact h.elim
def e_5(sz:Nat)(x:AVal)(H:AHeap)(K:Nat->List AVal->Prop):Prop:=
 match x with
 | .slc id off n _=>match H.get id with
   |some (.row cs _ _)=>gd (Nat.ble (off+n*sz) cs.length) (K n ((cs.drop off).take (n*sz)))
   |_=>False
 | .lit (.slice none 0 0)=>K 0 []
 | .ssl x off n=>match H.st x with
   |some (.row cs _ _)=>gd (Nat.ble (off+n*sz) cs.length) (K n ((cs.drop off).take (n*sz)))
   |_=>False
 | .e0=>K 0 []
 |_=>False
theorem b_4{cs:List AVal}{e:TypeId}{tot:ATot}{o:Obj}{off len r:Nat}(hb:BDen ι (.row cs e tot) o)(hle:off+len<=cs.length)(hw:w.heap[r]?=some o):
 ∃vs,DenL ι ((cs.drop off).take len) vs/\vs.length=len/\∀w':World,w'.heap=w.heap->(loadCells ⟨r,off,none⟩ len).run P w'=.ok vs.toArray w':=by
 obtain⟨c,rest,rfl,hd,_⟩:=hb
 have hl:=hd.length
 refine⟨(c.drop off).take len,(hd.drop off).take len,af,fun w' hw'=>?_⟩
 rw[a_T (w:=w') (c:=(c++rest).toArray) (e:=e) (fz:=(0,0)) (by rw[hw'];exact hw) off len af]
 congr 2
 simp only[List.drop_append]
 rw[List.take_append_of_le_length af]
theorem d_e{sz:Nat}{x:AVal}{xv:Value}{K:Nat->List AVal->Prop}(h:e_5 sz x H K)(hi:Inv w0 F0 ι H w)(hx:Den ι x xv):∃n l vs,K n l/\DenL ι l vs/\vs.length=n*sz/\∀w':World,w'.heap=w.heap->News P w' sz n xv vs.toArray:=by
 unfold e_5 at h
 split at h
 ·rename_i id off n cap
  split at h
  ·rename_i cs e tot hg
   obtain⟨hc,hK⟩:=a_h h
   have hle:=a_B hc
   obtain⟨r,o,hr,ho,hb,_⟩:=hi.blk _ _ hg
   cases hx with
   |slc hr' hl hoff hcap=>
   rename_i off' r' c'
   rw[hr] at hr';cases hr'
   obtain⟨vs,hd,hvl,hrun⟩:=b_4 (P:=P) hb hle ho
   refine⟨n,_,vs,hK,hd,hvl,fun w' hw'=>⟨aq,?_,aX⟩⟩
   simp only[Builtin.firstCells]
   rcases hoff with rfl|h0
   ·exact hrun w' hw'
   ·have:n=0:=ac
    subst this
    have:vs=[]:=aX
    subst this
    simp[loadCells,loadCellsFrom]
  ·exact h.elim
 ·cases hx
  exact⟨0,[],[],h,.nil,an,fun w' _=>⟨aq,aL,an⟩⟩
 ·rename_i x off n
  split at h
  ·rename_i cs e tot hg
   obtain⟨hc,hK⟩:=a_h h
   have hle:=a_B hc
   cases hx with
   |ssl had hl=>
   obtain⟨o,_,ho,hb⟩:=hi.stat hg had
   obtain⟨vs,hd,hvl,hrun⟩:=b_4 (P:=P) hb hle ho
   refine⟨n,_,vs,hK,hd,hvl,fun w' hw'=>⟨aq,?_,aX⟩⟩
   simp only[Builtin.firstCells]
   exact hrun w' hw'
  ·exact h.elim
 ·cases hx with
  |@e0 a c=>
  refine⟨0,[],[],h,.nil,an,fun w' _=>⟨aq,?_,an⟩⟩
  cases a with
  |none=>simp[Builtin.firstCells]
  |some a=>simp[Builtin.firstCells,loadCells,loadCellsFrom]
 ·exact h.elim
def l_W:Nat->Bool
 |0=>true
 |_=>false
def o_Y:ACap->Nat->Bool
 | .n c,k=>Nat.ble k c
 |_,_=>false
theorem g_Z{cap:ACap}{k c:Nat}(h:o_Y cap k=true)(hc:cap.den ι c):k<=c:=by
 cases cap with
 |n m=>have hc:c=m:=hc;rw[hc];exact a_B h
 |_=>cases h
def g_0(P:Program)(e:TypeId)(s:AVal)(g:Nat->AVal)(m:Nat)(H:AHeap)(K:AVal->AHeap->Prop):Prop:=
 match szA P e,c_Y P e,c_z P e with
 |some 1,some b,some z=>match s with
  | .slc id 0 len cap=>gd (Nat.beq z.cells.size 1&&(Nat.ble ((len+m)*b) 140737488355328&&(Nat.ble (len+m) 140737488355328&& !H.isRo id))) ((∀k,k<m->i_T (g k)=true)/\match H.get id with
    |some (.row [] e' tot)=>gd (Nat.beq e' e&&(Nat.beq len 0&&b_H 1 cap tot))
     (K (.slc (Nat.succ H.next) 0 (len+m) (.u H.next 0)) ((H.nm.del id).new (.fam g m [] [] e (.u H.next 1))))
    |some (.fam f k us [] e' tot)=>br (o_Y cap (len+m)&&Nat.ble (len+m) k) (gd (Nat.beq e' e&&b_H 1 cap tot) (K (.slc id 0 (len+m) cap) (H.set id (.fam (fun i=>.ite (Nat.blt i len) (c_q f us i) (.ite (Nat.blt i (len+m)) (g (i-len)) (c_q f us i))) k [] [] e tot))))
     (gd (h_7 us&&(Nat.beq e' e&&(Nat.beq len k&&b_H 1 cap tot))) (K (.slc (Nat.succ H.next) 0 (len+m) (.u H.next 0)) ((H.nm.del id).new (.fam (fun i=>.ite (Nat.blt i k) (f i) (g (i-k))) (len+m) [] [] e (.u H.next 1)))))
    |some (.fam f k [] ys e' tot)=>gd (Nat.beq e' e&&(Nat.beq len (k+ys.length)&&b_H 1 cap tot)) (match ys with
     |[v]=>K (.slc (Nat.succ H.next) 0 (len+m) (.u H.next 0)) ((H.nm.del id).new (.fam (fun i=>.ite (Nat.blt i k) (f i) (g (i-Nat.succ k))) (len+m) [(k,v)] [] e (.u H.next 1)))
     |_=>False)
    |_=>False)
  |_=>False
 |_,_,_=>False
def j_A(x:AVal)(H:AHeap):Option ((Nat->AVal)×Nat×Bool):=match x with
 | .fam g m=>some (g,m,true)
 | .slc j off m _=>match H.get j with
   |some (.fam g k us _ _ _)=>some (fun i=>c_q g us (off+i),m,Nat.ble (off+m) k)
   |_=>none
 |_=>none
def g_1(P:Program)(e:TypeId)(s x:AVal)(H:AHeap)(K:AVal->AHeap->Prop):Prop:=
 match j_A x H with
 |some (g,m,c)=>gd c (g_0 P e s g m H K)
 |none=>match szA P e,c_Y P e,c_z P e with
 |some (sz+1),some b,some z=>gd (Nat.beq z.cells.size (sz+1))
  (match s with
  | .lit (.slice none 0 0)=>e_5 (sz+1) x H fun n l=>br (l_W n) (K s H)
   (gd (Nat.ble (n*b) 140737488355328&&Nat.ble n 140737488355328) (K (.slc (Nat.succ H.next) 0 n (.u H.next 0)) (H.nm.new (.row l e (.u H.next (sz+1))))))
  | .e0=>e_5 (sz+1) x H fun n _=>gd (l_W n) (K .e0 H)
  | .famx f m=>e_5 (sz+1) x H fun n l=>gd (Nat.beq sz 0&&(!l_W n&&(Nat.ble ((m+n)*b) 140737488355328&&Nat.ble (m+n) 140737488355328)))
   (K (.slc (Nat.succ H.next) 0 (m+n) (.u H.next 0)) (H.nm.new (.fam f m [] l e (.u H.next 1))))
  | .slc id 0 len cap=>match H.get id with
    |some (.row old e' tot)=>e_5 (sz+1) x H fun n l=>gd (Nat.beq e' e&&(Nat.ble (len*(sz+1)) old.length&&(b_H (sz+1) cap tot&&(Nat.ble ((len+n)*b) 140737488355328&&(Nat.ble (len+n) 140737488355328&&(l.all i_T&& !H.isRo id))))))
     (br (o_Y cap (len+n)) (K (.slc id 0 (len+n) cap) (H.set id (.row (old.take (len*(sz+1))++l) e tot)))
      (K (.slc (Nat.succ H.next) 0 (len+n) (.u H.next 0)) ((H.nm.del id).new (.row (old.take (len*(sz+1))++l) e (.u H.next (sz+1))))))
    |some (.fam f m us ys e' tot)=>e_5 (sz+1) x H fun n l=>gd (Nat.beq sz 0&&(Nat.beq e' e&&(Nat.beq len (m+ys.length)&&(b_H 1 cap tot&&(Nat.ble ((len+n)*b) 140737488355328&&(Nat.ble (len+n) 140737488355328&&(l.all i_T&& !H.isRo id)))))))
     (br (o_Y cap (len+n)) (K (.slc id 0 (len+n) cap) (H.set id (.fam f m us (ys++l) e tot)))
      (K (.slc (Nat.succ H.next) 0 (len+n) (.u H.next 0)) ((H.nm.del id).new (.fam f m us (ys++l) e (.u H.next 1)))))
    |some (.famw f wd m xs e' tot)=>e_5 (sz+1) x H fun n l=>gd (Nat.beq wd (sz+1)&&(Nat.beq e' e&&(h_7 xs&&(Nat.beq len m&&(b_H (sz+1) cap tot&&(Nat.ble ((len+n)*b) 140737488355328&&(Nat.ble (len+n) 140737488355328&&(l.all i_T&& !H.isRo id))))))))
     (K (.slc (Nat.succ H.next) 0 (len+n) (.u H.next 0)) ((H.nm.del id).new (.famw f wd m l e (.u H.next (sz+1)))))
    |_=>False
  |_=>False)
 |_,_,_=>False
theorem c_P{t u xt e:TypeId}{off' len cap' r n sz:Nat}{xv:Value}{olds vs rest:List Value}(hu:P.underlying t=some (.slice e))(hsz:szA P e=some (sz+1))(hxt:c_s P xt=true)
 (ho:w.heap[r]?=some (.cells (olds++rest).toArray e (0,0))) (hol:olds.length=len*(sz+1)) (hoff:off'=0\/cap'=0) (hcap:cap'*(sz+1)<=(olds++rest).length)
 (hvl:vs.length=n*(sz+1)) (hone:∀x∈vs,x.oneCell'=true) (hn:News P w (sz+1) n xv vs.toArray) (hroom:len+n<=cap'):
 (Builtin.append_ #[t,xt] u #[.slice (some ⟨r,off',none⟩) len cap',xv]).run P w=.ok (.slice (some ⟨r,off',none⟩) (len+n) cap') (a_H w r (.cells (olds++vs++rest.drop vs.length).toArray e (0,0))):=by
 have hmul:(len+n)*(sz+1)<=cap'*(sz+1):=Nat.mul_le_mul_right _ hroom
 rw[Nat.add_mul] at hmul
 have hrun:=e_4 (P:=P) (u:=u) hu hsz hxt hn (r:=r) (off:=off') (len:=len) (cap:=cap') hroom
 have hst:((storeCells ⟨r,off'+len*(sz+1),none⟩ (vs.toArray).toList).run P w)=.ok () (a_H w r (.cells (olds++vs++rest.drop vs.length).toArray e (0,0))):=by
  have hsp:a_x (olds++rest) (len*(sz+1)) vs=olds++vs++rest.drop vs.length:=by
   rw[b_e _ _ _ ac,←hol,List.take_left,List.drop_append]
   simp
  rcases hoff with rfl|hcap0
  ·have:=a_D (P:=P) (r:=r) (off:=len*(sz+1)) (e:=e) (fz:=(0,0)) vs 0 w (olds++rest) ho ac (fun k hk1 hk2 hh=>aP) hone
   simp only[Nat.add_zero] at this
   rw[hsp] at this
   simpa using this
  ·have hn0:n=0:=ac
   subst hn0
   have:vs=[]:=aX
   subst this
   simp only[storeCells,Sem.run_pure]
   rw[b_s (by simpa using ho)]
 rw[hst] at hrun
 simpa only[Result.andThen_ok] using hrun
theorem b_N{t u xt e:TypeId}{id off' len cap' r n sz bb:Nat}{z xv:Value}{olds vs rest:List Value}{bk b':ABlk}{K:AVal->AHeap->Prop}(hu:P.underlying t=some (.slice e))(hsz:szA P e=some (sz+1))(hby:c_Y P e=some bb)(hz:c_z P e=some z)
 (hzl:∀n,(Builtin.zeroCells z.cells n).toList.length=n*(sz+1)) (hxt:c_s P xt=true) (hi:Inv w0 F0 ι H w) (hg:H.get id=some bk) (hr:ι id=some r) (hro:H.isRo id=false)
 (ho:w.heap[r]?=some (.cells (olds++rest).toArray e (0,0))) (hol:olds.length=len*(sz+1)) (hoff:off'=0\/cap'=0) (hl:len<=cap') (hcap:cap'*(sz+1)<=(olds++rest).length) (hc63:cap'<9223372036854775808)
 (hvl:vs.length=n*(sz+1)) (hone:∀x∈vs,x.oneCell'=true) (hn:∀w':World,w'.heap=w.heap->News P w' (sz+1) n xv vs.toArray) (h3:(len+n)*bb<=140737488355328) (h4:len+n<=140737488355328)
 (hb':∀(ι':Inj) (c:Nat) (rest':List Value),ι.le ι'->ι' H.next=some c->c*(sz+1)<=(olds++vs++rest').length->BDen ι' b' (.cells (olds++vs++rest').toArray e (0,0)))
 (hK:K (.slc (Nat.succ H.next) 0 (len+n) (.u H.next 0)) ((H.nm.del id).new b')):Ok w0 F0 ι K ((Builtin.append_ #[t,xt] u #[.slice (some ⟨r,off',none⟩) len cap',xv]).run P w):=by
 by_cases hroom:len+n<=cap'
 ·have hmul:(len+n)*(sz+1)<=cap'*(sz+1):=Nat.mul_le_mul_right _ hroom
  rw[Nat.add_mul] at hmul
  rw[c_P hu hsz hxt ho hol hoff hcap hvl hone (hn w rfl) hroom]
  obtain⟨ι1,hle1,hn1,hi1⟩:=hi.name cap'
  obtain⟨ι',hle,hnn,hinv⟩:=hi1.rebind (id:=id) hg (hle1 _ _ hr) hro (b':=b') (o':=.cells (olds++vs++rest.drop vs.length).toArray e (0,0)) (w':=a_H w r (.cells (olds++vs++rest.drop vs.length).toArray e (0,0))) (fun ι' hi'=>
   hb' ι' cap' _ (Inj.le_trans hle1 hi') (hi' _ _ hn1) (by simp at hcap⊢;omega)) (a_M ho) (fun k hk=>a_A hk) a_I rfl rfl rfl
  refine⟨_,_,ι',hK,.slc hnn hroom ?_ ⟨cap',hle _ _ hn1,hc63,rfl⟩,Inj.le_trans hle1 hle,hinv⟩
  rcases hoff with ho'|ho'
  ·exact .inl ho'
  ·exact .inr ho'
 ·obtain⟨c,hcge,hc63',hrun⟩:=b_M (P:=P) (w:=w) (u:=u) (base:=some ⟨r,off',none⟩) (len:=len) (cap:=cap') (olds:=olds.toArray) hu hsz hby hz hxt hn (fun w' hw'=>by
   simp only[Builtin.firstCells]
   rcases hoff with rfl|h0
   ·rw[a_T (w:=w') (c:=(olds++rest).toArray) (e:=e) (fz:=(0,0)) aR 0 (len*(sz+1)) af]
    congr 2
    rw[List.drop_zero,←hol,List.take_left]
   ·have:len=0:=ac
    subst this
    have:olds=[]:=by simpa using hol
    subst this
    simp[loadCells,loadCellsFrom]) ac h3 h4
  rw[hrun]
  obtain⟨ι1,hle1,hn1,hd1⟩:=(hi.drew (w.drawn+1)).name c
  have hd0:=hd1.del id
  have hbd:=fun ι' (hle:ι1.le ι')=>hb' ι' c (Builtin.zeroCells z.cells (c-(len+n))).toList (Inj.le_trans hle1 hle) (hle.f _ _ hn1) (by
   rw[List.length_append,List.length_append,hzl,hol,hvl,←Nat.add_mul,←Nat.add_mul]
   exact Nat.mul_le_mul_right _ ac)
  have hobj:(olds.toArray++vs.toArray++Builtin.zeroCells z.cells (c-(len+n)))=(olds++vs++(Builtin.zeroCells z.cells (c-(len+n))).toList).toArray:=aF
  rw[hobj]
  obtain⟨ι',hle,hnn,hinv⟩:=hd0.new (hbd ι1 (Inj.le_refl _))
  exact⟨_,_,ι',hK,.slc hnn hcge (.inl rfl) ⟨c,hle _ _ hn1,hc63',rfl⟩,Inj.le_trans hle1 hle,hinv⟩
theorem j_B{g:Nat->AVal}{m:Nat}{xv:Value}(hi:Inv w0 F0 ι H w)(hx:Den ι (.fam g m) xv):∃vs:List Value,vs.length=m/\(∀k v,vs[k]?=some v->Den ι (g k) v)/\∀w':World,w'.heap=w.heap->News P w' 1 m xv vs.toArray:=by
 cases hx with
 |@fam _ _ r c off pre vs rest e fz hm hn hv hl ho=>
  have hh:=(hi.fz.frz _ _ hm).1
  subst ho
  refine⟨vs,hn,hv,fun w' hw'=>⟨aq,?_,af⟩⟩
  simp only[Builtin.firstCells,Nat.mul_one]
  rw[a_T (w:=w') (by rw[hw'];exact hh) pre.length m af]
  congr 2
  rw[List.drop_left,←hn,List.take_left]
 |@fam0 _ a c=>
  refine⟨[],rfl,fun k v hk=>by simp at hk,fun w' hw'=>⟨aq,?_,an⟩⟩
  cases a with
  |none=>simp[Builtin.firstCells]
  |some a=>simp[Builtin.firstCells,loadCells,loadCellsFrom]
theorem r_A{x:AVal}{g:Nat->AVal}{m:Nat}{c:Bool}{xv:Value}(hs:j_A x H=some (g,m,c))(hc:c=true)(hi:Inv w0 F0 ι H w)(hx:Den ι x xv):∃vs:List Value,vs.length=m/\(∀k v,vs[k]?=some v->Den ι (g k) v)/\∀w':World,w'.heap=w.heap->News P w' 1 m xv vs.toArray:=by
 unfold j_A at hs
 split at hs
 ·cases hs
  exact j_B hi hx
 ·rename_i j off m' cap
  split at hs
  ·rename_i g' k us ys e tot hg
   cases hs
   have hle:=a_B hc
   obtain⟨r,o,hr,ho,hb,_⟩:=hi.blk _ _ hg
   cases hx with
   |slc hr' hl hoff hcap=>
   rename_i off' r' c'
   rw[hr] at hr';cases hr'
   obtain⟨vs,yv,rest,rfl,hn,hv,hy,ht⟩:=hb
   refine⟨(vs.drop off).take m,af,fun i v hi'=>?_,fun w' hw'=>⟨aq,?_,af⟩⟩
   ·exact hv _ _ (d_G hi')
   ·simp only[Builtin.firstCells,Nat.mul_one]
    rcases hoff with rfl|h0
    ·rw[a_T (w:=w') aR off' m af]
     congr 2
     simp only[List.append_assoc,List.drop_append]
     rw[List.take_append_of_le_length af]
    ·have:m=0:=ac
     subst this
     simp[loadCells,loadCellsFrom]
  ·cases hs
 ·cases hs
theorem r_B{g:Nat->AVal}{m:Nat}{vs:List Value}(hl:vs.length=m)(hv:∀k v,vs[k]?=some v->Den ι (g k) v)(h:∀k,k<m->i_T (g k)=true):∀x∈vs,x.oneCell'=true:=by
 intro x hx
 obtain⟨k,hk,rfl⟩:=List.getElem_of_mem hx
 exact(hv k _ (List.getElem?_eq_getElem hk)).one (h k ac)
theorem j_C{z:Value}{sz:Nat}(h:z.cells.size=sz+1)(n:Nat):(Builtin.zeroCells z.cells n).toList.length=n*(sz+1):=by rw[Array.length_toList,c_O,h]
theorem k_s{t u xt e:TypeId}{s x:AVal}{g:Nat->AVal}{m:Nat}{cc:Bool}{sv xv:Value}{K:AVal->AHeap->Prop}(h:g_0 P e s g m H K)(hsrc:j_A x H=some (g,m,cc))(hcc:cc=true)(hu:P.underlying t=some (.slice e))(hxt:c_s P xt=true)(hi:Inv w0 F0 ι H w)(hs:Den ι s sv)(hx:Den ι x xv):
 Ok w0 F0 ι K ((Builtin.append_ #[t,xt] u #[sv,xv]).run P w):=by
 unfold g_0 at h
 split at h<;>try exact h.elim
 rename_i b z hsz hby hz
 split at h<;>try exact h.elim
 rename_i id len cap
 obtain⟨hc,hall,h⟩:=a_h h
 simp only[Bool.and_eq_true,Bool.not_eq_true'] at hc
 obtain⟨hzc,h3,h4,hro⟩:=hc
 have hzl:=j_C (z:=z) (sz:=0) (Nat.eq_of_beq_eq_true hzc)
 have h3:=a_B h3
 have h4:=a_B h4
 obtain⟨vs,hvl,hv,hn⟩:=r_A (P:=P) hsrc hcc hi hx
 have hone:=r_B hvl hv hall
 cases hs with
 |slc hr hl hoff hcapd=>
 rename_i off' r cap'
 split at h<;>try exact h.elim
 ·rename_i e' tot hg
  obtain⟨hc,hK⟩:=a_h h
  simp only[Bool.and_eq_true] at hc
  have he:=Nat.eq_of_beq_eq_true hc.1
  have hl0:=Nat.eq_of_beq_eq_true hc.2.1
  subst he;subst hl0
  obtain⟨r',o,hr',ho,hbd,_⟩:=hi.blk _ _ hg
  rw[hr] at hr';cases hr'
  obtain⟨c,rest,rfl,hd,ht⟩:=hbd
  cases hd
  have hcf:=b_u hc.2.2 hcapd ht
  refine b_N (sz:=0) (olds:=[]) (rest:=rest) (vs:=vs) hu hsz hby hz hzl hxt hi hg hr hro ho rfl hoff hl (by simpa using hcf) (b_I hc.2.2 hcapd) ac hone hn h3 h4 (fun ι' c rest' hle hnx hlen=>?_) hK
  exact⟨vs,[],rest',an,hvl,fun k v hk=>(hv k v hk).mono hle,.nil,c,hnx,aT⟩
 ·rename_i f k us e' tot hg
  obtain⟨r',o,hr',ho,hbd,_⟩:=hi.blk _ _ hg
  rw[hr] at hr';cases hr'
  obtain⟨c,yv,rest,rfl,hck,hcv,hyd,ht⟩:=hbd
  cases hyd
  rcases a_4 h with⟨hfit,h⟩|⟨_,h⟩
  ·simp only[Bool.and_eq_true] at hfit
   have hroom:=g_Z hfit.1 hcapd
   have hlk:=a_B hfit.2
   obtain⟨hc,hK⟩:=a_h h
   simp only[Bool.and_eq_true] at hc
   have he:=Nat.eq_of_beq_eq_true hc.1
   subst he
   have hcf:=b_u hc.2 hcapd ht
   have hsplit:c++[]++rest=c.take len++(c.drop len++rest):=by rw[←List.append_assoc,List.take_append_drop,List.append_nil]
   rw[hsplit] at ho
   rw[c_P (sz:=0) (olds:=c.take len) hu hsz hxt ho af hoff bo ac hone (hn w rfl) hroom]
   refine⟨_,_,ι,hK,.slc hr hroom hoff hcapd,Inj.le_refl _,?_⟩
   have hdr:(c.drop len++rest).drop vs.length=c.drop (len+m)++rest:=by
    rw[List.drop_append_of_le_length af,List.drop_drop,hvl]
   refine Inv.set hi hg hr hro ?_ (a_M ho) (fun k hk=>a_A hk) a_I rfl rfl rfl
   refine⟨c.take len++vs++c.drop (len+m),[],rest,by rw[hdr];simp,af,fun i v hk=>?_,.nil,?_⟩
   ·simp only[c_q]
    refine .ite (fun hb=>?_) (fun hb=>.ite (fun hb2=>?_) (fun hb2=>?_))
    ·have hb:=a_Y hb
     rw[List.append_assoc,List.getElem?_append_left af,List.getElem?_take,if_pos hb] at hk
     exact hcv i v hk
    ·have hb2:=a_Y hb2
     have hb:len<=i:=by
      rcases Nat.lt_or_ge i len with h'|h'
      ·rw[show Nat.blt i len=true from Nat.ble_eq_true_of_le h'] at hb;cases hb
      ·exact h'
     have hct:(c.take len).length=len:=af
     rw[List.append_assoc,List.getElem?_append_right ac,List.getElem?_append_left ac,hct] at hk
     exact hv _ v hk
    ·have hb2:len+m<=i:=by
      rcases Nat.lt_or_ge i (len+m) with h'|h'
      ·rw[show Nat.blt i (len+m)=true from Nat.ble_eq_true_of_le h'] at hb2;cases hb2
      ·exact h'
     have hct:(c.take len++vs).length=len+m:=af
     rw[List.getElem?_append_right ac,hct,List.getElem?_drop] at hk
     have e1:len+m+(i-(len+m))=i:=ac
     rw[e1] at hk
     exact hcv i v hk
   ·have e1:(c.take len++vs++c.drop (len+m)).length+([]:List Value).length+rest.length=c.length+([]:List Value).length+rest.length:=af
    rw[e1];exact ht
  ·obtain⟨hc,hK2⟩:=a_h h
   clear h
   simp only[Bool.and_eq_true] at hc
   have hus:us=[]:=by
    cases us with
    |nil=>rfl
    |cons _ _=>have:=hc.1;cases this
   subst hus
   have he:=Nat.eq_of_beq_eq_true hc.2.1
   have hl0:=Nat.eq_of_beq_eq_true hc.2.2.1
   subst he
   have hcf:=b_u hc.2.2.2 hcapd ht
   refine b_N (sz:=0) (olds:=c) (rest:=rest) (vs:=vs) hu hsz hby hz hzl hxt hi hg hr hro (by simpa using ho) ac hoff hl bo (b_I hc.2.2.2 hcapd) ac hone hn h3 h4 (fun ι' c2 rest' hle hnx hlen=>?_) hK2
   refine⟨c++vs,[],rest',an,af,fun i v hk=>?_,.nil,c2,hnx,aT⟩
   simp only[c_q]
   refine .ite (fun hb=>?_) (fun hb=>?_)
   ·have hb:=a_Y hb
    rw[List.getElem?_append_left ac] at hk
    exact(hcv i v hk).mono hle
   ·have hb:k<=i:=by
     rcases Nat.lt_or_ge i k with h'|h'
     ·rw[show Nat.blt i k=true from Nat.ble_eq_true_of_le h'] at hb;cases hb
     ·exact h'
    rw[List.getElem?_append_right ac,hck] at hk
    exact(hv _ v hk).mono hle
 ·rename_i f k ys e' tot hys hg
  obtain⟨hc,h⟩:=a_h h
  simp only[Bool.and_eq_true] at hc
  have he:=Nat.eq_of_beq_eq_true hc.1
  have hl0:=Nat.eq_of_beq_eq_true hc.2.1
  subst he
  obtain⟨r',o,hr',ho,hbd,_⟩:=hi.blk _ _ hg
  rw[hr] at hr';cases hr'
  obtain⟨c,yv,rest,rfl,hck,hcv,hyd,ht⟩:=hbd
  have hyl:=hyd.length
  have hcf:=b_u hc.2.2 hcapd ht
  split at h<;>try exact h.elim
  ·rename_i a
   cases hyd with
   |@cons _ y _ _ hy1 hy2=>
   cases hy2
   simp at hl0
   refine b_N (sz:=0) (olds:=c++[y]) (rest:=rest) (vs:=vs) hu hsz hby hz hzl hxt hi hg hr hro (by simpa using ho) af hoff hl bo (b_I hc.2.2 hcapd) ac hone hn h3 h4 (fun ι' c2 rest' hle hnx hlen=>?_) h
   refine⟨c++[y]++vs,[],rest',an,af,fun i v hk=>?_,.nil,c2,hnx,aT⟩
   simp only[c_q]
   refine .ite (fun hb=>?_) (fun hb=>.ite (fun hb2=>?_) (fun hb2=>?_))
   ·have hb:=Nat.eq_of_beq_eq_true hb
    subst hb
    rw[List.append_assoc,List.getElem?_append_right ac] at hk
    simp[hck] at hk
    subst hk
    exact hy1.mono hle
   ·have hb2:=a_Y hb2
    rw[List.append_assoc,List.getElem?_append_left ac] at hk
    exact(hcv i v hk).mono hle
   ·have hb2:k<=i:=by
     rcases Nat.lt_or_ge i k with h'|h'
     ·rw[show Nat.blt i k=true from Nat.ble_eq_true_of_le h'] at hb2;cases hb2
     ·exact h'
    have hne:i≠k:=fun e=>by rw[e,Nat.beq_refl] at hb;cases hb
    rw[List.getElem?_append_right af] at hk
    have e1:i-(c++[y]).length=i-Nat.succ k:=by simp[hck]
    rw[e1] at hk
    exact(hv _ v hk).mono hle
theorem k_t{t u xt e:TypeId}{s x:AVal}{sv xv:Value}{K:AVal->AHeap->Prop}(h:g_1 P e s x H K)(hu:P.underlying t=some (.slice e))(hxt:c_s P xt=true)(hi:Inv w0 F0 ι H w)(hs:Den ι s sv)(hx:Den ι x xv):
 Ok w0 F0 ι K ((Builtin.append_ #[t,xt] u #[sv,xv]).run P w):=by
 unfold g_1 at h
 split at h
 ·rename_i hsrc
  obtain⟨hcc,h⟩:=a_h h
  exact k_s h hsrc hcc hu hxt hi hs hx
 split at h
 ·rename_i sz b z hsz hby hz
  obtain⟨hzc,h⟩:=a_h h
  have hzc:=Nat.eq_of_beq_eq_true hzc
  have hzl:=j_C hzc
  split at h
  ·cases hs
   obtain⟨n,l,vs,hK,hd,hvl,hn⟩:=d_e (P:=P) h hi hx
   rcases a_4 hK with⟨hnil,hK⟩|⟨hnil,hK⟩
   ·have:n=0:=bB
    subst this
    have hvs:vs=[]:=aX
    subst hvs
    have hrun:(Builtin.append_ #[t,xt] u #[.slice none 0 0,xv]).run P w=.ok (.slice none 0 0) w:=by
     obtain⟨d,hd,hnd⟩:=c_F hxt
     have e0:(#[t,xt]:Array TypeId)[0]?=some t:=rfl
     have e1:(#[t,xt]:Array TypeId)[1]?=some xt:=rfl
     have e2:(#[Value.slice none 0 0,xv]:Array Value)[0]?=some (.slice none 0 0):=rfl
     have e3:(#[Value.slice none 0 0,xv]:Array Value)[1]?=some xv:=rfl
     have h1:=hn w rfl
     have hl:=h1.len
     have hcl:=h1.cells
     simp only[Builtin.append_,e0,e1,e2,e3,Sem.run_bind,a_a hu,Result.andThen_ok,a_q hsz,a_a hd]
     cases d<;>first
      |exact(hnd _ rfl).elim
      |(simp only[Sem.run_pure,Result.andThen_ok,Bool.false_eq_true,if_false,hl,Nat.add_zero,Nat.le_refl,if_true,Bool.not_false,Sem.run_bind,hcl])
    rw[hrun]
    exact⟨_,_,ι,hK,.lit,Inj.le_refl _,hi⟩
   ·obtain⟨hb,hK⟩:=a_h hK
    simp only[Bool.and_eq_true] at hb
    have hb1:=a_B hb.1
    have hb2:=a_B hb.2
    have hpos:0<n:=by cases n with|zero=>cases hnil|succ _=>omega
    obtain⟨c,hcge,hc63,hrun⟩:=b_M (P:=P) (w:=w) (u:=u) (base:=none) (len:=0) (cap:=0) (olds:=#[]) hu hsz hby hz hxt hn (fun w' _=>aL) ac (by rw[Nat.zero_add];exact hb1) ac
    rw[hrun]
    rw[Nat.zero_add] at hcge
    obtain⟨ι1,hle1,hn1,hd0⟩:=(hi.drew (w.drawn+1)).name c
    obtain⟨ι',hle,hnn,hinv⟩:=hd0.new (b:=.row l e (.u H.next (sz+1))) (o:=.cells (#[]++vs.toArray++Builtin.zeroCells z.cells (c-(0+n))) e (0,0))
     ⟨vs,(Builtin.zeroCells z.cells (c-(0+n))).toList,aF,hd.mono hle1,⟨c,hn1,by
      refine Nat.le_of_eq ?_
      rw[hzl,hvl,←Nat.add_mul];congr 1;omega⟩⟩
    refine⟨_,_,ι',hK,?_,Inj.le_trans hle1 hle,hinv⟩
    rw[Nat.zero_add]
    exact .slc hnn hcge (.inl rfl) ⟨c,hle _ _ hn1,hc63,rfl⟩
  ·obtain⟨n,l,vs,hK,hd,hvl,hn⟩:=d_e (P:=P) h hi hx
   obtain⟨hnil,hK⟩:=a_h hK
   have:n=0:=bB
   subst this
   have hvs:vs=[]:=aX
   subst hvs
   cases hs with
   |@e0 a c=>
   have hrun:(Builtin.append_ #[t,xt] u #[.slice a 0 c,xv]).run P w=.ok (.slice a 0 c) w:=by
    obtain⟨d,hd,hnd⟩:=c_F hxt
    have e0:(#[t,xt]:Array TypeId)[0]?=some t:=rfl
    have e1:(#[t,xt]:Array TypeId)[1]?=some xt:=rfl
    have e2:(#[Value.slice a 0 c,xv]:Array Value)[0]?=some (.slice a 0 c):=rfl
    have e3:(#[Value.slice a 0 c,xv]:Array Value)[1]?=some xv:=rfl
    have h1:=hn w rfl
    have hl:=h1.len
    have hcl:=h1.cells
    simp only[Builtin.append_,e0,e1,e2,e3,Sem.run_bind,a_a hu,Result.andThen_ok,a_q hsz,a_a hd]
    cases d<;>first
     |exact(hnd _ rfl).elim
     |(cases a<;>simp only[Sem.run_pure,Result.andThen_ok,Bool.false_eq_true,if_false,hl,Nat.add_zero,Nat.zero_le,if_true,Bool.not_false,Sem.run_bind,hcl,storeCells])
   rw[hrun]
   exact⟨_,_,ι,hK,.e0,Inj.le_refl _,hi⟩
  ·rename_i f m _
   obtain⟨n,l,vs,hK,hd,hvl,hn⟩:=d_e (P:=P) h hi hx
   obtain⟨hc,hK2⟩:=a_h hK
   clear hK
   simp only[Bool.and_eq_true,Bool.not_eq_true'] at hc
   have hz0:=Nat.eq_of_beq_eq_true hc.1
   subst hz0
   have hpos:0<n:=by
    cases n with
    |zero=>have:=hc.2.1;cases this
    |succ _=>omega
   have h3:=a_B hc.2.2.1
   have h4:=a_B hc.2.2.2
   cases hs with
   |@famx _ _ a hfam=>
   have holds:∃c:List Value,c.length=m/\(∀k v,c[k]?=some v->Den ι (f k) v)/\∀w':World,w'.heap=w.heap->(Builtin.firstCells (0+1) m (.slice a m m)).run P w'=.ok c.toArray w':=by
    obtain⟨c,h1,h2,h3⟩:=j_B (P:=P) hi hfam
    exact⟨c,h1,h2,fun w' hw'=>(h3 w' hw').cells⟩
   obtain⟨c,hcl,hcv,hcr⟩:=holds
   obtain⟨cc,hcge,hc63,hrun⟩:=b_M (P:=P) (w:=w) (u:=u) (base:=a) (len:=m) (cap:=m) (olds:=c.toArray) hu hsz hby hz hxt hn hcr ac h3 h4
   rw[hrun]
   obtain⟨ι1,hle1,hn1,hd0⟩:=(hi.drew (w.drawn+1)).name cc
   obtain⟨ι',hle,hnn,hinv⟩:=hd0.new (b:=.fam f m [] l e (.u H.next 1)) (o:=.cells (c.toArray++vs.toArray++Builtin.zeroCells z.cells (cc-(m+n))) e (0,0))
    ⟨c,vs,(Builtin.zeroCells z.cells (cc-(m+n))).toList,aF,hcl,fun k v hk=>(hcv k v hk).mono hle1,hd.mono hle1,⟨cc,hn1,by
      rw[hzl,hvl,hcl];omega⟩⟩
   exact⟨_,_,ι',hK2,.slc hnn hcge (.inl rfl) ⟨cc,hle _ _ hn1,hc63,rfl⟩,Inj.le_trans hle1 hle,hinv⟩
  ·rename_i id len cap _
   cases hs with
   |slc hr hl hoff hcapd=>
   rename_i off' r cap'
   split at h<;>try exact h.elim
   ·rename_i old e' tot hg
    obtain⟨r',o,hr',ho,hbd,hf⟩:=hi.blk _ _ hg
    rw[hr] at hr';cases hr'
    obtain⟨n,l,vs,hK,hd,hvl,hn⟩:=d_e (P:=P) h hi hx
    obtain⟨hc,hK2⟩:=a_h hK
    clear hK
    simp only[Bool.and_eq_true] at hc
    have h0:=Nat.eq_of_beq_eq_true hc.1
    subst h0
    have h1:=a_B hc.2.1
    have h3:=a_B hc.2.2.2.1
    have h4:=a_B hc.2.2.2.2.1
    have h5:=hc.2.2.2.2.2.1
    have hro:H.isRo id=false:=by simpa using hc.2.2.2.2.2.2
    obtain⟨c,rest,rfl,hcd,ht⟩:=hbd
    have hcl:=hcd.length
    have hc63:=b_I hc.2.2.1 hcapd
    have hcf:=b_u hc.2.2.1 hcapd ht
    have hsplit:c++rest=c.take (len*(sz+1))++(c.drop (len*(sz+1))++rest):=by rw[←List.append_assoc,List.take_append_drop]
    rw[hsplit] at ho
    have hol:(c.take (len*(sz+1))).length=len*(sz+1):=af
    have hcap:cap'*(sz+1)<=(c.take (len*(sz+1))++(c.drop (len*(sz+1))++rest)).length:=by rw[←hsplit];simpa using hcf
    rcases a_4 hK2 with⟨hfit,hK⟩|⟨_,hK⟩
    ·have hroom:=g_Z hfit hcapd
     have hmul:(len+n)*(sz+1)<=cap'*(sz+1):=Nat.mul_le_mul_right _ hroom
     rw[Nat.add_mul] at hmul
     rw[c_P hu hsz hxt ho hol hoff hcap hvl (hd.one h5) (hn w rfl) hroom]
     refine⟨_,_,ι,hK,.slc hr hroom hoff hcapd,Inj.le_refl _,?_⟩
     refine Inv.set hi hg hr hro ?_ (a_M ho) (fun k hk=>a_A hk) a_I rfl rfl rfl
     refine⟨c.take (len*(sz+1))++vs,(c.drop (len*(sz+1))++rest).drop vs.length,rfl,(hcd.take _).append hd,?_⟩
     have e1:(c.take (len*(sz+1))++vs).length+((c.drop (len*(sz+1))++rest).drop vs.length).length=c.length+rest.length:=by
      simp at hcap⊢;omega
     rw[e1];exact ht
    ·refine b_N hu hsz hby hz hzl hxt hi hg hr hro ho hol hoff hl hcap hc63 hvl (hd.one h5) hn h3 h4 (fun ι' c2 rest' hle hnx hlen=>?_) hK
     exact⟨c.take (len*(sz+1))++vs,rest',rfl,((hcd.take _).append hd).mono hle,c2,hnx,aT⟩
   ·rename_i f m us ys e' tot hg
    obtain⟨r',o,hr',ho,hbd,hf⟩:=hi.blk _ _ hg
    rw[hr] at hr';cases hr'
    obtain⟨n,l,vs,hK,hd,hvl,hn⟩:=d_e (P:=P) h hi hx
    obtain⟨hc,hK2⟩:=a_h hK
    clear hK
    simp only[Bool.and_eq_true] at hc
    have hz0:=Nat.eq_of_beq_eq_true hc.1
    subst hz0
    have h0:=Nat.eq_of_beq_eq_true hc.2.1
    subst h0
    have h1:=Nat.eq_of_beq_eq_true hc.2.2.1
    have h3:=a_B hc.2.2.2.2.1
    have h4:=a_B hc.2.2.2.2.2.1
    have h5:=hc.2.2.2.2.2.2.1
    have hro:H.isRo id=false:=by simpa using hc.2.2.2.2.2.2.2
    obtain⟨c,yv,rest,rfl,hcm,hcv,hyd,ht⟩:=hbd
    have hyl:=hyd.length
    have hc63:=b_I hc.2.2.2.1 hcapd
    have hcf:=b_u hc.2.2.2.1 hcapd ht
    have hol:(c++yv).length=len*(0+1):=af
    have hcap:cap'*(0+1)<=(c++yv++rest).length:=bo
    rcases a_4 hK2 with⟨hfit,hK⟩|⟨_,hK⟩
    ·have hroom:=g_Z hfit hcapd
     rw[c_P hu hsz hxt ho hol hoff hcap hvl (hd.one h5) (hn w rfl) hroom]
     refine⟨_,_,ι,hK,.slc hr hroom hoff hcapd,Inj.le_refl _,?_⟩
     refine Inv.set hi hg hr hro ?_ (a_M ho) (fun k hk=>a_A hk) a_I rfl rfl rfl
     refine⟨c,yv++vs,rest.drop vs.length,an,hcm,hcv,hyd.append hd,?_⟩
     have e1:c.length+(yv++vs).length+(rest.drop vs.length).length=c.length+yv.length+rest.length:=by
      simp at hcap hol⊢;omega
     rw[e1];exact ht
    ·refine b_N hu hsz hby hz hzl hxt hi hg hr hro ho hol hoff hl hcap hc63 hvl (hd.one h5) hn h3 h4 (fun ι' c2 rest' hle hnx hlen=>?_) hK
     exact⟨c,yv++vs,rest',an,hcm,fun k v hk=>(hcv k v hk).mono hle,(hyd.append hd).mono hle,c2,hnx,aT⟩
   ·rename_i f wd m xs e' tot hg
    obtain⟨r',o,hr',ho,hbd,hf⟩:=hi.blk _ _ hg
    rw[hr] at hr';cases hr'
    obtain⟨n,l,vs,hK,hd,hvl,hn⟩:=d_e (P:=P) h hi hx
    obtain⟨hc,hK2⟩:=a_h hK
    clear hK
    simp only[Bool.and_eq_true] at hc
    have hw:=Nat.eq_of_beq_eq_true hc.1
    subst hw
    have h0:=Nat.eq_of_beq_eq_true hc.2.1
    subst h0
    have hxs:xs=[]:=by
     cases xs with
     |nil=>rfl
     |cons _ _=>have:=hc.2.2.1;cases this
    subst hxs
    have h1:=Nat.eq_of_beq_eq_true hc.2.2.2.1
    subst h1
    have h3:=a_B hc.2.2.2.2.2.1
    have h4:=a_B hc.2.2.2.2.2.2.1
    have h5:=hc.2.2.2.2.2.2.2.1
    have hro:H.isRo id=false:=by simpa using hc.2.2.2.2.2.2.2.2
    obtain⟨c,yv,rest,rfl,hcm,hcv,hyd,ht⟩:=hbd
    cases hyd
    have hc63:=b_I hc.2.2.2.2.1 hcapd
    have hcf:=b_u hc.2.2.2.2.1 hcapd ht
    rw[List.append_nil] at ho
    refine b_N hu hsz hby hz hzl hxt hi hg hr hro ho hcm hoff hl bo hc63 hvl (hd.one h5) hn h3 h4 (fun ι' c2 rest' hle hnx hlen=>?_) hK2
    exact⟨c,vs,rest',rfl,hcm,fun k hk=>(hcv k hk).mono hle,hd.mono hle,c2,hnx,aT⟩
  ·exact h.elim
 ·exact h.elim
def j_D(P:Program)(xt e:TypeId)(s x:AVal)(H:AHeap)(K:AVal->AHeap->Prop):Prop:=
 match P.underlying xt,s,x with
 |some (.int _),.lit (.slice none 0 0),.lit (.int _ n)=>gd (l_V ((c_z P e).getD .nilFunc)&&(Nat.beq ((szA P e).getD 0) 1&&Nat.beq ((c_Y P e).getD 0) 1)) (gd (decide (0<n)&&decide (n<=140737488355328))
  (∀d,n.toNat<=d->d<9223372036854775808->K (.slc H.next 0 n.toNat (.n d)) (H.new (.bytes (List.replicate n.toNat 0) e (.n d)))))
 |_,_,_=>False
theorem f_S(n:Nat):(Builtin.zeroCells (a_v 0).cells n).toList=(List.replicate n (0:UInt8)).map a_v:=by
 have h:(fun i=>[Value.int IntKind.u8 0][i % 1]?.getD default)=fun _:Nat=>Value.int IntKind.u8 0:=by
  funext i;simp[Nat.mod_one]
 simp[Builtin.zeroCells,a_v,Value.cells,h,List.map_const']
theorem i_Y{t u e xt:TypeId}{k kk:IntKind}{m:Int}{z:Value}(hu:P.underlying t=some (.slice e))(hs:(P.info? e).map (·.size)=some 1)(hb:c_Y P e=some 1)(hz:c_z P e=some z)(hx:P.underlying xt=some (.int k))(h0:0<m)(h1:m<=140737488355328):
 ∃c,m.toNat<=c/\c<9223372036854775808/\(Builtin.append_ #[t,xt] u #[.slice none 0 0,.int kk m]).run P w=.ok (.slice (some ⟨w.heap.size,0,none⟩) m.toNat c) {w with heap:=w.heap.push (.cells (#[]++Builtin.zeroCells z.cells m.toNat++Builtin.zeroCells z.cells (c-m.toNat)) e),drawn:=w.drawn+1}:=by
 have e0:(#[t,xt]:Array TypeId)[0]?=some t:=rfl
 have e1:(#[t,xt]:Array TypeId)[1]?=some xt:=rfl
 have e2:(#[Value.slice none 0 0,.int kk m]:Array Value)[0]?=some (.slice none 0 0):=rfl
 have e3:(#[Value.slice none 0 0,.int kk m]:Array Value)[1]?=some (.int kk m):=rfl
 have hinfo:∃i,P.info? e=some i/\i.bytes=1:=by
  unfold c_Y at hb
  cases hi':P.info? e with
  |none=>rw[hi'] at hb;cases hb
  |some i=>rw[hi'] at hb;simp at hb;exact⟨i,rfl,hb⟩
 obtain⟨inf,hinf,hbytes⟩:=hinfo
 have hm:IntKind.i64.max=9223372036854775807:=ar
 have hw:IntKind.i64.wrap m=m:=d_K ac ac
 have hpos:0<m.toNat:=ac
 have hroom:0<0+m.toNat:=ac
 have hfit:=growslice_fits (bytes:=1) hroom ac
 refine⟨(Question.appendCap (0+m.toNat) 0 e).cut (w.tape w.drawn (.appendCap (0+m.toNat) 0 e)),by simp[Question.cut],by
  simp only[Question.cut]
  have:=Nat.mod_lt (w.tape w.drawn (.appendCap (0+m.toNat) 0 e)) (show 0<2 ^ 63-(0+m.toNat) by omega)
  omega,?_⟩
 simp only[Builtin.append_,e0,e1,e2,e3,Sem.run_bind,a_a hu,Result.andThen_ok,a_q hs,a_a hx,Sem.run_pure,if_true,asInt,asIntOf,hw]
 rw[if_neg ac]
 simp only[Sem.run_bind,Sem.run_pure,Result.andThen_ok,a_u hinf,hbytes]
 rw[if_neg (by have:(2:Int) ^ 48=281474976710656:=by decide
               omega)]
 simp only[Sem.run_bind,Sem.run_pure,Result.andThen_ok,Nat.not_le.2 hroom,if_false,hm,a_u hinf,hbytes]
 rw[if_neg ac]
 simp only[Sem.run_bind,a_u hinf,Result.andThen_ok,hbytes,Sem.run_pure]
 rw[if_neg (by have:(2:Nat) ^ 48=281474976710656:=by decide
               omega)]
 simp only[Sem.run_bind,run_choose,Question.forced,Bool.false_eq_true,if_false,Result.andThen_ok,run_askRoom,a_u hinf,b_g hz,b_d,Sem.run_pure,Builtin.firstCells,Nat.mul_one,Bool.not_true]
 rw[if_neg ac]
 simp only[Sem.run_bind,b_g hz,Result.andThen_ok,Sem.run_pure,b_d,Nat.zero_add]
def i_Z(P:Program)(ts:Array TypeId)(s x:AVal)(H:AHeap)(K:AVal->AHeap->Prop):Prop:=
 match ts.toList with
 |[t,xt]=>match P.underlying t with
  |some (.slice e)=>br (c_s P xt) (cond (h_O P e) (j_z P e s x H K) (g_1 P e s x H K)) (j_D P xt e s x H K)
  |_=>False
 |_=>False
theorem l_X{ts:Array TypeId}{u:TypeId}{s x:AVal}{sv xv:Value}{K:AVal->AHeap->Prop}(h:i_Z P ts s x H K)(hi:Inv w0 F0 ι H w)(hs:Den ι s sv)(hx:Den ι x xv):
 Ok w0 F0 ι K ((Builtin.append_ ts u #[sv,xv]).run P w):=by
 unfold i_Z at h
 split at h
 ·rename_i t xt ht
  have ht:ts=#[t,xt]:=by rw[←Array.toList_inj];exact ht
  subst ht
  split at h
  ·rename_i e hu
   rcases a_4 h with⟨hxt,h⟩|⟨_,h⟩
   ·cases hb:h_O P e with
    |true=>rw[hb] at h;exact k_r h hu hxt hi hs hx
    |false=>rw[hb] at h;exact k_t h hu hxt hi hs hx
   ·unfold j_D at h
    split at h
    ·rename_i k kk m hxu _
     obtain⟨hc,h⟩:=a_h h
     obtain⟨hm,hK⟩:=a_h h
     simp only[Bool.and_eq_true,decide_eq_true_eq] at hc hm
     obtain⟨hz,hsz,hby⟩:=hc
     have hsz:=b_R (Nat.eq_of_beq_eq_true hsz) ac
     have hby:=b_R (Nat.eq_of_beq_eq_true hby) ac
     have hz:c_z P e=some (a_v 0):=b_R (g_X hz) (by simp[a_v])
     cases hs
     cases hx
     obtain⟨c,hcge,hc63,hrun⟩:=i_Y (P:=P) (w:=w) (u:=u) (kk:=kk) hu hsz hby hz hxu hm.1 hm.2
     rw[hrun]
     have hd0:=hi.drew (w.drawn+1)
     have hzl:(Builtin.zeroCells (a_v 0).cells (c-m.toNat)).toList.length=c-m.toNat:=ba
     obtain⟨ι',hle,hnn,hinv⟩:=hd0.new (b:=.bytes (List.replicate m.toNat 0) e (.n c)) (o:=.cells (#[]++Builtin.zeroCells (a_v 0).cells m.toNat++Builtin.zeroCells (a_v 0).cells (c-m.toNat)) e (0,0))
      ⟨(Builtin.zeroCells (a_v 0).cells (c-m.toNat)).toList,(0,0),by rw[←f_S];simp[←Array.toList_inj],by show c<=_;rw[hzl,List.length_replicate];omega,fun k _ hh=>aP⟩
     exact⟨_,_,ι',hK c hcge hc63,.slc hnn hcge (.inl rfl) rfl,hle,hinv⟩
    ·exact h.elim
  ·exact h.elim
 ·exact h.elim
def l_Y(P:Program)(ts:Array TypeId)(x:AVal)(H:AHeap)(K:AVal->AHeap->Prop):Prop:=
 match ts.toList,x with
 |t::_,.slc id off n _=>match P.underlying t with
  |some (.slice e)=>match szA P e,c_z P e with
   |some 1,some z=>match H.get id with
    |some (.fam f k us [] e' tot)=>gd (Nat.beq z.cells.size 1&&(i_T (ofValue 2 z)&&(Nat.ble (off+n) k&& !H.isRo id))) (K (.tup []) (H.set id (.fam (fun i=>.ite (Nat.blt i off||Nat.ble (off+n) i) (c_q f us i) (ofValue 2 z)) k [] [] e' tot)))
    |_=>False
   |_,_=>False
  |_=>False
 |_,_=>False
theorem g_2{z:Value}(h:z.cells.size=1)(hz:z.oneCell'=true)(n:Nat):(Builtin.zeroCells z.cells n).toList=List.replicate n z:=by
 have hc:z.cells=#[z]:=by cases z<;>first|rfl|cases hz
 have h:(fun i=>([z]:List Value)[i % 1]?.getD default)=fun _:Nat=>z:=by
  funext i;simp[Nat.mod_one]
 simp[Builtin.zeroCells,hc,h,List.map_const']
theorem o_Z{ts:Array TypeId}{u:TypeId}{x:AVal}{xv:Value}{K:AVal->AHeap->Prop}(h:l_Y P ts x H K)(hi:Inv w0 F0 ι H w)(hx:Den ι x xv):
 Ok w0 F0 ι K ((Builtin.clear_ ts u #[xv]).run P w):=by
 unfold l_Y at h
 split at h<;>try exact h.elim
 rename_i t ts' id off n cap hts
 have e0:ts[0]?=some t:=by
  have:ts.toList[0]?=some t:=by rw[hts];rfl
  simpa using this
 split at h<;>try exact h.elim
 rename_i e hu
 split at h<;>try exact h.elim
 rename_i z hsz hz
 split at h<;>try exact h.elim
 rename_i f k us e' tot hg
 obtain⟨hc,hK⟩:=a_h h
 simp only[Bool.and_eq_true,Bool.not_eq_true'] at hc
 obtain⟨hzc,hzo,hle,hro⟩:=hc
 have hzc:=Nat.eq_of_beq_eq_true hzc
 have hle:=a_B hle
 have hzo:z.oneCell'=true:=(a_Q (ι:=ι) 2 z).one hzo
 obtain⟨r,o,hr,ho,hb,_⟩:=hi.blk _ _ hg
 cases hx with
 |slc hr' hl hoff hcap=>
 rename_i off' r' c'
 rw[hr] at hr';cases hr'
 obtain⟨c,yv,rest,rfl,hck,hcv,hy,ht⟩:=hb
 cases hy
 have hzs:=g_2 hzc hzo n
 have e1:(#[Value.slice (some ⟨r,off',none⟩) n c']:Array Value)[0]?=some (.slice (some ⟨r,off',none⟩) n c'):=rfl
 have hnew:Inv w0 F0 ι (H.set id (.fam (fun i=>.ite (Nat.blt i off||Nat.ble (off+n) i) (c_q f us i) (ofValue 2 z)) k [] [] e' tot)) (a_H w r (.cells (c.take off++List.replicate n z++c.drop (off+n)++[]++rest).toArray e' (0,0))):=by
  refine Inv.set hi hg hr hro ?_ (a_M ho) (fun k hk=>a_A hk) a_I rfl rfl rfl
  refine⟨c.take off++List.replicate n z++c.drop (off+n),[],rest,rfl,af,fun i v hk=>?_,.nil,?_⟩
  ·have hct:(c.take off).length=off:=af
   refine .ite (fun hb=>?_) (fun hb=>?_)
   ·simp only[Bool.or_eq_true] at hb
    rcases hb with hb|hb
    ·have hb:=a_Y hb
     rw[List.append_assoc,List.getElem?_append_left ac,List.getElem?_take,if_pos hb] at hk
     exact hcv i v hk
    ·have hb:=a_B hb
     have hct2:(c.take off++List.replicate n z).length=off+n:=af
     rw[List.getElem?_append_right ac,hct2,List.getElem?_drop] at hk
     have e1:off+n+(i-(off+n))=i:=ac
     rw[e1] at hk
     exact hcv i v hk
   ·simp only[Bool.or_eq_false_iff] at hb
    have h1:off<=i:=by
     rcases Nat.lt_or_ge i off with h'|h'
     ·rw[show Nat.blt i off=true from Nat.ble_eq_true_of_le h'] at hb;cases hb.1
     ·exact h'
    have h2:i<off+n:=by
     rcases Nat.lt_or_ge i (off+n) with h'|h'
     ·exact h'
     ·rw[Nat.ble_eq_true_of_le h'] at hb;cases hb.2
    rw[List.append_assoc,List.getElem?_append_right ac,List.getElem?_append_left af,hct,List.getElem?_replicate] at hk
    split at hk
    ·cases hk;exact a_Q 2 _
    ·cases hk
  ·have e1:(c.take off++List.replicate n z++c.drop (off+n)).length+([]:List Value).length+rest.length=c.length+([]:List Value).length+rest.length:=af
   rw[e1];exact ht
 cases n with
 |zero=>
  have hrun:(Builtin.clear_ ts u #[.slice (some ⟨r,off',none⟩) 0 c']).run P w=.ok (.tuple #[]) w:=by
   simp[Builtin.clear_,e0,a_a hu]
  rw[hrun]
  have hsame:a_H w r (.cells (c.take off++List.replicate 0 z++c.drop (off+0)++[]++rest).toArray e' (0,0))=w:=by
   have:(c.take off++List.replicate 0 z++c.drop (off+0)++[]++rest)=c++[]++rest:=by simp[List.take_append_drop]
   rw[this]
   exact b_s ho
  rw[hsame] at hnew
  exact⟨_,_,ι,hK,.tup .nil,Inj.le_refl _,hnew⟩
 |succ n=>
  have ho':off'=off:=by
   rcases hoff with h'|h'
   ·exact h'
   ·omega
  subst ho'
  have hst:(storeCells ⟨r,off',none⟩ (Builtin.zeroCells z.cells (n+1)).toList).run P w=.ok () (a_H w r (.cells (c.take off'++List.replicate (n+1) z++c.drop (off'+(n+1))++[]++rest).toArray e' (0,0))):=by
   rw[hzs]
   have:=a_D (P:=P) (r:=r) (off:=off') (e:=e') (fz:=(0,0)) (List.replicate (n+1) z) 0 w (c++[]++rest) ho af (fun k hk1 hk2 hh=>aP) (fun v hv=>by rw[List.eq_of_mem_replicate hv];exact hzo)
   rw[this]
   congr 2
   rw[Nat.add_zero,b_e _ _ _ af,List.append_nil,List.take_append_of_le_length ac,List.length_replicate,List.drop_append_of_le_length ac]
   simp
  have hrun:(Builtin.clear_ ts u #[.slice (some ⟨r,off',none⟩) (n+1) c']).run P w=.ok (.tuple #[]) (a_H w r (.cells (c.take off'++List.replicate (n+1) z++c.drop (off'+(n+1))++[]++rest).toArray e' (0,0))):=by
   simp only[Builtin.clear_,e0,e1,Sem.run_bind,a_a hu,Result.andThen_ok,b_g hz,hst,Sem.run_pure]
  rw[hrun]
  exact⟨_,_,ι,hK,.tup .nil,Inj.le_refl _,hnew⟩
def a_J:List UInt8->Nat->List UInt8->List UInt8
 |c::cs,0,v::vs=>v::a_J cs 0 vs
 |c::cs,n+1,vs=>c::a_J cs n vs
 |cs,_,_=>cs
theorem c_Q:∀(c:List UInt8) (n:Nat) (v:List UInt8),(a_J c n v).map a_v=a_x (c.map a_v) n (v.map a_v)
 |[],0,_=>by cases ‹List UInt8› <;>rfl
 |[],_+1,_=>rfl
 |_::_,0,[]=>rfl
 |_::cs,0,_::vs=>by simp[a_J,a_x,c_Q cs 0 vs]
 |_::cs,n+1,vs=>by simp[a_J,a_x,c_Q cs n vs]
theorem a_U(c:List UInt8)(n:Nat)(v:List UInt8):(a_J c n v).length=c.length:=by
 have:=congrArg List.length (c_Q c n v)
 simpa[b_o] using this
def l_Z:ACap->ATot->Nat->Bool
 | .n k,.n m,off=>Nat.ble (off+k) m
 |_,_,_=>false
theorem l_0{cap:ACap}{tot:ATot}{off:Nat}(h:l_Z cap tot off=true){ι:Inj}{c t:Nat}(hc:cap.den ι c)(ht:tot.ok ι t):off+c<=t:=by
 cases cap<;>cases tot<;>simp only[l_Z] at h<;>try cases h
 have hc:c=_:=hc
 have ht:_<=t:=ht
 have:=a_B h
 omega
def r_C(P:Program)(ts:Array TypeId)(d x:AVal)(H:AHeap)(K:AVal->AHeap->Prop):Prop:=
 match ts.toList,d with
 |t::_,.slc id off n cap=>match P.underlying t with
  |some (.slice e)=>cond (h_O P e)
   (gd (Nat.beq ((szA P e).getD 0) 1) (h_6 x H fun l=>match H.get id with
    |some (.bytes old e' tot)=>br (Nat.ble (off+Nat.min l.length n) old.length)
     (gd (!H.isRo id) (K (.lit (.int .i64 (Nat.min l.length n:Nat))) (H.set id (.bytes (a_J old off (l.take n)) e' tot))))
     (gd (Nat.beq off old.length&&(l_Z cap tot off&& !H.isRo id)) (K (.lit (.int .i64 (Nat.min l.length n:Nat))) (H.set id (.bytes (old++l.take n) e' tot))))
    |_=>False))
   (match szA P e with
    |some (sz+1)=>e_5 (sz+1) x H fun m l=>match H.get id with
     |some (.row old e' tot)=>gd (Nat.ble (off+(Nat.min m n)*(sz+1)) old.length&&(l.all i_T&& !H.isRo id)) (K (.lit (.int .i64 (Nat.min m n:Nat))) (H.set id (.row (splice old off (l.take ((Nat.min m n)*(sz+1)))) e' tot)))
     |_=>False
    |_=>False)
  |_=>False
 |t::_,.lit (.slice none 0 0)=>match P.underlying t with
  |some (.slice e)=>gd (h_O P e) (gd (Nat.beq ((szA P e).getD 0) 1) (h_6 x H fun _=>K (.lit (.int .i64 (0:Nat))) H))
  |_=>False
 |_,_=>False
end
end Go.Sx

