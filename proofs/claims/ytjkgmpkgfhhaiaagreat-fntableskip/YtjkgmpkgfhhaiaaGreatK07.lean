/- Lemmas of this claim; the last text says what is proved. -/
import Derived.Test.YtjkgmpkgfhhaiaaGreatK06
set_option linter.all false
namespace Go.Sx
open Go
variable [Syms]
section
variable {P:Program} {w0 w:World} {F0:Fp} {ι:Inj} {H:AHeap}
def notIntA (P:Program) (t:TypeId):Bool:=match P.underlying t with|some (.int _)=>false|some _=>true|none=>false
theorem notIntA_ok {t:TypeId} (h:notIntA P t=true):∃d,P.underlying t=some d/\∀k,d≠ .int k:=by
 unfold notIntA at h
 split at h
 ·cases h
 ·rename_i d hd hu;exact⟨d,hu,fun k e=>hd k e⟩
 ·cases h
structure News (P:Program) (w:World) (sz n:Nat) (xv:Value) (news:Array Value):Prop where
 len:(Builtin.lenOf xv).run P w=.ok n w
 cells:(Builtin.firstCells sz n xv).run P w=.ok news w
 size:news.size=n*sz
theorem append_room {t u e:TypeId} {xt:TypeId} {sz n:Nat} {xv:Value} {news:Array Value} (hu:P.underlying t=some (.slice e)) (hs:(P.info? e).map (·.size)=some sz) (hx:notIntA P xt=true)
 (hn:News P w sz n xv news) {r off len cap:Nat} (hroom:len+n<=cap):
 (Builtin.append_ #[t,xt] u #[.slice (some ⟨r,off,none⟩) len cap,xv]).run P w=((storeCells ⟨r,off+len*sz,none⟩ news.toList).run P w).andThen fun _ w'=>.ok (.slice (some ⟨r,off,none⟩) (len+n) cap) w':=by
 obtain⟨d,hd,hnd⟩:=notIntA_ok hx
 have e0:(#[t,xt]:Array TypeId)[0]?=some t:=rfl
 have e1:(#[t,xt]:Array TypeId)[1]?=some xt:=rfl
 have e2:(#[Value.slice (some ⟨r,off,none⟩) len cap,xv]:Array Value)[0]?=some (.slice (some ⟨r,off,none⟩) len cap):=rfl
 have e3:(#[Value.slice (some ⟨r,off,none⟩) len cap,xv]:Array Value)[1]?=some xv:=rfl
 simp only[Builtin.append_,e0,e1,e2,e3,Sem.run_bind,run_underlying hu,Result.andThen_ok,run_sizeOf hs,run_underlying hd]
 cases d<;>first
  |exact(hnd _ rfl).elim
  |(simp only[Sem.run_pure,Result.andThen_ok,Bool.false_eq_true,if_false,hn.len,hroom,if_true,Sem.run_bind,Bool.not_false,hn.cells,addr_add])
theorem append_grow {t u e:TypeId} {xt:TypeId} {sz n b:Nat} {z:Value} {xv:Value} {news olds:Array Value} (hu:P.underlying t=some (.slice e)) (hs:(P.info? e).map (·.size)=some sz) (hb:bytesA P e=some b) (hz:zeroA P e=some z) (hx:notIntA P xt=true)
 {base:Option Addr} {len cap:Nat} (hn:∀w':World,w'.heap=w.heap->News P w' sz n xv news) (ho:∀w':World,w'.heap=w.heap->(Builtin.firstCells sz len (.slice base len cap)).run P w'=.ok olds w') (hroom:cap<len+n) (hbd:(len+n)*b<=140737488355328) (hbd':len+n<=140737488355328):
 ∃c,len+n<=c/\c<9223372036854775808/\(Builtin.append_ #[t,xt] u #[.slice base len cap,xv]).run P w=.ok (.slice (some ⟨w.heap.size,0,none⟩) (len+n) c) {w with heap:=w.heap.push (.cells (olds++news++Builtin.zeroCells z.cells (c-(len+n))) e),drawn:=w.drawn+1}:=by
 obtain⟨d,hd,hnd⟩:=notIntA_ok hx
 have e0:(#[t,xt]:Array TypeId)[0]?=some t:=rfl
 have e1:(#[t,xt]:Array TypeId)[1]?=some xt:=rfl
 have e2:(#[Value.slice base len cap,xv]:Array Value)[0]?=some (.slice base len cap):=rfl
 have e3:(#[Value.slice base len cap,xv]:Array Value)[1]?=some xv:=rfl
 have hinfo:∃i,P.info? e=some i/\i.bytes=b:=by
  unfold bytesA at hb
  cases hi':P.info? e with
  |none=>rw[hi'] at hb;cases hb
  |some i=>rw[hi'] at hb;simp at hb;exact⟨i,rfl,hb⟩
 obtain⟨inf,hinf,hbytes⟩:=hinfo
 have h1:=hn w rfl
 have hm:IntKind.i64.max=9223372036854775807:=by decide
 have hfit:=growslice_fits hroom hbd
 refine⟨(Question.appendCap (len+n) cap e).cut (w.tape w.drawn (.appendCap (len+n) cap e)),by simp[Question.cut],by
  simp only[Question.cut]
  have:=Nat.mod_lt (w.tape w.drawn (.appendCap (len+n) cap e)) (show 0<2 ^ 63-(len+n) by omega)
  omega,?_⟩
 have h2:=hn {w with drawn:=w.drawn+1} rfl
 have h3:=ho {w with drawn:=w.drawn+1} rfl
 simp only[Builtin.append_,e0,e1,e2,e3,Sem.run_bind,run_underlying hu,Result.andThen_ok,run_sizeOf hs,run_underlying hd]
 cases d<;>first
  |exact(hnd _ rfl).elim
  |(simp only[Sem.run_pure,Result.andThen_ok,Bool.false_eq_true,if_false,h1.len,Nat.not_le.2 hroom,Sem.run_bind,run_typeInfo hinf,hbytes,hm,Bool.not_false,if_true]
    rw[if_neg (by omega)]
    simp only[Sem.run_bind,run_typeInfo hinf,Result.andThen_ok,hbytes]
    rw[if_neg (by have:(2:Nat) ^ 48=281474976710656:=by decide
                  omega)]
    simp only[Sem.run_bind,run_choose,Question.forced,Bool.false_eq_true,if_false,Result.andThen_ok,run_askRoom,run_typeInfo hinf,h3,h2.cells,run_zero hz,run_newRow,Sem.run_pure])
def newsB (x:AVal) (H:AHeap) (K:List UInt8->Prop):Prop:=
 match x with
 | .str l=>K l
 | .slc id off n _=>match H.get id with
   |some (.bytes l _ _)=>gd (Nat.ble (off+n) l.length) (K ((l.drop off).take n))
   |_=>False
 | .lit (.slice none 0 0)=>K []
 | .by_ l=>K l
 | .e0=>K []
 |_=>False
theorem firstCells_bytes (l:List UInt8) (sz:Nat):(Builtin.firstCells sz l.length (.string ⟨l.toArray⟩)).run P w=.ok (l.map byteV).toArray w:=by
 have:((⟨l.toArray⟩:ByteArray).extract 0 l.length).data=l.toArray:=by
  rw[extract_str]
  simp
 simp only[Builtin.firstCells,Sem.run_pure,this]
 congr 1
 simp[byteV]
theorem newsB_ok {x:AVal} {xv:Value} {K:List UInt8->Prop} (h:newsB x H K) (hi:Inv w0 F0 ι H w) (hx:Den ι x xv):∃l,K l/\∀w':World,w'.heap=w.heap->News P w' 1 l.length xv (l.map byteV).toArray:=by
 unfold newsB at h
 split at h
 ·rename_i l
  cases hx
  exact⟨l,h,fun w' _=>⟨by simp[Builtin.lenOf,ByteArray.size],firstCells_bytes l 1,by simp⟩⟩
 ·rename_i id off n cap
  split at h
  ·rename_i l e tot hg
   obtain⟨hc,hK⟩:=gd_out h
   have hle:=ble_le hc
   obtain⟨r,o,hr,ho,hb,_⟩:=hi.blk _ _ hg
   cases hx with
   |slc hr' hl hoff hcap=>
   rename_i off' r' c'
   rw[hr] at hr';cases hr'
   have hlen:((l.drop off).take n).length=n:=by simp;omega
   refine⟨_,hK,fun w' hw'=>⟨by simp[Builtin.lenOf,hlen],?_,by simp⟩⟩
   rw[hlen]
   simp only[Builtin.firstCells,Nat.mul_one]
   have ho':w'.heap[r]?=some o:=by rw[hw'];exact ho
   rcases hoff with rfl|h0
   ·exact loadCells_bytes (ι:=ι) (b:=.bytes l e tot) hb hle ho'
   ·have:n=0:=by omega
    subst this
    simp[loadCells,loadCellsFrom]
  ·exact h.elim
 ·cases hx
  exact⟨[],h,fun w' _=>⟨by simp[Builtin.lenOf],by simp[Builtin.firstCells],by simp⟩⟩
 ·rename_i l
  cases hx with
  |by0=>
   rename_i a c
   refine⟨[],h,fun w' _=>⟨by simp[Builtin.lenOf],?_,by simp⟩⟩
   cases a with
   |none=>simp[Builtin.firstCells]
   |some a=>simp[Builtin.firstCells,loadCells,loadCellsFrom]
  |@by_ _ r c off pre rest e fz hm hl hoff=>
  have ho:=(hi.fz.frz _ _ hm).1
  subst hoff
  refine⟨l,h,fun w' hw'=>⟨by simp[Builtin.lenOf],?_,by simp⟩⟩
  simp only[Builtin.firstCells,Nat.mul_one]
  rw[run_loadCells (w:=w') (by rw[hw'];exact ho) pre.length l.length (by simp)]
  congr 2
  rw[List.drop_left,List.take_append_of_le_length (by simp)]
  rw[List.take_of_length_le (by simp)]
 ·cases hx with
  |@e0 a c=>
  refine⟨[],h,fun w' _=>⟨by simp[Builtin.lenOf],?_,by simp⟩⟩
  cases a with
  |none=>simp[Builtin.firstCells]
  |some a=>simp[Builtin.firstCells,loadCells,loadCellsFrom]
 ·exact h.elim
def nilL {α:Type}:List α->Bool
 |[]=>true
 |_=>false
def fullC:ACap->Nat->Bool
 | .n c,n=>Nat.blt c n
 |_,_=>false
theorem fullC_ok {cap:ACap} {n c:Nat} (h:fullC cap n=true) {ι:Inj} (hc:cap.den ι c):c<n:=by
 cases cap with
 |n k=>have hc:c=k:=hc;rw[hc];exact blt_lt h
 |_=>cases h
def appendBA (P:Program) (e:TypeId) (s x:AVal) (H:AHeap) (K:AVal->AHeap->Prop):Prop:=
 gd (zeroB ((zeroA P e).getD .nilFunc)&&(Nat.beq ((szA P e).getD 0) 1&&Nat.beq ((bytesA P e).getD 0) 1))
 (match s with
 | .lit (.slice none 0 0)=>newsB x H fun l=>br (nilL l) (K s H)
  (gd (Nat.ble l.length 140737488355328) (K (.slc (Nat.succ H.next) 0 l.length (.u H.next 0)) (H.nm.new (.bytes l e (.u H.next 1)))))
 | .slc id 0 len cap=>match H.get id with
   |some (.bytes old e' tot)=>newsB x H fun l=>br (fullC cap (len+l.length)) (gd (Nat.beq e' e&&(Nat.ble len old.length&&Nat.ble (len+l.length) 140737488355328))
    (K (.slc (Nat.succ H.next) 0 (len+l.length) (.u H.next 0)) (H.nm.new (.bytes (old.take len++l) e (.u H.next 1)))))<|gd (Nat.beq e' e&&(Nat.ble len old.length&&(capFits 1 cap tot&&(Nat.ble (len+l.length) 140737488355328&& !H.isRo id))))
    (K (.slc (Nat.succ H.next) 0 (len+l.length) (.u H.next 0)) ((H.nm.del id).new (.bytes (old.take len++l) e (.u H.next 1))))
   |_=>False
 |_=>False)
theorem spliceV_eq:∀(c:List Value) (n:Nat) (v:List Value),n+v.length<=c.length->spliceV c n v=c.take n++v++c.drop (n+v.length)
 |c,0,[],_=>by simp[spliceV_nil]
 |[],0,_::_,h=>by simp at h
 |c::cs,0,v::vs,h=>by
  have:=spliceV_eq cs 0 vs (by simp at h⊢;omega)
  simp only[spliceV,this]
  simp
 |[],n+1,v,h=>by simp at h
 |c::cs,n+1,v,h=>by
  have:=spliceV_eq cs n v (by simp at h⊢;omega)
  simp only[spliceV,this]
  have e:n+1+v.length=(n+v.length)+1:=by omega
  rw[e]
  simp
theorem zeroCells_len (z:Array Value) (n:Nat):(Builtin.zeroCells z n).size=n*z.size:=by simp[Builtin.zeroCells]
theorem some_getD {α:Type} {o:Option α} {d x:α} (h:o.getD d=x) (hne:d≠x):o=some x:=by
 cases o with
 |none=>exact(hne h).elim
 |some y=>simp at h;rw[h]
theorem appendB_ok {t u xt e:TypeId} {s x:AVal} {sv xv:Value} {K:AVal->AHeap->Prop} (h:appendBA P e s x H K) (hu:P.underlying t=some (.slice e)) (hxt:notIntA P xt=true) (hi:Inv w0 F0 ι H w) (hs:Den ι s sv) (hx:Den ι x xv):
 Ok w0 F0 ι K ((Builtin.append_ #[t,xt] u #[sv,xv]).run P w):=by
 obtain⟨hc,h⟩:=gd_out h
 simp only[Bool.and_eq_true] at hc
 obtain⟨hz,hsz,hby⟩:=hc
 have hsz:=some_getD (Nat.eq_of_beq_eq_true hsz) (by omega)
 have hby:=some_getD (Nat.eq_of_beq_eq_true hby) (by omega)
 have hz:zeroA P e=some (byteV 0):=some_getD (zeroB_ok hz) (by simp[byteV])
 have hzc:∀n,(Builtin.zeroCells (byteV 0).cells n).toList.length=n:=fun n=>by rw[Array.length_toList,zeroCells_len];simp[byteV,Value.cells]
 split at h
 ·cases hs
  obtain⟨l,hK,hn⟩:=newsB_ok (P:=P) h hi hx
  rcases br_out hK with⟨hnil,hK⟩|⟨hnil,hK⟩
  ·have:l=[]:=by cases l with|nil=>rfl|cons _ _=>cases hnil
   subst this
   have hrun:(Builtin.append_ #[t,xt] u #[.slice none 0 0,xv]).run P w=.ok (.slice none 0 0) w:=by
    obtain⟨d,hd,hnd⟩:=notIntA_ok hxt
    have e0:(#[t,xt]:Array TypeId)[0]?=some t:=rfl
    have e1:(#[t,xt]:Array TypeId)[1]?=some xt:=rfl
    have e2:(#[Value.slice none 0 0,xv]:Array Value)[0]?=some (.slice none 0 0):=rfl
    have e3:(#[Value.slice none 0 0,xv]:Array Value)[1]?=some xv:=rfl
    have h1:=hn w rfl
    have hl:=h1.len
    have hcl:=h1.cells
    simp only[List.length_nil] at hl hcl
    simp only[Builtin.append_,e0,e1,e2,e3,Sem.run_bind,run_underlying hu,Result.andThen_ok,run_sizeOf hsz,run_underlying hd]
    cases d<;>first
     |exact(hnd _ rfl).elim
     |(simp only[Sem.run_pure,Result.andThen_ok,Bool.false_eq_true,if_false,hl,Nat.add_zero,Nat.le_refl,if_true,Bool.not_false,Sem.run_bind,hcl])
   rw[hrun]
   exact⟨_,_,ι,hK,.lit,Inj.le_refl _,hi⟩
  ·obtain⟨hb,hK⟩:=gd_out hK
   have hb:=ble_le hb
   have hpos:0<l.length:=by cases l with|nil=>cases hnil|cons _ _=>simp
   obtain⟨c,hcge,hc63,hrun⟩:=append_grow (P:=P) (w:=w) (u:=u) (base:=none) (len:=0) (cap:=0) (olds:=#[]) hu hsz hby hz hxt hn (fun w' _=>by simp[Builtin.firstCells]) (by omega) (by omega) (by omega)
   rw[hrun]
   rw[Nat.zero_add] at hcge
   obtain⟨ι1,hle1,hn1,hd0⟩:=(hi.drew (w.drawn+1)).name c
   obtain⟨ι',hle,hnn,hinv⟩:=hd0.new (b:=.bytes l e (.u H.next 1)) (o:=.cells (#[]++(l.map byteV).toArray++Builtin.zeroCells (byteV 0).cells (c-(0+l.length))) e (0,0))
    ⟨(Builtin.zeroCells (byteV 0).cells (c-(0+l.length))).toList,(0,0),by simp[←Array.toList_inj],⟨c,hn1,by rw[hzc];omega⟩,fun k _ hh=>by simp at hh⟩
   refine⟨_,_,ι',hK,?_,Inj.le_trans hle1 hle,hinv⟩
   rw[Nat.zero_add]
   exact .slc hnn hcge (.inl rfl) ⟨c,hle _ _ hn1,hc63,rfl⟩
 ·rename_i id len cap _
  split at h
  ·rename_i old e' tot hg
   obtain⟨r,o,hr,ho,hbd,hf⟩:=hi.blk _ _ hg
   cases hs with
   |slc hr' hl hoff hcapd=>
   rename_i off' r' cap'
   rw[hr] at hr';cases hr'
   obtain⟨l,hK,hn⟩:=newsB_ok (P:=P) h hi hx
   rcases br_out hK with⟨hfull,hK⟩|⟨_,hK⟩
   ·obtain⟨hc,hK⟩:=gd_out hK
    simp only[Bool.and_eq_true] at hc
    have h0:=Nat.eq_of_beq_eq_true hc.1
    subst h0
    have h1:=ble_le hc.2.1
    have h3:=ble_le hc.2.2
    have hroom:=fullC_ok hfull hcapd
    obtain⟨c,hcge,hc63,hrun⟩:=append_grow (P:=P) (w:=w) (u:=u) (base:=some ⟨r,off',none⟩) (len:=len) (cap:=cap') (olds:=((old.take len).map byteV).toArray) hu hsz hby hz hxt hn (fun w' hw'=>by
     simp only[Builtin.firstCells,Nat.mul_one]
     have ho':w'.heap[r]?=some o:=by rw[hw'];exact ho
     rcases hoff with rfl|h0
     ·have:=loadCells_bytes (P:=P) (b:=.bytes old e' tot) (off:=0) (len:=len) hbd (by omega) ho'
      simpa using this
     ·have:len=0:=by omega
      subst this
      simp[loadCells,loadCellsFrom]) (by omega) (by omega) (by omega)
    rw[hrun]
    obtain⟨ι1,hle1,hn1,hd0⟩:=(hi.drew (w.drawn+1)).name c
    obtain⟨ι',hle,hnn,hinv⟩:=hd0.new (b:=.bytes (old.take len++l) e' (.u H.next 1)) (o:=.cells (((old.take len).map byteV).toArray++(l.map byteV).toArray++Builtin.zeroCells (byteV 0).cells (c-(len+l.length))) e' (0,0))
     ⟨(Builtin.zeroCells (byteV 0).cells (c-(len+l.length))).toList,(0,0),by simp[←Array.toList_inj],⟨c,hn1,by rw[hzc];simp;omega⟩,fun k _ hh=>by simp at hh⟩
    exact⟨_,_,ι',hK,.slc hnn hcge (.inl rfl) ⟨c,hle _ _ hn1,hc63,rfl⟩,Inj.le_trans hle1 hle,hinv⟩
   obtain⟨hc,hK⟩:=gd_out hK
   simp only[Bool.and_eq_true] at hc
   have h0:=Nat.eq_of_beq_eq_true hc.1
   subst h0
   have h1:=ble_le hc.2.1
   have h2:=hc.2.2.1
   have h3:=ble_le hc.2.2.2.1
   have hro:H.isRo id=false:=by simpa using hc.2.2.2.2
   by_cases hroom:len+l.length<=cap'
   ·obtain⟨rest,fz,rfl,ht,hfz⟩:=hbd
    have hrun:=append_room (P:=P) (u:=u) hu hsz hxt (hn w rfl) (r:=r) (off:=off') (len:=len) (cap:=cap') hroom
    have hc63:=capFits_63 h2 hcapd
    have h2:=capFits_ok h2 hcapd ht
    rw[Nat.mul_one] at h2
    have hlen:cap'<=(old.map byteV++rest).length:=by simp;omega
    have hlen2:(old.map byteV++rest).length=old.length+rest.length:=by simp
    have hst:((storeCells ⟨r,off'+len*1,none⟩ ((l.map byteV).toArray).toList).run P w)=.ok () (setBlk w r (.cells (spliceV (old.map byteV++rest) len (l.map byteV)).toArray e' fz)):=by
     rcases hoff with rfl|hcap
     ·have:=run_storeCells (P:=P) (r:=r) (off:=len) (e:=e') (fz:=fz) (l.map byteV) 0 w (old.map byteV++rest) ho (by rw[List.length_map];omega) (fun k hk1 hk2=>hfz k (by simp at hk2;omega)) (by intro v hv;simp at hv;obtain⟨b,_,rfl⟩:=hv;rfl)
      simpa using this
     ·have hl0:l=[]:=by cases l with|nil=>rfl|cons _ _=>simp at hroom;omega
      subst hl0
      simp only[List.map_nil,storeCells,Sem.run_pure,spliceV_nil]
      rw[setBlk_self ho]
    rw[hst] at hrun
    simp only[Result.andThen_ok] at hrun
    rw[hrun]
    obtain⟨ι1,hle1,hn1,hi1⟩:=hi.name cap'
    obtain⟨ι',hle,hnn,hinv⟩:=hi1.rebind (id:=id) hg (hle1 _ _ hr) hro (b':=.bytes (old.take len++l) e' (.u H.next 1)) (o':=.cells (spliceV (old.map byteV++rest) len (l.map byteV)).toArray e' fz) (w':=setBlk w r (.cells (spliceV (old.map byteV++rest) len (l.map byteV)).toArray e' fz)) (fun ι' hle'=>
     ⟨(old.map byteV++rest).drop (len+l.length),fz,by
       rw[spliceV_eq _ _ _ (by rw[List.length_map];omega),List.take_append_of_le_length (by simpa using h1)]
       simp[List.map_take],⟨cap',hle' _ _ hn1,by simp;omega⟩,fun k hk=>hfz k (by simp at hk;omega)⟩) (setBlk_get ho) (fun k hk=>setBlk_other hk) setBlk_size rfl rfl rfl
    refine⟨_,_,ι',hK,.slc hnn hroom ?_ ⟨cap',hle _ _ hn1,hc63,rfl⟩,Inj.le_trans hle1 hle,hinv⟩
    rcases hoff with ho'|ho'
    ·exact .inl ho'
    ·exact .inr ho'
   ·obtain⟨c,hcge,hc63,hrun⟩:=append_grow (P:=P) (w:=w) (u:=u) (base:=some ⟨r,off',none⟩) (len:=len) (cap:=cap') (olds:=((old.take len).map byteV).toArray) hu hsz hby hz hxt hn (fun w' hw'=>by
     simp only[Builtin.firstCells,Nat.mul_one]
     have ho':w'.heap[r]?=some o:=by rw[hw'];exact ho
     rcases hoff with rfl|h0
     ·have:=loadCells_bytes (P:=P) (b:=.bytes old e' tot) (off:=0) (len:=len) hbd (by omega) ho'
      simpa using this
     ·have:len=0:=by omega
      subst this
      simp[loadCells,loadCellsFrom]) (by omega) (by omega) (by omega)
    rw[hrun]
    obtain⟨ι1,hle1,hn1,hd1⟩:=(hi.drew (w.drawn+1)).name c
    have hd0:=hd1.del id
    obtain⟨ι',hle,hnn,hinv⟩:=hd0.new (b:=.bytes (old.take len++l) e' (.u H.next 1)) (o:=.cells (((old.take len).map byteV).toArray++(l.map byteV).toArray++Builtin.zeroCells (byteV 0).cells (c-(len+l.length))) e' (0,0))
     ⟨(Builtin.zeroCells (byteV 0).cells (c-(len+l.length))).toList,(0,0),by simp[←Array.toList_inj],⟨c,hn1,by rw[hzc];simp;omega⟩,fun k _ hh=>by simp at hh⟩
    exact⟨_,_,ι',hK,.slc hnn hcge (.inl rfl) ⟨c,hle _ _ hn1,hc63,rfl⟩,Inj.le_trans hle1 hle,hinv⟩
  ·exact h.elim
 ·exact h.elim
def newsR (sz:Nat) (x:AVal) (H:AHeap) (K:Nat->List AVal->Prop):Prop:=
 match x with
 | .slc id off n _=>match H.get id with
   |some (.row cs _ _)=>gd (Nat.ble (off+n*sz) cs.length) (K n ((cs.drop off).take (n*sz)))
   |_=>False
 | .lit (.slice none 0 0)=>K 0 []
 | .ssl x off n=>match H.st x with
   |some (.row cs _ _)=>gd (Nat.ble (off+n*sz) cs.length) (K n ((cs.drop off).take (n*sz)))
   |_=>False
 | .e0=>K 0 []
 |_=>False
theorem loadCells_row {cs:List AVal} {e:TypeId} {tot:ATot} {o:Obj} {off len r:Nat} (hb:BDen ι (.row cs e tot) o) (hle:off+len<=cs.length) (hw:w.heap[r]?=some o):
 ∃vs,DenL ι ((cs.drop off).take len) vs/\vs.length=len/\∀w':World,w'.heap=w.heap->(loadCells ⟨r,off,none⟩ len).run P w'=.ok vs.toArray w':=by
 obtain⟨c,rest,rfl,hd,_⟩:=hb
 have hl:=hd.length
 refine⟨(c.drop off).take len,(hd.drop off).take len,by simp;omega,fun w' hw'=>?_⟩
 rw[run_loadCells (w:=w') (c:=(c++rest).toArray) (e:=e) (fz:=(0,0)) (by rw[hw'];exact hw) off len (by simp;omega)]
 congr 2
 simp only[List.drop_append]
 rw[List.take_append_of_le_length (by simp;omega)]
theorem newsR_ok {sz:Nat} {x:AVal} {xv:Value} {K:Nat->List AVal->Prop} (h:newsR sz x H K) (hi:Inv w0 F0 ι H w) (hx:Den ι x xv):∃n l vs,K n l/\DenL ι l vs/\vs.length=n*sz/\∀w':World,w'.heap=w.heap->News P w' sz n xv vs.toArray:=by
 unfold newsR at h
 split at h
 ·rename_i id off n cap
  split at h
  ·rename_i cs e tot hg
   obtain⟨hc,hK⟩:=gd_out h
   have hle:=ble_le hc
   obtain⟨r,o,hr,ho,hb,_⟩:=hi.blk _ _ hg
   cases hx with
   |slc hr' hl hoff hcap=>
   rename_i off' r' c'
   rw[hr] at hr';cases hr'
   obtain⟨vs,hd,hvl,hrun⟩:=loadCells_row (P:=P) hb hle ho
   refine⟨n,_,vs,hK,hd,hvl,fun w' hw'=>⟨by simp[Builtin.lenOf],?_,by simpa using hvl⟩⟩
   simp only[Builtin.firstCells]
   rcases hoff with rfl|h0
   ·exact hrun w' hw'
   ·have:n=0:=by omega
    subst this
    have:vs=[]:=by simpa using hvl
    subst this
    simp[loadCells,loadCellsFrom]
  ·exact h.elim
 ·cases hx
  exact⟨0,[],[],h,.nil,by simp,fun w' _=>⟨by simp[Builtin.lenOf],by simp[Builtin.firstCells],by simp⟩⟩
 ·rename_i x off n
  split at h
  ·rename_i cs e tot hg
   obtain⟨hc,hK⟩:=gd_out h
   have hle:=ble_le hc
   cases hx with
   |ssl had hl=>
   obtain⟨o,_,ho,hb⟩:=hi.stat hg had
   obtain⟨vs,hd,hvl,hrun⟩:=loadCells_row (P:=P) hb hle ho
   refine⟨n,_,vs,hK,hd,hvl,fun w' hw'=>⟨by simp[Builtin.lenOf],?_,by simpa using hvl⟩⟩
   simp only[Builtin.firstCells]
   exact hrun w' hw'
  ·exact h.elim
 ·cases hx with
  |@e0 a c=>
  refine⟨0,[],[],h,.nil,by simp,fun w' _=>⟨by simp[Builtin.lenOf],?_,by simp⟩⟩
  cases a with
  |none=>simp[Builtin.firstCells]
  |some a=>simp[Builtin.firstCells,loadCells,loadCellsFrom]
 ·exact h.elim
def isZero:Nat->Bool
 |0=>true
 |_=>false
def fitsC:ACap->Nat->Bool
 | .n c,k=>Nat.ble k c
 |_,_=>false
theorem fitsC_ok {cap:ACap} {k c:Nat} (h:fitsC cap k=true) (hc:cap.den ι c):k<=c:=by
 cases cap with
 |n m=>have hc:c=m:=hc;rw[hc];exact ble_le h
 |_=>cases h
def appendFA (P:Program) (e:TypeId) (s:AVal) (g:Nat->AVal) (m:Nat) (H:AHeap) (K:AVal->AHeap->Prop):Prop:=
 match szA P e,bytesA P e,zeroA P e with
 |some 1,some b,some z=>match s with
  | .slc id 0 len cap=>gd (Nat.beq z.cells.size 1&&(Nat.ble ((len+m)*b) 140737488355328&&(Nat.ble (len+m) 140737488355328&& !H.isRo id))) ((∀k,k<m->oneA (g k)=true)/\match H.get id with
    |some (.row [] e' tot)=>gd (Nat.beq e' e&&(Nat.beq len 0&&capFits 1 cap tot))
     (K (.slc (Nat.succ H.next) 0 (len+m) (.u H.next 0)) ((H.nm.del id).new (.fam g m [] [] e (.u H.next 1))))
    |some (.fam f k us [] e' tot)=>br (fitsC cap (len+m)&&Nat.ble (len+m) k) (gd (Nat.beq e' e&&capFits 1 cap tot) (K (.slc id 0 (len+m) cap) (H.set id (.fam (fun i=>.ite (Nat.blt i len) (famAt f us i) (.ite (Nat.blt i (len+m)) (g (i-len)) (famAt f us i))) k [] [] e tot))))
     (gd (nilL us&&(Nat.beq e' e&&(Nat.beq len k&&capFits 1 cap tot))) (K (.slc (Nat.succ H.next) 0 (len+m) (.u H.next 0)) ((H.nm.del id).new (.fam (fun i=>.ite (Nat.blt i k) (f i) (g (i-k))) (len+m) [] [] e (.u H.next 1)))))
    |some (.fam f k [] ys e' tot)=>gd (Nat.beq e' e&&(Nat.beq len (k+ys.length)&&capFits 1 cap tot)) (match ys with
     |[v]=>K (.slc (Nat.succ H.next) 0 (len+m) (.u H.next 0)) ((H.nm.del id).new (.fam (fun i=>.ite (Nat.blt i k) (f i) (g (i-Nat.succ k))) (len+m) [(k,v)] [] e (.u H.next 1)))
     |_=>False)
    |_=>False)
  |_=>False
 |_,_,_=>False
def famSrc (x:AVal) (H:AHeap):Option ((Nat->AVal)×Nat×Bool):=match x with
 | .fam g m=>some (g,m,true)
 | .slc j off m _=>match H.get j with
   |some (.fam g k us _ _ _)=>some (fun i=>famAt g us (off+i),m,Nat.ble (off+m) k)
   |_=>none
 |_=>none
def appendRA (P:Program) (e:TypeId) (s x:AVal) (H:AHeap) (K:AVal->AHeap->Prop):Prop:=
 match famSrc x H with
 |some (g,m,c)=>gd c (appendFA P e s g m H K)
 |none=>match szA P e,bytesA P e,zeroA P e with
 |some (sz+1),some b,some z=>gd (Nat.beq z.cells.size (sz+1))
  (match s with
  | .lit (.slice none 0 0)=>newsR (sz+1) x H fun n l=>br (isZero n) (K s H)
   (gd (Nat.ble (n*b) 140737488355328&&Nat.ble n 140737488355328) (K (.slc (Nat.succ H.next) 0 n (.u H.next 0)) (H.nm.new (.row l e (.u H.next (sz+1))))))
  | .e0=>newsR (sz+1) x H fun n _=>gd (isZero n) (K .e0 H)
  | .famx f m=>newsR (sz+1) x H fun n l=>gd (Nat.beq sz 0&&(!isZero n&&(Nat.ble ((m+n)*b) 140737488355328&&Nat.ble (m+n) 140737488355328)))
   (K (.slc (Nat.succ H.next) 0 (m+n) (.u H.next 0)) (H.nm.new (.fam f m [] l e (.u H.next 1))))
  | .slc id 0 len cap=>match H.get id with
    |some (.row old e' tot)=>newsR (sz+1) x H fun n l=>gd (Nat.beq e' e&&(Nat.ble (len*(sz+1)) old.length&&(capFits (sz+1) cap tot&&(Nat.ble ((len+n)*b) 140737488355328&&(Nat.ble (len+n) 140737488355328&&(l.all oneA&& !H.isRo id))))))
     (br (fitsC cap (len+n)) (K (.slc id 0 (len+n) cap) (H.set id (.row (old.take (len*(sz+1))++l) e tot)))
      (K (.slc (Nat.succ H.next) 0 (len+n) (.u H.next 0)) ((H.nm.del id).new (.row (old.take (len*(sz+1))++l) e (.u H.next (sz+1))))))
    |some (.fam f m us ys e' tot)=>newsR (sz+1) x H fun n l=>gd (Nat.beq sz 0&&(Nat.beq e' e&&(Nat.beq len (m+ys.length)&&(capFits 1 cap tot&&(Nat.ble ((len+n)*b) 140737488355328&&(Nat.ble (len+n) 140737488355328&&(l.all oneA&& !H.isRo id)))))))
     (br (fitsC cap (len+n)) (K (.slc id 0 (len+n) cap) (H.set id (.fam f m us (ys++l) e tot)))
      (K (.slc (Nat.succ H.next) 0 (len+n) (.u H.next 0)) ((H.nm.del id).new (.fam f m us (ys++l) e (.u H.next 1)))))
    |some (.famw f wd m xs e' tot)=>newsR (sz+1) x H fun n l=>gd (Nat.beq wd (sz+1)&&(Nat.beq e' e&&(nilL xs&&(Nat.beq len m&&(capFits (sz+1) cap tot&&(Nat.ble ((len+n)*b) 140737488355328&&(Nat.ble (len+n) 140737488355328&&(l.all oneA&& !H.isRo id))))))))
     (K (.slc (Nat.succ H.next) 0 (len+n) (.u H.next 0)) ((H.nm.del id).new (.famw f wd m l e (.u H.next (sz+1)))))
    |_=>False
  |_=>False)
 |_,_,_=>False
theorem append_here {t u xt e:TypeId} {off' len cap' r n sz:Nat} {xv:Value} {olds vs rest:List Value} (hu:P.underlying t=some (.slice e)) (hsz:szA P e=some (sz+1)) (hxt:notIntA P xt=true)
 (ho:w.heap[r]?=some (.cells (olds++rest).toArray e (0,0))) (hol:olds.length=len*(sz+1)) (hoff:off'=0\/cap'=0) (hcap:cap'*(sz+1)<=(olds++rest).length)
 (hvl:vs.length=n*(sz+1)) (hone:∀x∈vs,x.oneCell'=true) (hn:News P w (sz+1) n xv vs.toArray) (hroom:len+n<=cap'):
 (Builtin.append_ #[t,xt] u #[.slice (some ⟨r,off',none⟩) len cap',xv]).run P w=.ok (.slice (some ⟨r,off',none⟩) (len+n) cap') (setBlk w r (.cells (olds++vs++rest.drop vs.length).toArray e (0,0))):=by
 have hmul:(len+n)*(sz+1)<=cap'*(sz+1):=Nat.mul_le_mul_right _ hroom
 rw[Nat.add_mul] at hmul
 have hrun:=append_room (P:=P) (u:=u) hu hsz hxt hn (r:=r) (off:=off') (len:=len) (cap:=cap') hroom
 have hst:((storeCells ⟨r,off'+len*(sz+1),none⟩ (vs.toArray).toList).run P w)=.ok () (setBlk w r (.cells (olds++vs++rest.drop vs.length).toArray e (0,0))):=by
  have hsp:spliceV (olds++rest) (len*(sz+1)) vs=olds++vs++rest.drop vs.length:=by
   rw[spliceV_eq _ _ _ (by omega),←hol,List.take_left,List.drop_append]
   simp
  rcases hoff with rfl|hcap0
  ·have:=run_storeCells (P:=P) (r:=r) (off:=len*(sz+1)) (e:=e) (fz:=(0,0)) vs 0 w (olds++rest) ho (by omega) (fun k hk1 hk2 hh=>by simp at hh) hone
   simp only[Nat.add_zero] at this
   rw[hsp] at this
   simpa using this
  ·have hn0:n=0:=by omega
   subst hn0
   have:vs=[]:=by simpa using hvl
   subst this
   simp only[storeCells,Sem.run_pure]
   rw[setBlk_self (by simpa using ho)]
 rw[hst] at hrun
 simpa only[Result.andThen_ok] using hrun
theorem append_core {t u xt e:TypeId} {id off' len cap' r n sz bb:Nat} {z xv:Value} {olds vs rest:List Value} {bk b':ABlk} {K:AVal->AHeap->Prop} (hu:P.underlying t=some (.slice e)) (hsz:szA P e=some (sz+1)) (hby:bytesA P e=some bb) (hz:zeroA P e=some z)
 (hzl:∀n,(Builtin.zeroCells z.cells n).toList.length=n*(sz+1)) (hxt:notIntA P xt=true) (hi:Inv w0 F0 ι H w) (hg:H.get id=some bk) (hr:ι id=some r) (hro:H.isRo id=false)
 (ho:w.heap[r]?=some (.cells (olds++rest).toArray e (0,0))) (hol:olds.length=len*(sz+1)) (hoff:off'=0\/cap'=0) (hl:len<=cap') (hcap:cap'*(sz+1)<=(olds++rest).length) (hc63:cap'<9223372036854775808)
 (hvl:vs.length=n*(sz+1)) (hone:∀x∈vs,x.oneCell'=true) (hn:∀w':World,w'.heap=w.heap->News P w' (sz+1) n xv vs.toArray) (h3:(len+n)*bb<=140737488355328) (h4:len+n<=140737488355328)
 (hb':∀(ι':Inj) (c:Nat) (rest':List Value),ι.le ι'->ι' H.next=some c->c*(sz+1)<=(olds++vs++rest').length->BDen ι' b' (.cells (olds++vs++rest').toArray e (0,0)))
 (hK:K (.slc (Nat.succ H.next) 0 (len+n) (.u H.next 0)) ((H.nm.del id).new b')):Ok w0 F0 ι K ((Builtin.append_ #[t,xt] u #[.slice (some ⟨r,off',none⟩) len cap',xv]).run P w):=by
 by_cases hroom:len+n<=cap'
 ·have hmul:(len+n)*(sz+1)<=cap'*(sz+1):=Nat.mul_le_mul_right _ hroom
  rw[Nat.add_mul] at hmul
  rw[append_here hu hsz hxt ho hol hoff hcap hvl hone (hn w rfl) hroom]
  obtain⟨ι1,hle1,hn1,hi1⟩:=hi.name cap'
  obtain⟨ι',hle,hnn,hinv⟩:=hi1.rebind (id:=id) hg (hle1 _ _ hr) hro (b':=b') (o':=.cells (olds++vs++rest.drop vs.length).toArray e (0,0)) (w':=setBlk w r (.cells (olds++vs++rest.drop vs.length).toArray e (0,0))) (fun ι' hi'=>
   hb' ι' cap' _ (Inj.le_trans hle1 hi') (hi' _ _ hn1) (by simp at hcap⊢;omega)) (setBlk_get ho) (fun k hk=>setBlk_other hk) setBlk_size rfl rfl rfl
  refine⟨_,_,ι',hK,.slc hnn hroom ?_ ⟨cap',hle _ _ hn1,hc63,rfl⟩,Inj.le_trans hle1 hle,hinv⟩
  rcases hoff with ho'|ho'
  ·exact .inl ho'
  ·exact .inr ho'
 ·obtain⟨c,hcge,hc63',hrun⟩:=append_grow (P:=P) (w:=w) (u:=u) (base:=some ⟨r,off',none⟩) (len:=len) (cap:=cap') (olds:=olds.toArray) hu hsz hby hz hxt hn (fun w' hw'=>by
   simp only[Builtin.firstCells]
   rcases hoff with rfl|h0
   ·rw[run_loadCells (w:=w') (c:=(olds++rest).toArray) (e:=e) (fz:=(0,0)) (by rw[hw'];exact ho) 0 (len*(sz+1)) (by simp;omega)]
    congr 2
    rw[List.drop_zero,←hol,List.take_left]
   ·have:len=0:=by omega
    subst this
    have:olds=[]:=by simpa using hol
    subst this
    simp[loadCells,loadCellsFrom]) (by omega) h3 h4
  rw[hrun]
  obtain⟨ι1,hle1,hn1,hd1⟩:=(hi.drew (w.drawn+1)).name c
  have hd0:=hd1.del id
  have hbd:=fun ι' (hle:ι1.le ι')=>hb' ι' c (Builtin.zeroCells z.cells (c-(len+n))).toList (Inj.le_trans hle1 hle) (hle.f _ _ hn1) (by
   rw[List.length_append,List.length_append,hzl,hol,hvl,←Nat.add_mul,←Nat.add_mul]
   exact Nat.mul_le_mul_right _ (by omega))
  have hobj:(olds.toArray++vs.toArray++Builtin.zeroCells z.cells (c-(len+n)))=(olds++vs++(Builtin.zeroCells z.cells (c-(len+n))).toList).toArray:=by simp[←Array.toList_inj]
  rw[hobj]
  obtain⟨ι',hle,hnn,hinv⟩:=hd0.new (hbd ι1 (Inj.le_refl _))
  exact⟨_,_,ι',hK,.slc hnn hcge (.inl rfl) ⟨c,hle _ _ hn1,hc63',rfl⟩,Inj.le_trans hle1 hle,hinv⟩
theorem famNews0 {g:Nat->AVal} {m:Nat} {xv:Value} (hi:Inv w0 F0 ι H w) (hx:Den ι (.fam g m) xv):∃vs:List Value,vs.length=m/\(∀k v,vs[k]?=some v->Den ι (g k) v)/\∀w':World,w'.heap=w.heap->News P w' 1 m xv vs.toArray:=by
 cases hx with
 |@fam _ _ r c off pre vs rest e fz hm hn hv hl ho=>
  have hh:=(hi.fz.frz _ _ hm).1
  subst ho
  refine⟨vs,hn,hv,fun w' hw'=>⟨by simp[Builtin.lenOf],?_,by simp;omega⟩⟩
  simp only[Builtin.firstCells,Nat.mul_one]
  rw[run_loadCells (w:=w') (by rw[hw'];exact hh) pre.length m (by simp;omega)]
  congr 2
  rw[List.drop_left,←hn,List.take_left]
 |@fam0 _ a c=>
  refine⟨[],rfl,fun k v hk=>by simp at hk,fun w' hw'=>⟨by simp[Builtin.lenOf],?_,by simp⟩⟩
  cases a with
  |none=>simp[Builtin.firstCells]
  |some a=>simp[Builtin.firstCells,loadCells,loadCellsFrom]
theorem famNews {x:AVal} {g:Nat->AVal} {m:Nat} {c:Bool} {xv:Value} (hs:famSrc x H=some (g,m,c)) (hc:c=true) (hi:Inv w0 F0 ι H w) (hx:Den ι x xv):∃vs:List Value,vs.length=m/\(∀k v,vs[k]?=some v->Den ι (g k) v)/\∀w':World,w'.heap=w.heap->News P w' 1 m xv vs.toArray:=by
 unfold famSrc at hs
 split at hs
 ·cases hs
  exact famNews0 hi hx
 ·rename_i j off m' cap
  split at hs
  ·rename_i g' k us ys e tot hg
   cases hs
   have hle:=ble_le hc
   obtain⟨r,o,hr,ho,hb,_⟩:=hi.blk _ _ hg
   cases hx with
   |slc hr' hl hoff hcap=>
   rename_i off' r' c'
   rw[hr] at hr';cases hr'
   obtain⟨vs,yv,rest,rfl,hn,hv,hy,ht⟩:=hb
   refine⟨(vs.drop off).take m,by simp;omega,fun i v hi'=>?_,fun w' hw'=>⟨by simp[Builtin.lenOf],?_,by simp;omega⟩⟩
   ·exact hv _ _ (take_drop_get hi')
   ·simp only[Builtin.firstCells,Nat.mul_one]
    rcases hoff with rfl|h0
    ·rw[run_loadCells (w:=w') (by rw[hw'];exact ho) off' m (by simp;omega)]
     congr 2
     simp only[List.append_assoc,List.drop_append]
     rw[List.take_append_of_le_length (by simp;omega)]
    ·have:m=0:=by omega
     subst this
     simp[loadCells,loadCellsFrom]
  ·cases hs
 ·cases hs
theorem fam_one {g:Nat->AVal} {m:Nat} {vs:List Value} (hl:vs.length=m) (hv:∀k v,vs[k]?=some v->Den ι (g k) v) (h:∀k,k<m->oneA (g k)=true):∀x∈vs,x.oneCell'=true:=by
 intro x hx
 obtain⟨k,hk,rfl⟩:=List.getElem_of_mem hx
 exact(hv k _ (List.getElem?_eq_getElem hk)).one (h k (by omega))
theorem zero_len {z:Value} {sz:Nat} (h:z.cells.size=sz+1) (n:Nat):(Builtin.zeroCells z.cells n).toList.length=n*(sz+1):=by rw[Array.length_toList,zeroCells_len,h]
theorem appendF_ok {t u xt e:TypeId} {s x:AVal} {g:Nat->AVal} {m:Nat} {cc:Bool} {sv xv:Value} {K:AVal->AHeap->Prop} (h:appendFA P e s g m H K) (hsrc:famSrc x H=some (g,m,cc)) (hcc:cc=true) (hu:P.underlying t=some (.slice e)) (hxt:notIntA P xt=true) (hi:Inv w0 F0 ι H w) (hs:Den ι s sv) (hx:Den ι x xv):
 Ok w0 F0 ι K ((Builtin.append_ #[t,xt] u #[sv,xv]).run P w):=by
 unfold appendFA at h
 split at h<;>try exact h.elim
 rename_i b z hsz hby hz
 split at h<;>try exact h.elim
 rename_i id len cap
 obtain⟨hc,hall,h⟩:=gd_out h
 simp only[Bool.and_eq_true,Bool.not_eq_true'] at hc
 obtain⟨hzc,h3,h4,hro⟩:=hc
 have hzl:=zero_len (z:=z) (sz:=0) (Nat.eq_of_beq_eq_true hzc)
 have h3:=ble_le h3
 have h4:=ble_le h4
 obtain⟨vs,hvl,hv,hn⟩:=famNews (P:=P) hsrc hcc hi hx
 have hone:=fam_one hvl hv hall
 cases hs with
 |slc hr hl hoff hcapd=>
 rename_i off' r cap'
 split at h<;>try exact h.elim
 ·rename_i e' tot hg
  obtain⟨hc,hK⟩:=gd_out h
  simp only[Bool.and_eq_true] at hc
  have he:=Nat.eq_of_beq_eq_true hc.1
  have hl0:=Nat.eq_of_beq_eq_true hc.2.1
  subst he;subst hl0
  obtain⟨r',o,hr',ho,hbd,_⟩:=hi.blk _ _ hg
  rw[hr] at hr';cases hr'
  obtain⟨c,rest,rfl,hd,ht⟩:=hbd
  cases hd
  have hcf:=capFits_ok hc.2.2 hcapd ht
  refine append_core (sz:=0) (olds:=[]) (rest:=rest) (vs:=vs) hu hsz hby hz hzl hxt hi hg hr hro ho rfl hoff hl (by simpa using hcf) (capFits_63 hc.2.2 hcapd) (by omega) hone hn h3 h4 (fun ι' c rest' hle hnx hlen=>?_) hK
  exact⟨vs,[],rest',by simp,hvl,fun k v hk=>(hv k v hk).mono hle,.nil,c,hnx,by simp at hlen⊢;omega⟩
 ·rename_i f k us e' tot hg
  obtain⟨r',o,hr',ho,hbd,_⟩:=hi.blk _ _ hg
  rw[hr] at hr';cases hr'
  obtain⟨c,yv,rest,rfl,hck,hcv,hyd,ht⟩:=hbd
  cases hyd
  rcases br_out h with⟨hfit,h⟩|⟨_,h⟩
  ·simp only[Bool.and_eq_true] at hfit
   have hroom:=fitsC_ok hfit.1 hcapd
   have hlk:=ble_le hfit.2
   obtain⟨hc,hK⟩:=gd_out h
   simp only[Bool.and_eq_true] at hc
   have he:=Nat.eq_of_beq_eq_true hc.1
   subst he
   have hcf:=capFits_ok hc.2 hcapd ht
   have hsplit:c++[]++rest=c.take len++(c.drop len++rest):=by rw[←List.append_assoc,List.take_append_drop,List.append_nil]
   rw[hsplit] at ho
   rw[append_here (sz:=0) (olds:=c.take len) hu hsz hxt ho (by simp;omega) hoff (by simp at hcf⊢;omega) (by omega) hone (hn w rfl) hroom]
   refine⟨_,_,ι,hK,.slc hr hroom hoff hcapd,Inj.le_refl _,?_⟩
   have hdr:(c.drop len++rest).drop vs.length=c.drop (len+m)++rest:=by
    rw[List.drop_append_of_le_length (by simp;omega),List.drop_drop,hvl]
   refine Inv.set hi hg hr hro ?_ (setBlk_get ho) (fun k hk=>setBlk_other hk) setBlk_size rfl rfl rfl
   refine⟨c.take len++vs++c.drop (len+m),[],rest,by rw[hdr];simp,by simp;omega,fun i v hk=>?_,.nil,?_⟩
   ·simp only[famAt]
    refine .ite (fun hb=>?_) (fun hb=>.ite (fun hb2=>?_) (fun hb2=>?_))
    ·have hb:=blt_lt hb
     rw[List.append_assoc,List.getElem?_append_left (by simp;omega),List.getElem?_take,if_pos hb] at hk
     exact hcv i v hk
    ·have hb2:=blt_lt hb2
     have hb:len<=i:=by
      rcases Nat.lt_or_ge i len with h'|h'
      ·rw[show Nat.blt i len=true from Nat.ble_eq_true_of_le h'] at hb;cases hb
      ·exact h'
     have hct:(c.take len).length=len:=by simp;omega
     rw[List.append_assoc,List.getElem?_append_right (by omega),List.getElem?_append_left (by omega),hct] at hk
     exact hv _ v hk
    ·have hb2:len+m<=i:=by
      rcases Nat.lt_or_ge i (len+m) with h'|h'
      ·rw[show Nat.blt i (len+m)=true from Nat.ble_eq_true_of_le h'] at hb2;cases hb2
      ·exact h'
     have hct:(c.take len++vs).length=len+m:=by simp;omega
     rw[List.getElem?_append_right (by omega),hct,List.getElem?_drop] at hk
     have e1:len+m+(i-(len+m))=i:=by omega
     rw[e1] at hk
     exact hcv i v hk
   ·have e1:(c.take len++vs++c.drop (len+m)).length+([]:List Value).length+rest.length=c.length+([]:List Value).length+rest.length:=by simp;omega
    rw[e1];exact ht
  ·obtain⟨hc,hK2⟩:=gd_out h
   clear h
   simp only[Bool.and_eq_true] at hc
   have hus:us=[]:=by
    cases us with
    |nil=>rfl
    |cons _ _=>have:=hc.1;cases this
   subst hus
   have he:=Nat.eq_of_beq_eq_true hc.2.1
   have hl0:=Nat.eq_of_beq_eq_true hc.2.2.1
   subst he
   have hcf:=capFits_ok hc.2.2.2 hcapd ht
   refine append_core (sz:=0) (olds:=c) (rest:=rest) (vs:=vs) hu hsz hby hz hzl hxt hi hg hr hro (by simpa using ho) (by omega) hoff hl (by simp at hcf⊢;omega) (capFits_63 hc.2.2.2 hcapd) (by omega) hone hn h3 h4 (fun ι' c2 rest' hle hnx hlen=>?_) hK2
   refine⟨c++vs,[],rest',by simp,by simp;omega,fun i v hk=>?_,.nil,c2,hnx,by simp at hlen⊢;omega⟩
   simp only[famAt]
   refine .ite (fun hb=>?_) (fun hb=>?_)
   ·have hb:=blt_lt hb
    rw[List.getElem?_append_left (by omega)] at hk
    exact(hcv i v hk).mono hle
   ·have hb:k<=i:=by
     rcases Nat.lt_or_ge i k with h'|h'
     ·rw[show Nat.blt i k=true from Nat.ble_eq_true_of_le h'] at hb;cases hb
     ·exact h'
    rw[List.getElem?_append_right (by omega),hck] at hk
    exact(hv _ v hk).mono hle
 ·rename_i f k ys e' tot hys hg
  obtain⟨hc,h⟩:=gd_out h
  simp only[Bool.and_eq_true] at hc
  have he:=Nat.eq_of_beq_eq_true hc.1
  have hl0:=Nat.eq_of_beq_eq_true hc.2.1
  subst he
  obtain⟨r',o,hr',ho,hbd,_⟩:=hi.blk _ _ hg
  rw[hr] at hr';cases hr'
  obtain⟨c,yv,rest,rfl,hck,hcv,hyd,ht⟩:=hbd
  have hyl:=hyd.length
  have hcf:=capFits_ok hc.2.2 hcapd ht
  split at h<;>try exact h.elim
  ·rename_i a
   cases hyd with
   |@cons _ y _ _ hy1 hy2=>
   cases hy2
   simp at hl0
   refine append_core (sz:=0) (olds:=c++[y]) (rest:=rest) (vs:=vs) hu hsz hby hz hzl hxt hi hg hr hro (by simpa using ho) (by simp;omega) hoff hl (by simp at hcf⊢;omega) (capFits_63 hc.2.2 hcapd) (by omega) hone hn h3 h4 (fun ι' c2 rest' hle hnx hlen=>?_) h
   refine⟨c++[y]++vs,[],rest',by simp,by simp;omega,fun i v hk=>?_,.nil,c2,hnx,by simp at hlen⊢;omega⟩
   simp only[famAt]
   refine .ite (fun hb=>?_) (fun hb=>.ite (fun hb2=>?_) (fun hb2=>?_))
   ·have hb:=Nat.eq_of_beq_eq_true hb
    subst hb
    rw[List.append_assoc,List.getElem?_append_right (by omega)] at hk
    simp[hck] at hk
    subst hk
    exact hy1.mono hle
   ·have hb2:=blt_lt hb2
    rw[List.append_assoc,List.getElem?_append_left (by omega)] at hk
    exact(hcv i v hk).mono hle
   ·have hb2:k<=i:=by
     rcases Nat.lt_or_ge i k with h'|h'
     ·rw[show Nat.blt i k=true from Nat.ble_eq_true_of_le h'] at hb2;cases hb2
     ·exact h'
    have hne:i≠k:=fun e=>by rw[e,Nat.beq_refl] at hb;cases hb
    rw[List.getElem?_append_right (by simp;omega)] at hk
    have e1:i-(c++[y]).length=i-Nat.succ k:=by simp[hck]
    rw[e1] at hk
    exact(hv _ v hk).mono hle
theorem appendR_ok {t u xt e:TypeId} {s x:AVal} {sv xv:Value} {K:AVal->AHeap->Prop} (h:appendRA P e s x H K) (hu:P.underlying t=some (.slice e)) (hxt:notIntA P xt=true) (hi:Inv w0 F0 ι H w) (hs:Den ι s sv) (hx:Den ι x xv):
 Ok w0 F0 ι K ((Builtin.append_ #[t,xt] u #[sv,xv]).run P w):=by
 unfold appendRA at h
 split at h
 ·rename_i hsrc
  obtain⟨hcc,h⟩:=gd_out h
  exact appendF_ok h hsrc hcc hu hxt hi hs hx
 split at h
 ·rename_i sz b z hsz hby hz
  obtain⟨hzc,h⟩:=gd_out h
  have hzc:=Nat.eq_of_beq_eq_true hzc
  have hzl:=zero_len hzc
  split at h
  ·cases hs
   obtain⟨n,l,vs,hK,hd,hvl,hn⟩:=newsR_ok (P:=P) h hi hx
   rcases br_out hK with⟨hnil,hK⟩|⟨hnil,hK⟩
   ·have:n=0:=by cases n with|zero=>rfl|succ _=>cases hnil
    subst this
    have hvs:vs=[]:=by simpa using hvl
    subst hvs
    have hrun:(Builtin.append_ #[t,xt] u #[.slice none 0 0,xv]).run P w=.ok (.slice none 0 0) w:=by
     obtain⟨d,hd,hnd⟩:=notIntA_ok hxt
     have e0:(#[t,xt]:Array TypeId)[0]?=some t:=rfl
     have e1:(#[t,xt]:Array TypeId)[1]?=some xt:=rfl
     have e2:(#[Value.slice none 0 0,xv]:Array Value)[0]?=some (.slice none 0 0):=rfl
     have e3:(#[Value.slice none 0 0,xv]:Array Value)[1]?=some xv:=rfl
     have h1:=hn w rfl
     have hl:=h1.len
     have hcl:=h1.cells
     simp only[Builtin.append_,e0,e1,e2,e3,Sem.run_bind,run_underlying hu,Result.andThen_ok,run_sizeOf hsz,run_underlying hd]
     cases d<;>first
      |exact(hnd _ rfl).elim
      |(simp only[Sem.run_pure,Result.andThen_ok,Bool.false_eq_true,if_false,hl,Nat.add_zero,Nat.le_refl,if_true,Bool.not_false,Sem.run_bind,hcl])
    rw[hrun]
    exact⟨_,_,ι,hK,.lit,Inj.le_refl _,hi⟩
   ·obtain⟨hb,hK⟩:=gd_out hK
    simp only[Bool.and_eq_true] at hb
    have hb1:=ble_le hb.1
    have hb2:=ble_le hb.2
    have hpos:0<n:=by cases n with|zero=>cases hnil|succ _=>omega
    obtain⟨c,hcge,hc63,hrun⟩:=append_grow (P:=P) (w:=w) (u:=u) (base:=none) (len:=0) (cap:=0) (olds:=#[]) hu hsz hby hz hxt hn (fun w' _=>by simp[Builtin.firstCells]) (by omega) (by rw[Nat.zero_add];exact hb1) (by omega)
    rw[hrun]
    rw[Nat.zero_add] at hcge
    obtain⟨ι1,hle1,hn1,hd0⟩:=(hi.drew (w.drawn+1)).name c
    obtain⟨ι',hle,hnn,hinv⟩:=hd0.new (b:=.row l e (.u H.next (sz+1))) (o:=.cells (#[]++vs.toArray++Builtin.zeroCells z.cells (c-(0+n))) e (0,0))
     ⟨vs,(Builtin.zeroCells z.cells (c-(0+n))).toList,by simp[←Array.toList_inj],hd.mono hle1,⟨c,hn1,by
      refine Nat.le_of_eq ?_
      rw[hzl,hvl,←Nat.add_mul];congr 1;omega⟩⟩
    refine⟨_,_,ι',hK,?_,Inj.le_trans hle1 hle,hinv⟩
    rw[Nat.zero_add]
    exact .slc hnn hcge (.inl rfl) ⟨c,hle _ _ hn1,hc63,rfl⟩
  ·obtain⟨n,l,vs,hK,hd,hvl,hn⟩:=newsR_ok (P:=P) h hi hx
   obtain⟨hnil,hK⟩:=gd_out hK
   have:n=0:=by cases n with|zero=>rfl|succ _=>cases hnil
   subst this
   have hvs:vs=[]:=by simpa using hvl
   subst hvs
   cases hs with
   |@e0 a c=>
   have hrun:(Builtin.append_ #[t,xt] u #[.slice a 0 c,xv]).run P w=.ok (.slice a 0 c) w:=by
    obtain⟨d,hd,hnd⟩:=notIntA_ok hxt
    have e0:(#[t,xt]:Array TypeId)[0]?=some t:=rfl
    have e1:(#[t,xt]:Array TypeId)[1]?=some xt:=rfl
    have e2:(#[Value.slice a 0 c,xv]:Array Value)[0]?=some (.slice a 0 c):=rfl
    have e3:(#[Value.slice a 0 c,xv]:Array Value)[1]?=some xv:=rfl
    have h1:=hn w rfl
    have hl:=h1.len
    have hcl:=h1.cells
    simp only[Builtin.append_,e0,e1,e2,e3,Sem.run_bind,run_underlying hu,Result.andThen_ok,run_sizeOf hsz,run_underlying hd]
    cases d<;>first
     |exact(hnd _ rfl).elim
     |(cases a<;>simp only[Sem.run_pure,Result.andThen_ok,Bool.false_eq_true,if_false,hl,Nat.add_zero,Nat.zero_le,if_true,Bool.not_false,Sem.run_bind,hcl,storeCells])
   rw[hrun]
   exact⟨_,_,ι,hK,.e0,Inj.le_refl _,hi⟩
  ·rename_i f m _
   obtain⟨n,l,vs,hK,hd,hvl,hn⟩:=newsR_ok (P:=P) h hi hx
   obtain⟨hc,hK2⟩:=gd_out hK
   clear hK
   simp only[Bool.and_eq_true,Bool.not_eq_true'] at hc
   have hz0:=Nat.eq_of_beq_eq_true hc.1
   subst hz0
   have hpos:0<n:=by
    cases n with
    |zero=>have:=hc.2.1;cases this
    |succ _=>omega
   have h3:=ble_le hc.2.2.1
   have h4:=ble_le hc.2.2.2
   cases hs with
   |@famx _ _ a hfam=>
   have holds:∃c:List Value,c.length=m/\(∀k v,c[k]?=some v->Den ι (f k) v)/\∀w':World,w'.heap=w.heap->(Builtin.firstCells (0+1) m (.slice a m m)).run P w'=.ok c.toArray w':=by
    obtain⟨c,h1,h2,h3⟩:=famNews0 (P:=P) hi hfam
    exact⟨c,h1,h2,fun w' hw'=>(h3 w' hw').cells⟩
   obtain⟨c,hcl,hcv,hcr⟩:=holds
   obtain⟨cc,hcge,hc63,hrun⟩:=append_grow (P:=P) (w:=w) (u:=u) (base:=a) (len:=m) (cap:=m) (olds:=c.toArray) hu hsz hby hz hxt hn hcr (by omega) h3 h4
   rw[hrun]
   obtain⟨ι1,hle1,hn1,hd0⟩:=(hi.drew (w.drawn+1)).name cc
   obtain⟨ι',hle,hnn,hinv⟩:=hd0.new (b:=.fam f m [] l e (.u H.next 1)) (o:=.cells (c.toArray++vs.toArray++Builtin.zeroCells z.cells (cc-(m+n))) e (0,0))
    ⟨c,vs,(Builtin.zeroCells z.cells (cc-(m+n))).toList,by simp[←Array.toList_inj],hcl,fun k v hk=>(hcv k v hk).mono hle1,hd.mono hle1,⟨cc,hn1,by
      rw[hzl,hvl,hcl];omega⟩⟩
   exact⟨_,_,ι',hK2,.slc hnn hcge (.inl rfl) ⟨cc,hle _ _ hn1,hc63,rfl⟩,Inj.le_trans hle1 hle,hinv⟩
  ·rename_i id len cap _
   cases hs with
   |slc hr hl hoff hcapd=>
   rename_i off' r cap'
   split at h<;>try exact h.elim
   ·rename_i old e' tot hg
    obtain⟨r',o,hr',ho,hbd,hf⟩:=hi.blk _ _ hg
    rw[hr] at hr';cases hr'
    obtain⟨n,l,vs,hK,hd,hvl,hn⟩:=newsR_ok (P:=P) h hi hx
    obtain⟨hc,hK2⟩:=gd_out hK
    clear hK
    simp only[Bool.and_eq_true] at hc
    have h0:=Nat.eq_of_beq_eq_true hc.1
    subst h0
    have h1:=ble_le hc.2.1
    have h3:=ble_le hc.2.2.2.1
    have h4:=ble_le hc.2.2.2.2.1
    have h5:=hc.2.2.2.2.2.1
    have hro:H.isRo id=false:=by simpa using hc.2.2.2.2.2.2
    obtain⟨c,rest,rfl,hcd,ht⟩:=hbd
    have hcl:=hcd.length
    have hc63:=capFits_63 hc.2.2.1 hcapd
    have hcf:=capFits_ok hc.2.2.1 hcapd ht
    have hsplit:c++rest=c.take (len*(sz+1))++(c.drop (len*(sz+1))++rest):=by rw[←List.append_assoc,List.take_append_drop]
    rw[hsplit] at ho
    have hol:(c.take (len*(sz+1))).length=len*(sz+1):=by simp;omega
    have hcap:cap'*(sz+1)<=(c.take (len*(sz+1))++(c.drop (len*(sz+1))++rest)).length:=by rw[←hsplit];simpa using hcf
    rcases br_out hK2 with⟨hfit,hK⟩|⟨_,hK⟩
    ·have hroom:=fitsC_ok hfit hcapd
     have hmul:(len+n)*(sz+1)<=cap'*(sz+1):=Nat.mul_le_mul_right _ hroom
     rw[Nat.add_mul] at hmul
     rw[append_here hu hsz hxt ho hol hoff hcap hvl (hd.one h5) (hn w rfl) hroom]
     refine⟨_,_,ι,hK,.slc hr hroom hoff hcapd,Inj.le_refl _,?_⟩
     refine Inv.set hi hg hr hro ?_ (setBlk_get ho) (fun k hk=>setBlk_other hk) setBlk_size rfl rfl rfl
     refine⟨c.take (len*(sz+1))++vs,(c.drop (len*(sz+1))++rest).drop vs.length,rfl,(hcd.take _).append hd,?_⟩
     have e1:(c.take (len*(sz+1))++vs).length+((c.drop (len*(sz+1))++rest).drop vs.length).length=c.length+rest.length:=by
      simp at hcap⊢;omega
     rw[e1];exact ht
    ·refine append_core hu hsz hby hz hzl hxt hi hg hr hro ho hol hoff hl hcap hc63 hvl (hd.one h5) hn h3 h4 (fun ι' c2 rest' hle hnx hlen=>?_) hK
     exact⟨c.take (len*(sz+1))++vs,rest',rfl,((hcd.take _).append hd).mono hle,c2,hnx,by simp at hlen⊢;omega⟩
   ·rename_i f m us ys e' tot hg
    obtain⟨r',o,hr',ho,hbd,hf⟩:=hi.blk _ _ hg
    rw[hr] at hr';cases hr'
    obtain⟨n,l,vs,hK,hd,hvl,hn⟩:=newsR_ok (P:=P) h hi hx
    obtain⟨hc,hK2⟩:=gd_out hK
    clear hK
    simp only[Bool.and_eq_true] at hc
    have hz0:=Nat.eq_of_beq_eq_true hc.1
    subst hz0
    have h0:=Nat.eq_of_beq_eq_true hc.2.1
    subst h0
    have h1:=Nat.eq_of_beq_eq_true hc.2.2.1
    have h3:=ble_le hc.2.2.2.2.1
    have h4:=ble_le hc.2.2.2.2.2.1
    have h5:=hc.2.2.2.2.2.2.1
    have hro:H.isRo id=false:=by simpa using hc.2.2.2.2.2.2.2
    obtain⟨c,yv,rest,rfl,hcm,hcv,hyd,ht⟩:=hbd
    have hyl:=hyd.length
    have hc63:=capFits_63 hc.2.2.2.1 hcapd
    have hcf:=capFits_ok hc.2.2.2.1 hcapd ht
    have hol:(c++yv).length=len*(0+1):=by simp;omega
    have hcap:cap'*(0+1)<=(c++yv++rest).length:=by simp at hcf⊢;omega
    rcases br_out hK2 with⟨hfit,hK⟩|⟨_,hK⟩
    ·have hroom:=fitsC_ok hfit hcapd
     rw[append_here hu hsz hxt ho hol hoff hcap hvl (hd.one h5) (hn w rfl) hroom]
     refine⟨_,_,ι,hK,.slc hr hroom hoff hcapd,Inj.le_refl _,?_⟩
     refine Inv.set hi hg hr hro ?_ (setBlk_get ho) (fun k hk=>setBlk_other hk) setBlk_size rfl rfl rfl
     refine⟨c,yv++vs,rest.drop vs.length,by simp,hcm,hcv,hyd.append hd,?_⟩
     have e1:c.length+(yv++vs).length+(rest.drop vs.length).length=c.length+yv.length+rest.length:=by
      simp at hcap hol⊢;omega
     rw[e1];exact ht
    ·refine append_core hu hsz hby hz hzl hxt hi hg hr hro ho hol hoff hl hcap hc63 hvl (hd.one h5) hn h3 h4 (fun ι' c2 rest' hle hnx hlen=>?_) hK
     exact⟨c,yv++vs,rest',by simp,hcm,fun k v hk=>(hcv k v hk).mono hle,(hyd.append hd).mono hle,c2,hnx,by simp at hlen⊢;omega⟩
   ·rename_i f wd m xs e' tot hg
    obtain⟨r',o,hr',ho,hbd,hf⟩:=hi.blk _ _ hg
    rw[hr] at hr';cases hr'
    obtain⟨n,l,vs,hK,hd,hvl,hn⟩:=newsR_ok (P:=P) h hi hx
    obtain⟨hc,hK2⟩:=gd_out hK
    clear hK
    simp only[Bool.and_eq_true] at hc
    have hw:=Nat.eq_of_beq_eq_true hc.1
    subst hw
    have h0:=Nat.eq_of_beq_eq_true hc.2.1
    subst h0
    have hxs:xs=[]:=by
     cases xs with
     |nil=>rfl
     |cons _ _=>have:=hc.2.2.1;cases this
    subst hxs
    have h1:=Nat.eq_of_beq_eq_true hc.2.2.2.1
    subst h1
    have h3:=ble_le hc.2.2.2.2.2.1
    have h4:=ble_le hc.2.2.2.2.2.2.1
    have h5:=hc.2.2.2.2.2.2.2.1
    have hro:H.isRo id=false:=by simpa using hc.2.2.2.2.2.2.2.2
    obtain⟨c,yv,rest,rfl,hcm,hcv,hyd,ht⟩:=hbd
    cases hyd
    have hc63:=capFits_63 hc.2.2.2.2.1 hcapd
    have hcf:=capFits_ok hc.2.2.2.2.1 hcapd ht
    rw[List.append_nil] at ho
    refine append_core hu hsz hby hz hzl hxt hi hg hr hro ho hcm hoff hl (by simp at hcf⊢;omega) hc63 hvl (hd.one h5) hn h3 h4 (fun ι' c2 rest' hle hnx hlen=>?_) hK2
    exact⟨c,vs,rest',rfl,hcm,fun k hk=>(hcv k hk).mono hle,hd.mono hle,c2,hnx,by simp at hlen⊢;omega⟩
  ·exact h.elim
 ·exact h.elim
def appendZA (P:Program) (xt e:TypeId) (s x:AVal) (H:AHeap) (K:AVal->AHeap->Prop):Prop:=
 match P.underlying xt,s,x with
 |some (.int _),.lit (.slice none 0 0),.lit (.int _ n)=>gd (zeroB ((zeroA P e).getD .nilFunc)&&(Nat.beq ((szA P e).getD 0) 1&&Nat.beq ((bytesA P e).getD 0) 1)) (gd (decide (0<n)&&decide (n<=140737488355328))
  (∀d,n.toNat<=d->d<9223372036854775808->K (.slc H.next 0 n.toNat (.n d)) (H.new (.bytes (List.replicate n.toNat 0) e (.n d)))))
 |_,_,_=>False
theorem zeroCells_byte (n:Nat):(Builtin.zeroCells (byteV 0).cells n).toList=(List.replicate n (0:UInt8)).map byteV:=by
 have h:(fun i=>[Value.int IntKind.u8 0][i % 1]?.getD default)=fun _:Nat=>Value.int IntKind.u8 0:=by
  funext i;simp[Nat.mod_one]
 simp[Builtin.zeroCells,byteV,Value.cells,h,List.map_const']
theorem append_zero {t u e xt:TypeId} {k kk:IntKind} {m:Int} {z:Value} (hu:P.underlying t=some (.slice e)) (hs:(P.info? e).map (·.size)=some 1) (hb:bytesA P e=some 1) (hz:zeroA P e=some z) (hx:P.underlying xt=some (.int k)) (h0:0<m) (h1:m<=140737488355328):
 ∃c,m.toNat<=c/\c<9223372036854775808/\(Builtin.append_ #[t,xt] u #[.slice none 0 0,.int kk m]).run P w=.ok (.slice (some ⟨w.heap.size,0,none⟩) m.toNat c) {w with heap:=w.heap.push (.cells (#[]++Builtin.zeroCells z.cells m.toNat++Builtin.zeroCells z.cells (c-m.toNat)) e),drawn:=w.drawn+1}:=by
 have e0:(#[t,xt]:Array TypeId)[0]?=some t:=rfl
 have e1:(#[t,xt]:Array TypeId)[1]?=some xt:=rfl
 have e2:(#[Value.slice none 0 0,.int kk m]:Array Value)[0]?=some (.slice none 0 0):=rfl
 have e3:(#[Value.slice none 0 0,.int kk m]:Array Value)[1]?=some (.int kk m):=rfl
 have hinfo:∃i,P.info? e=some i/\i.bytes=1:=by
  unfold bytesA at hb
  cases hi':P.info? e with
  |none=>rw[hi'] at hb;cases hb
  |some i=>rw[hi'] at hb;simp at hb;exact⟨i,rfl,hb⟩
 obtain⟨inf,hinf,hbytes⟩:=hinfo
 have hm:IntKind.i64.max=9223372036854775807:=by decide
 have hw:IntKind.i64.wrap m=m:=wrap64_id (by omega) (by omega)
 have hpos:0<m.toNat:=by omega
 have hroom:0<0+m.toNat:=by omega
 have hfit:=growslice_fits (bytes:=1) hroom (by omega)
 refine⟨(Question.appendCap (0+m.toNat) 0 e).cut (w.tape w.drawn (.appendCap (0+m.toNat) 0 e)),by simp[Question.cut],by
  simp only[Question.cut]
  have:=Nat.mod_lt (w.tape w.drawn (.appendCap (0+m.toNat) 0 e)) (show 0<2 ^ 63-(0+m.toNat) by omega)
  omega,?_⟩
 simp only[Builtin.append_,e0,e1,e2,e3,Sem.run_bind,run_underlying hu,Result.andThen_ok,run_sizeOf hs,run_underlying hx,Sem.run_pure,if_true,asInt,asIntOf,hw]
 rw[if_neg (by omega)]
 simp only[Sem.run_bind,Sem.run_pure,Result.andThen_ok,run_typeInfo hinf,hbytes]
 rw[if_neg (by have:(2:Int) ^ 48=281474976710656:=by decide
               omega)]
 simp only[Sem.run_bind,Sem.run_pure,Result.andThen_ok,Nat.not_le.2 hroom,if_false,hm,run_typeInfo hinf,hbytes]
 rw[if_neg (by omega)]
 simp only[Sem.run_bind,run_typeInfo hinf,Result.andThen_ok,hbytes,Sem.run_pure]
 rw[if_neg (by have:(2:Nat) ^ 48=281474976710656:=by decide
               omega)]
 simp only[Sem.run_bind,run_choose,Question.forced,Bool.false_eq_true,if_false,Result.andThen_ok,run_askRoom,run_typeInfo hinf,run_zero hz,run_newRow,Sem.run_pure,Builtin.firstCells,Nat.mul_one,Bool.not_true]
 rw[if_neg (by omega)]
 simp only[Sem.run_bind,run_zero hz,Result.andThen_ok,Sem.run_pure,run_newRow,Nat.zero_add]
def appendA (P:Program) (ts:Array TypeId) (s x:AVal) (H:AHeap) (K:AVal->AHeap->Prop):Prop:=
 match ts.toList with
 |[t,xt]=>match P.underlying t with
  |some (.slice e)=>br (notIntA P xt) (cond (isU8 P e) (appendBA P e s x H K) (appendRA P e s x H K)) (appendZA P xt e s x H K)
  |_=>False
 |_=>False
theorem append_ok {ts:Array TypeId} {u:TypeId} {s x:AVal} {sv xv:Value} {K:AVal->AHeap->Prop} (h:appendA P ts s x H K) (hi:Inv w0 F0 ι H w) (hs:Den ι s sv) (hx:Den ι x xv):
 Ok w0 F0 ι K ((Builtin.append_ ts u #[sv,xv]).run P w):=by
 unfold appendA at h
 split at h
 ·rename_i t xt ht
  have ht:ts=#[t,xt]:=by rw[←Array.toList_inj];exact ht
  subst ht
  split at h
  ·rename_i e hu
   rcases br_out h with⟨hxt,h⟩|⟨_,h⟩
   ·cases hb:isU8 P e with
    |true=>rw[hb] at h;exact appendB_ok h hu hxt hi hs hx
    |false=>rw[hb] at h;exact appendR_ok h hu hxt hi hs hx
   ·unfold appendZA at h
    split at h
    ·rename_i k kk m hxu _
     obtain⟨hc,h⟩:=gd_out h
     obtain⟨hm,hK⟩:=gd_out h
     simp only[Bool.and_eq_true,decide_eq_true_eq] at hc hm
     obtain⟨hz,hsz,hby⟩:=hc
     have hsz:=some_getD (Nat.eq_of_beq_eq_true hsz) (by omega)
     have hby:=some_getD (Nat.eq_of_beq_eq_true hby) (by omega)
     have hz:zeroA P e=some (byteV 0):=some_getD (zeroB_ok hz) (by simp[byteV])
     cases hs
     cases hx
     obtain⟨c,hcge,hc63,hrun⟩:=append_zero (P:=P) (w:=w) (u:=u) (kk:=kk) hu hsz hby hz hxu hm.1 hm.2
     rw[hrun]
     have hd0:=hi.drew (w.drawn+1)
     have hzl:(Builtin.zeroCells (byteV 0).cells (c-m.toNat)).toList.length=c-m.toNat:=by rw[Array.length_toList,zeroCells_len];simp[byteV,Value.cells]
     obtain⟨ι',hle,hnn,hinv⟩:=hd0.new (b:=.bytes (List.replicate m.toNat 0) e (.n c)) (o:=.cells (#[]++Builtin.zeroCells (byteV 0).cells m.toNat++Builtin.zeroCells (byteV 0).cells (c-m.toNat)) e (0,0))
      ⟨(Builtin.zeroCells (byteV 0).cells (c-m.toNat)).toList,(0,0),by rw[←zeroCells_byte];simp[←Array.toList_inj],by show c<=_;rw[hzl,List.length_replicate];omega,fun k _ hh=>by simp at hh⟩
     exact⟨_,_,ι',hK c hcge hc63,.slc hnn hcge (.inl rfl) rfl,hle,hinv⟩
    ·exact h.elim
  ·exact h.elim
 ·exact h.elim
def clearA (P:Program) (ts:Array TypeId) (x:AVal) (H:AHeap) (K:AVal->AHeap->Prop):Prop:=
 match ts.toList,x with
 |t::_,.slc id off n _=>match P.underlying t with
  |some (.slice e)=>match szA P e,zeroA P e with
   |some 1,some z=>match H.get id with
    |some (.fam f k us [] e' tot)=>gd (Nat.beq z.cells.size 1&&(oneA (ofValue 2 z)&&(Nat.ble (off+n) k&& !H.isRo id))) (K (.tup []) (H.set id (.fam (fun i=>.ite (Nat.blt i off||Nat.ble (off+n) i) (famAt f us i) (ofValue 2 z)) k [] [] e' tot)))
    |_=>False
   |_,_=>False
  |_=>False
 |_,_=>False
theorem zeroCells_one {z:Value} (h:z.cells.size=1) (hz:z.oneCell'=true) (n:Nat):(Builtin.zeroCells z.cells n).toList=List.replicate n z:=by
 have hc:z.cells=#[z]:=by cases z<;>first|rfl|cases hz
 have h:(fun i=>([z]:List Value)[i % 1]?.getD default)=fun _:Nat=>z:=by
  funext i;simp[Nat.mod_one]
 simp[Builtin.zeroCells,hc,h,List.map_const']
theorem clear_ok {ts:Array TypeId} {u:TypeId} {x:AVal} {xv:Value} {K:AVal->AHeap->Prop} (h:clearA P ts x H K) (hi:Inv w0 F0 ι H w) (hx:Den ι x xv):
 Ok w0 F0 ι K ((Builtin.clear_ ts u #[xv]).run P w):=by
 unfold clearA at h
 split at h<;>try exact h.elim
 rename_i t ts' id off n cap hts
 have e0:ts[0]?=some t:=by
  have:ts.toList[0]?=some t:=by rw[hts];rfl
  simpa using this
 split at h<;>try exact h.elim
 rename_i e hu
 split at h<;>try exact h.elim
 rename_i z hsz hz
 split at h<;>try exact h.elim
 rename_i f k us e' tot hg
 obtain⟨hc,hK⟩:=gd_out h
 simp only[Bool.and_eq_true,Bool.not_eq_true'] at hc
 obtain⟨hzc,hzo,hle,hro⟩:=hc
 have hzc:=Nat.eq_of_beq_eq_true hzc
 have hle:=ble_le hle
 have hzo:z.oneCell'=true:=(ofValue_den (ι:=ι) 2 z).one hzo
 obtain⟨r,o,hr,ho,hb,_⟩:=hi.blk _ _ hg
 cases hx with
 |slc hr' hl hoff hcap=>
 rename_i off' r' c'
 rw[hr] at hr';cases hr'
 obtain⟨c,yv,rest,rfl,hck,hcv,hy,ht⟩:=hb
 cases hy
 have hzs:=zeroCells_one hzc hzo n
 have e1:(#[Value.slice (some ⟨r,off',none⟩) n c']:Array Value)[0]?=some (.slice (some ⟨r,off',none⟩) n c'):=rfl
 have hnew:Inv w0 F0 ι (H.set id (.fam (fun i=>.ite (Nat.blt i off||Nat.ble (off+n) i) (famAt f us i) (ofValue 2 z)) k [] [] e' tot)) (setBlk w r (.cells (c.take off++List.replicate n z++c.drop (off+n)++[]++rest).toArray e' (0,0))):=by
  refine Inv.set hi hg hr hro ?_ (setBlk_get ho) (fun k hk=>setBlk_other hk) setBlk_size rfl rfl rfl
  refine⟨c.take off++List.replicate n z++c.drop (off+n),[],rest,rfl,by simp;omega,fun i v hk=>?_,.nil,?_⟩
  ·have hct:(c.take off).length=off:=by simp;omega
   refine .ite (fun hb=>?_) (fun hb=>?_)
   ·simp only[Bool.or_eq_true] at hb
    rcases hb with hb|hb
    ·have hb:=blt_lt hb
     rw[List.append_assoc,List.getElem?_append_left (by omega),List.getElem?_take,if_pos hb] at hk
     exact hcv i v hk
    ·have hb:=ble_le hb
     have hct2:(c.take off++List.replicate n z).length=off+n:=by simp;omega
     rw[List.getElem?_append_right (by omega),hct2,List.getElem?_drop] at hk
     have e1:off+n+(i-(off+n))=i:=by omega
     rw[e1] at hk
     exact hcv i v hk
   ·simp only[Bool.or_eq_false_iff] at hb
    have h1:off<=i:=by
     rcases Nat.lt_or_ge i off with h'|h'
     ·rw[show Nat.blt i off=true from Nat.ble_eq_true_of_le h'] at hb;cases hb.1
     ·exact h'
    have h2:i<off+n:=by
     rcases Nat.lt_or_ge i (off+n) with h'|h'
     ·exact h'
     ·rw[Nat.ble_eq_true_of_le h'] at hb;cases hb.2
    rw[List.append_assoc,List.getElem?_append_right (by omega),List.getElem?_append_left (by simp;omega),hct,List.getElem?_replicate] at hk
    split at hk
    ·cases hk;exact ofValue_den 2 _
    ·cases hk
  ·have e1:(c.take off++List.replicate n z++c.drop (off+n)).length+([]:List Value).length+rest.length=c.length+([]:List Value).length+rest.length:=by simp;omega
   rw[e1];exact ht
 cases n with
 |zero=>
  have hrun:(Builtin.clear_ ts u #[.slice (some ⟨r,off',none⟩) 0 c']).run P w=.ok (.tuple #[]) w:=by
   simp[Builtin.clear_,e0,run_underlying hu]
  rw[hrun]
  have hsame:setBlk w r (.cells (c.take off++List.replicate 0 z++c.drop (off+0)++[]++rest).toArray e' (0,0))=w:=by
   have:(c.take off++List.replicate 0 z++c.drop (off+0)++[]++rest)=c++[]++rest:=by simp[List.take_append_drop]
   rw[this]
   exact setBlk_self ho
  rw[hsame] at hnew
  exact⟨_,_,ι,hK,.tup .nil,Inj.le_refl _,hnew⟩
 |succ n=>
  have ho':off'=off:=by
   rcases hoff with h'|h'
   ·exact h'
   ·omega
  subst ho'
  have hst:(storeCells ⟨r,off',none⟩ (Builtin.zeroCells z.cells (n+1)).toList).run P w=.ok () (setBlk w r (.cells (c.take off'++List.replicate (n+1) z++c.drop (off'+(n+1))++[]++rest).toArray e' (0,0))):=by
   rw[hzs]
   have:=run_storeCells (P:=P) (r:=r) (off:=off') (e:=e') (fz:=(0,0)) (List.replicate (n+1) z) 0 w (c++[]++rest) ho (by simp;omega) (fun k hk1 hk2 hh=>by simp at hh) (fun v hv=>by rw[List.eq_of_mem_replicate hv];exact hzo)
   rw[this]
   congr 2
   rw[Nat.add_zero,spliceV_eq _ _ _ (by simp;omega),List.append_nil,List.take_append_of_le_length (by omega),List.length_replicate,List.drop_append_of_le_length (by omega)]
   simp
  have hrun:(Builtin.clear_ ts u #[.slice (some ⟨r,off',none⟩) (n+1) c']).run P w=.ok (.tuple #[]) (setBlk w r (.cells (c.take off'++List.replicate (n+1) z++c.drop (off'+(n+1))++[]++rest).toArray e' (0,0))):=by
   simp only[Builtin.clear_,e0,e1,Sem.run_bind,run_underlying hu,Result.andThen_ok,run_zero hz,hst,Sem.run_pure]
  rw[hrun]
  exact⟨_,_,ι,hK,.tup .nil,Inj.le_refl _,hnew⟩
def spliceB:List UInt8->Nat->List UInt8->List UInt8
 |c::cs,0,v::vs=>v::spliceB cs 0 vs
 |c::cs,n+1,vs=>c::spliceB cs n vs
 |cs,_,_=>cs
theorem spliceB_map:∀(c:List UInt8) (n:Nat) (v:List UInt8),(spliceB c n v).map byteV=spliceV (c.map byteV) n (v.map byteV)
 |[],0,_=>by cases ‹List UInt8› <;>rfl
 |[],_+1,_=>rfl
 |_::_,0,[]=>rfl
 |_::cs,0,_::vs=>by simp[spliceB,spliceV,spliceB_map cs 0 vs]
 |_::cs,n+1,vs=>by simp[spliceB,spliceV,spliceB_map cs n vs]
theorem spliceB_length (c:List UInt8) (n:Nat) (v:List UInt8):(spliceB c n v).length=c.length:=by
 have:=congrArg List.length (spliceB_map c n v)
 simpa[spliceV_length] using this
def capEnd:ACap->ATot->Nat->Bool
 | .n k,.n m,off=>Nat.ble (off+k) m
 |_,_,_=>false
theorem capEnd_ok {cap:ACap} {tot:ATot} {off:Nat} (h:capEnd cap tot off=true) {ι:Inj} {c t:Nat} (hc:cap.den ι c) (ht:tot.ok ι t):off+c<=t:=by
 cases cap<;>cases tot<;>simp only[capEnd] at h<;>try cases h
 have hc:c=_:=hc
 have ht:_<=t:=ht
 have:=ble_le h
 omega
def copyA (P:Program) (ts:Array TypeId) (d x:AVal) (H:AHeap) (K:AVal->AHeap->Prop):Prop:=
 match ts.toList,d with
 |t::_,.slc id off n cap=>match P.underlying t with
  |some (.slice e)=>cond (isU8 P e)
   (gd (Nat.beq ((szA P e).getD 0) 1) (newsB x H fun l=>match H.get id with
    |some (.bytes old e' tot)=>br (Nat.ble (off+Nat.min l.length n) old.length)
     (gd (!H.isRo id) (K (.lit (.int .i64 (Nat.min l.length n:Nat))) (H.set id (.bytes (spliceB old off (l.take n)) e' tot))))
     (gd (Nat.beq off old.length&&(capEnd cap tot off&& !H.isRo id)) (K (.lit (.int .i64 (Nat.min l.length n:Nat))) (H.set id (.bytes (old++l.take n) e' tot))))
    |_=>False))
   (match szA P e with
    |some (sz+1)=>newsR (sz+1) x H fun m l=>match H.get id with
     |some (.row old e' tot)=>gd (Nat.ble (off+(Nat.min m n)*(sz+1)) old.length&&(l.all oneA&& !H.isRo id)) (K (.lit (.int .i64 (Nat.min m n:Nat))) (H.set id (.row (splice old off (l.take ((Nat.min m n)*(sz+1)))) e' tot)))
     |_=>False
    |_=>False)
  |_=>False
 |t::_,.lit (.slice none 0 0)=>match P.underlying t with
  |some (.slice e)=>gd (isU8 P e) (gd (Nat.beq ((szA P e).getD 0) 1) (newsB x H fun _=>K (.lit (.int .i64 (0:Nat))) H))
  |_=>False
 |_,_=>False
end
end Go.Sx
