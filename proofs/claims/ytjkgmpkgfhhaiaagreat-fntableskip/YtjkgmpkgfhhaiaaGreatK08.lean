/- Lemmas of this claim; the last text says what is proved. -/
import Derived.Test.YtjkgmpkgfhhaiaaGreatK07
set_option linter.all false
namespace Go.Sx
open Go
variable [Syms]
section
variable {P:Program} {w0 w:World} {F0:Fp} {ι:Inj} {H:AHeap}
def toBytes:List AVal->Option (List UInt8)
 |[]=>some []
 | .lit (.int .u8 n)::r=>match toBytes r with
   |some l=>some (UInt8.ofNat n.toNat::l)
   |none=>none
 |_=>none
def bytesIn:List AVal->Bool
 |[]=>true
 | .lit (.int .u8 n)::r=>decide (0<=n)&&(decide (n<256)&&bytesIn r)
 |_=>false
theorem toBytes_ok:∀{cs:List AVal} {vs:List Value} {l:List UInt8},DenL ι cs vs->toBytes cs=some l->bytesIn cs=true->vs=l.map byteV
 |[],_,l,h,ht,_=>by cases h;simp[toBytes] at ht;subst ht;rfl
 |c::cs,_,l,h,ht,hb=>by
  cases h with
  |cons hc hcs=>
   unfold toBytes at ht
   split at ht
   ·rename_i h;cases h
   ·rename_i n r heq
    cases heq
    split at ht
    ·rename_i l' hl'
     cases ht
     simp only[bytesIn,Bool.and_eq_true,decide_eq_true_eq] at hb
     cases hc
     rw[toBytes_ok hcs hl' hb.2.2,List.map_cons,byte_of_int n hb.1 hb.2.1]
    ·cases ht
   ·cases ht
def placeArr (sz:Nat) (i:Nat):Option (Nat×Nat):=some (i*sz,sz)
def buildSliceA (P:Program) (t:TypeId) (len:Nat) (parts:List (Nat×AVal)) (H:AHeap) (K:AVal->AHeap->Prop):Prop:=
 match P.underlying t with
 |some (.slice e)=>match szA P e,zeroA P e with
  |some (sz+1),some z=>gd (Nat.beq z.cells.size (sz+1)&&Nat.ble (len*(sz+1)) 16777216)
   (match fillA (placeArr (sz+1)) (repL len (AVal.lit z).cells) parts with
   |some cs=>cond (isU8 P e)
    (match toBytes cs with
     |some l=>gd (bytesIn cs&&Nat.beq l.length len) (K (.slc H.next 0 len (.n len)) (H.new (.bytes l e (.n len))))
     |none=>False)
    (K (.slc H.next 0 len (.n len)) (H.new (.row cs e (.n cs.length))))
   |none=>False)
  |_,_=>False
 |_=>False
theorem buildSlice_ok {t:TypeId} {len:Nat} {parts:List (Nat×AVal)} {ps:Array (Nat×Value)} {K:AVal->AHeap->Prop} (h:buildSliceA P t len parts H K) (hi:Inv w0 F0 ι H w) (hd:PartsDen ι parts ps.toList):Ok w0 F0 ι K ((Instr.buildSlice t len ps).run P w):=by
 unfold buildSliceA at h
 split at h
 ·rename_i e hu
  split at h
  ·rename_i sz z hs hz
   obtain⟨hc,h⟩:=gd_out h
   simp only[Bool.and_eq_true] at hc
   have h4:=Nat.eq_of_beq_eq_true hc.1
   have h5:=ble_le hc.2
   split at h
   ·rename_i cs hcs
    have hrow:((Array.range (len*(sz+1))).map (fun i=>z.cells[i % z.cells.size]!))=(List.replicate len z.cells.toList).flatten.toArray:=by
     rw[←zeros_cells z sz h4]
     simp[←Array.toList_inj]
    obtain⟨vs,hf,hden⟩:=fillA_ok (ι:=ι) (placeArr (sz+1)) hd (cells:=repL len (AVal.lit z).cells) (cs:=(List.replicate len z.cells.toList).flatten.toArray) (by simpa using repL_den (Den.cells (Den.lit (ι:=ι) (v:=z)) rfl) len) hcs
    have hrun:(Instr.buildSlice t len ps).run P w=.ok (.slice (some ⟨w.heap.size,0,none⟩) len len) {w with heap:=w.heap.push (.cells vs e)}:=by
     have hz0:((if len*(sz+1)=0 then pure #[] else do pure (←zeroValue e).cells:Sem (Array Value)).run P w).andThen (fun zero w'=>Result.ok ((Array.range (len*(sz+1))).map (fun i=>zero[i % zero.size]!)) w')=.ok ((List.replicate len z.cells.toList).flatten.toArray) w:=by
      by_cases hl:len=0
      ·subst hl
       have hr0:Array.range 0=#[]:=rfl
       simp[hr0]
      ·rw[if_neg (Nat.mul_ne_zero hl (by omega))]
       simp only[Sem.run_bind,run_zero hz,Result.andThen_ok,Sem.run_pure,hrow]
     have hlim:¬(len*(sz+1)>2 ^ 24):=by have:(2:Nat) ^ 24=16777216:=by decide
                                        omega
     have hplace:(fun i=>some (i*(sz+1),sz+1))=placeArr (sz+1):=rfl
     simp only[Instr.buildSlice,Sem.run_bind,run_underlying hu,Result.andThen_ok,run_sizeOf hs]
     rw[if_neg hlim]
     by_cases hl:len=0
     ·subst hl
      simp only[Nat.zero_mul,if_true,Sem.run_pure,Result.andThen_ok,Sem.run_bind]
      have hr0:Array.range 0=#[]:=rfl
      simp only[hr0,Array.map_empty,hplace]
      simp only[List.replicate_zero,List.flatten_nil] at hf
      have:(([]:List Value).toArray)=#[]:=rfl
      rw[this] at hf
      rw[hf]
      simp[run_newRow]
     ·rw[if_neg (Nat.mul_ne_zero hl (by omega))]
      simp only[Sem.run_bind,run_zero hz,Result.andThen_ok,Sem.run_pure,hrow,hplace,hf,run_newRow]
    rw[hrun]
    cases hb:isU8 P e with
    |true=>
     rw[hb] at h
     simp only[cond_true] at h
     split at h
     ·rename_i l hl
      obtain⟨hc2,h⟩:=gd_out h
      simp only[Bool.and_eq_true] at hc2
      have hlen:=Nat.eq_of_beq_eq_true hc2.2
      have hvs:=toBytes_ok hden hl hc2.1
      obtain⟨ι',hle,hn,hinv⟩:=hi.new (b:=.bytes l e (.n len)) (o:=.cells vs e (0,0)) ⟨[],(0,0),by simp[←hvs],by show _<=_;simp[hlen],fun k _ hh=>by simp at hh⟩
      exact⟨_,_,ι',h,.slc hn (Nat.le_refl _) (.inl rfl) rfl,hle,hinv⟩
     ·exact h.elim
    |false=>
     rw[hb] at h
     simp only[cond_false] at h
     obtain⟨ι',hle,hn,hinv⟩:=hi.new (row_den (e:=e) hden)
     exact⟨_,_,ι',h,.slc hn (Nat.le_refl _) (.inl rfl) rfl,hle,hinv⟩
   ·exact h.elim
  ·exact h.elim
 ·exact h.elim
def findM (name:String):List Method->Option Method
 |[]=>none
 |m::r=>cond (m.name==name) (some m) (findM name r)
theorem findM_eq (name:String):∀(l:List Method),findM name l=l.find? (·.name==name)
 |[]=>rfl
 |m::r=>by simp only[findM,List.find?_cons,findM_eq name r];cases (m.name==name)<;>rfl
theorem run_fieldPlace {fld:Field} {k r off:Nat} (hs:szA P fld.type=some (k+1)):(fieldPlace ⟨r,off,none⟩ fld).run P w=.ok ⟨r,addA off fld.offset,none⟩ w:=by
 simp[fieldPlace,run_sizeOf hs,addr_add,addA_eq]
theorem run_wrapNil (ts:Array TypeId) (u:TypeId) (a:Addr) (x y:String):(Builtin.ssaWrapNilChk_ ts u #[.pointer (some a),strVal x,strVal y]).run P w=.ok (.pointer (some a)) w:=rfl
def offV:AVal->Nat->Option AVal
 | .ptr id off,d=>some (.ptr id (addA off d))
 | .sp x off,d=>some (.sp x (addA off d))
 | .fpt cs off,d=>some (.fpt cs (addA off d))
 |_,_=>none
theorem offV_ok {v v':AVal} {d:Nat} {x:Value} (h:offV v d=some v') (hd:Den ι v x):∃r off,x=.pointer (some ⟨r,off,none⟩)/\Den ι v' (.pointer (some ⟨r,addA off d,none⟩)):=by
 cases hd<;>simp only[offV] at h<;>first
  |(cases h;done)
  |(cases h
    rename_i hr
    exact⟨_,_,rfl,.ptr hr⟩)
  |(cases h
    rename_i had
    exact⟨_,_,rfl,.sp had⟩)
  |(cases h
    rename_i hm hv
    exact⟨_,_,rfl,.fpt hm hv⟩)
def methA (P:Program):Nat->AVal->String->AHeap->(FuncId->AVal->Prop)->Prop
 |0,_,_,_,_=>False
 |n+1,.ifc t v,name,H,K=>
  match P.info? t with
  |some i=>match findM name i.methods.toList with
   |some m=>match m.path.toList,m.func with
    |[],some (f,pr)=>match P.underlying t,pr with
     |some (.pointer _),true=>K f v
     |some (.pointer e),false=>match offV v 0 with
      |some _=>loadA P e v H (fun x _=>K f x)
      |none=>False
     |some _,false=>K f v
     |_,_=>False
    |[s],none=>match P.underlying s.struct,s.deref with
     |some (.struct fs),true=>match nthA fs.toList s.index with
      |some fld=>match szA P fld.type with
       |some (_+1)=>match offV v fld.offset with
        |some v'=>loadA P fld.type v' H (fun x _=>methA P n x name H K)
        |none=>False
       |_=>False
      |none=>False
     |some (.struct fs),false=>match aggL v,nthA fs.toList s.index with
      |some cs,some fld=>partA P fld.type cs fld.offset (fun x=>methA P n x name H K)
      |_,_=>False
     |_,_=>False
    |_,_=>False
   |none=>False
  |none=>False
 |_,_,_,_,_=>False
theorem meth_ok:∀(n d:Nat) {x:AVal} {t:TypeId} {v:Value} {name:String} {K:FuncId->AVal->Prop},methA P n x name H K->Inv w0 F0 ι H w->Den ι x (.iface t v)->
 ∃f a r,(method (d+n) t v name).run P w=.ok (f,r) w/\Den ι a r/\K f a:=by
 intro n
 induction n with
 |zero=>intro d x t v name K h;exact h.elim
 |succ n ih=>
  intro d x t v name K h hi hx
  have e1:d+(n+1)=(d+n)+1:=by omega
  rw[e1]
  cases hx with
  |lit=>exact h.elim
  |any _ _=>exact h.elim
  |top=>exact h.elim
  |ite _ _=>exact h.elim
  |mp _=>exact h.elim
  |ifc hv=>
  rename_i a
  simp only[methA] at h
  split at h
  ·rename_i i hinf
   split at h
   ·rename_i m hm
    have hm':i.methods.find? (·.name==name)=some m:=by
     rw[findM_eq] at hm
     rw[←Array.find?_toList]
     exact hm
    split at h
    ·rename_i f pr hp hf
     have hpath:m.path.isEmpty=true:=by
      have:m.path=#[]:=by rw[←Array.toList_inj];exact hp
      rw[this];rfl
     have base:∀{r:Value},(receiverAt t (.val v) pr (some ((name.splitOn ".").getLastD name))).run P w=.ok r w->(method ((d+n)+1) t v name).run P w=.ok (f,r) w:=by
      intro r hr
      simp only[method,Sem.run_bind,run_typeInfo hinf,Result.andThen_ok,hm',hp,follow,Sem.run_pure,hf,hpath,if_true,hr]
     split at h
     ·rename_i e hu
      exact⟨f,a,v,base (by simp[receiverAt,run_underlying hu,Place.get]),hv,h⟩
     ·rename_i e hu
      split at h
      ·rename_i v0 hoff
       obtain⟨x,y,hrun,hden,hK⟩:=loadA_ro (P:=P) (K:=fun x _=>K f x) h hi hv
       have hrun:=hrun w rfl
       obtain⟨r,off,rfl,_⟩:=offV_ok hoff hv
       have hl:(loadVar e ⟨r,off,none⟩).run P w=.ok y w:=by
        rw[←hrun];simp[Instr.loadAt,Instr.sureAddr]
       refine⟨f,x,y,base ?_,hden,hK⟩
       simp only[receiverAt,Sem.run_bind,run_underlying hu,Result.andThen_ok,Place.get,Sem.run_pure,run_wrapNil,asAddr,hl]
      ·exact h.elim
     ·rename_i d0 hnp hu
      refine⟨f,a,v,base ?_,hv,h⟩
      simp only[receiverAt,Sem.run_bind,run_underlying hu,Result.andThen_ok]
      cases d0<;>first|rfl|exact(hnp _ hu).elim
     ·exact h.elim
    ·rename_i s hp hf
     have hmeth:∀{xt:TypeId} {px:Place} {t':TypeId} {v':Value},(follow [s] t (.val v)).run P w=.ok (xt,px) w->(px.get xt).run P w=.ok (.iface t' v') w->∀{res:FuncId×Value},(method (d+n) t' v' name).run P w=.ok res w->(method ((d+n)+1) t v name).run P w=.ok res w:=by
      intro xt px t' v' h1 h2 res h3
      simp only[method,Sem.run_bind,run_typeInfo hinf,Result.andThen_ok,hm',hp,h1,hf,h2,h3]
     split at h
     ·rename_i fs hu hder
      split at h
      ·rename_i fld hfld
       rw[nthA_eq] at hfld
       have hfld':fs[s.index]?=some fld:=by simpa using hfld
       split at h
       ·rename_i k hsz
        split at h
        rotate_left
        ·exact h.elim
        rename_i v0 hoff
        obtain⟨r,off,rfl,hv'⟩:=offV_ok hoff hv
        obtain⟨x,y,hrun,hden,hK⟩:=loadA_ro (P:=P) (K:=fun x _=>methA P n x name H K) h hi hv'
        have hrun:=hrun w rfl
        have hl:(loadVar fld.type ⟨r,addA off fld.offset,none⟩).run P w=.ok y w:=by
         rw[←hrun];simp[Instr.loadAt,Instr.sureAddr]
        have hy:∃t' v',y=.iface t' v':=by
         cases n with
         |zero=>exact hK.elim
         |succ n=>
          cases x<;>try exact hK.elim
          cases hden
          exact⟨_,_,rfl⟩
        obtain⟨t',v',rfl⟩:=hy
        obtain⟨f,a',rr,hrm,hda,hKf⟩:=ih d hK hi hden
        refine⟨f,a',rr,hmeth (xt:=fld.type) (px:=.var ⟨r,addA off fld.offset,none⟩) ?_ ?_ hrm,hda,hKf⟩
        ·have hfp:=run_fieldPlace (P:=P) (w:=w) (r:=r) (off:=off) hsz
         simp only[follow,Sem.run_bind,run_underlying hu,Result.andThen_ok,hfld',hder,if_true,Place.get,Sem.run_pure,asAddr,hfp]
        ·simpa[Place.get] using hl
       ·exact h.elim
      ·exact h.elim
     ·rename_i fs hu hder
      split at h
      ·rename_i cs fld hcs hfld
       rw[nthA_eq] at hfld
       have hfld':fs[s.index]?=some fld:=by simpa using hfld
       obtain⟨c,rfl,hc⟩:=aggL_ok hcs hv
       obtain⟨x,y,hrun,hden,hK⟩:=partA_ok (w:=w) h hc
       have hy:∃t' v',y=.iface t' v':=by
        cases n with
        |zero=>exact hK.elim
        |succ n=>
         cases x<;>try exact hK.elim
         cases hden
         exact⟨_,_,rfl⟩
       obtain⟨t',v',rfl⟩:=hy
       obtain⟨f,a',rr,hrm,hda,hKf⟩:=ih d hK hi hden
       refine⟨f,a',rr,hmeth (xt:=fld.type) (px:=.val (.iface t' v')) ?_ ?_ hrm,hda,hKf⟩
       ·simp only[follow,Sem.run_bind,run_underlying hu,Result.andThen_ok,hfld',hder,Bool.false_eq_true,if_false,hrun,Sem.run_pure]
       ·simp[Place.get]
      ·exact h.elim
     ·exact h.elim
    ·exact h.elim
   ·exact h.elim
  ·exact h.elim
end
end Go.Sx
namespace Go.Sx
open Go
variable [Syms]
section
variable {P:Program} {w0 w:World} {F0:Fp} {ι:Inj} {H:AHeap}
def rangeA (P:Program) (t:TypeId) (x:AVal) (H:AHeap) (K:AVal->AHeap->Prop):Prop:=
 match P.underlying t,x with
 |some .string,.str l=>K (.ptr H.next 0) (H.new (.siter l 0))
 |_,_=>False
theorem range_ok {t:TypeId} {x:AVal} {a:Value} {K:AVal->AHeap->Prop} (h:rangeA P t x H K) (hi:Inv w0 F0 ι H w) (hx:Den ι x a):Ok w0 F0 ι K ((Instr.range t a).run P w):=by
 unfold rangeA at h
 split at h
 ·rename_i l hu
  cases hx
  obtain⟨ι',hle,hn,hinv⟩:=hi.new (b:=.siter l 0) (o:=.stringIter ⟨l.toArray⟩ 0) rfl
  have hrun:(Instr.range t (.string ⟨l.toArray⟩)).run P w=.ok (.pointer (some ⟨w.heap.size,0,none⟩)) {w with heap:=w.heap.push (.stringIter ⟨l.toArray⟩ 0)}:=by
   simp only[Instr.range,Sem.run_bind,run_underlying hu,Result.andThen_ok,Sem.run_pure,run_newObj]
  rw[hrun]
  exact⟨_,_,ι',h,.ptr hn,hle,hinv⟩
 ·exact h.elim
def nextA (x:AVal) (s:Bool) (H:AHeap) (K:AVal->AHeap->Prop):Prop:=
 match x,s with
 | .ptr id 0,true=>match H.get id with
   |some (.siter l pos)=>gd (!H.isRo id)<|br (Nat.blt pos l.length)
    (K (.tup [.lit (.bool true),.lit (.int .i64 pos),.lit (.int .i32 (Utf8.decode ⟨l.toArray⟩ pos).1)]) (H.set id (.siter l (pos+(Utf8.decode ⟨l.toArray⟩ pos).2))))
    (K (.tup [.lit (.bool false)]) H)
   |_=>False
 |_,_=>False
theorem next_ok {x:AVal} {a:Value} {s:Bool} {t:TypeId} {K:AVal->AHeap->Prop} (h:nextA x s H K) (hi:Inv w0 F0 ι H w) (hx:Den ι x a):Ok w0 F0 ι K ((Instr.next a s t).run P w):=by
 unfold nextA at h
 split at h
 ·rename_i id
  cases hx with
  |@ptr _ _ r hr=>
  split at h
  ·rename_i l pos hg
   obtain⟨r',o,hr',ho,hb,_⟩:=hi.blk _ _ hg
   rw[hr] at hr';cases hr'
   have hb:o=.stringIter ⟨l.toArray⟩ pos:=hb
   subst hb
   have hsz:(⟨l.toArray⟩:ByteArray).size=l.length:=by simp[ByteArray.size]
   have hget:(getObj r).run P w=.ok (.stringIter ⟨l.toArray⟩ pos) w:=by simp[getObj,Sem.run,ho]
   obtain⟨hro,h⟩:=gd_out h
   simp only[Bool.not_eq_true'] at hro
   rcases br_out h with⟨hc,hK⟩|⟨hc,hK⟩
   ·have hlt:=blt_lt hc
    have hset:∀o',(setObj r o').run P w=.ok () (setBlk w r o'):=fun o'=>by simp[setObj,Sem.run,ho,setBlk]
    have hrun:(Instr.next (.pointer (some ⟨r,0,none⟩)) true t).run P w=.ok (.tuple #[.bool true,.int .i64 pos,.int .i32 (Utf8.decode ⟨l.toArray⟩ pos).1]) (setBlk w r (.stringIter ⟨l.toArray⟩ (pos+(Utf8.decode ⟨l.toArray⟩ pos).2))):=by
     simp only[Instr.next,Sem.run_bind,hget,Result.andThen_ok,hsz,hlt,if_true,hset,Sem.run_pure,goInt]
    rw[hrun]
    exact⟨_,_,ι,hK,.tup (.cons .lit (.cons .lit (.cons .lit .nil))),Inj.le_refl _,hi.set (b':=.siter l (pos+(Utf8.decode ⟨l.toArray⟩ pos).2)) (o':=.stringIter ⟨l.toArray⟩ (pos+(Utf8.decode ⟨l.toArray⟩ pos).2)) hg hr hro rfl (setBlk_get ho) (fun k hk=>setBlk_other hk) setBlk_size rfl rfl rfl⟩
   ·have hge:¬pos<l.length:=fun hlt=>by
     have:Nat.blt pos l.length=true:=Nat.ble_eq_true_of_le hlt
     rw[this] at hc;cases hc
    have hrun:(Instr.next (.pointer (some ⟨r,0,none⟩)) true t).run P w=.ok (.tuple #[.bool false]) w:=by
     simp only[Instr.next,Sem.run_bind,hget,Result.andThen_ok,hsz,hge,if_false,Sem.run_pure]
    rw[hrun]
    exact⟨_,_,ι,hK,.tup (.cons .lit .nil),Inj.le_refl _,hi⟩
  ·exact h.elim
 ·exact h.elim
def aheadA (P:Program) (t:TypeId) (v:AVal) (name:String):Bool:=
 match P.info? t with
 |some i=>match findM name i.methods.toList with
  |some m=>match m.path.toList,m.func with
   |[],some (_,true)=>true
   |[],some (_,false)=>match P.underlying t,v with
    |some (.pointer _),.ptr _ _=>true
    |some (.pointer _),_=>false
    |some _,_=>true
    |none,_=>false
   |_,_=>false
  |none=>false
 |none=>false
theorem ahead_ok {t:TypeId} {a:AVal} {v:Value} {name:String} (h:aheadA P t a name=true) (hv:Den ι a v) (n:Nat):(nilAhead (n+1) t v name).run P w=.ok (some false) w:=by
 unfold aheadA at h
 split at h
 ·rename_i i hinf
  split at h
  ·rename_i m hm
   have hm':i.methods.find? (·.name==name)=some m:=by
    rw[findM_eq] at hm
    rw[←Array.find?_toList]
    exact hm
   split at h
   ·rename_i f hp hf
    simp only[nilAhead,Sem.run_bind,run_typeInfo hinf,Result.andThen_ok,hm',hp,followBlind,Sem.run_pure,hf]
   ·rename_i f hp hf
    simp only[nilAhead,Sem.run_bind,run_typeInfo hinf,Result.andThen_ok,hm',hp,followBlind,Sem.run_pure,hf]
    split at h
    ·rename_i e hu
     cases hv
     simp only[run_underlying hu,Result.andThen_ok,Sem.run_pure]
    ·cases h
    ·rename_i d hd hu _
     simp only[run_underlying hu,Result.andThen_ok]
     cases d<;>first|rfl|exact(hd _ rfl).elim
    ·cases h
   ·cases h
  ·cases h
 ·cases h
def nilA (P:Program) (x:AVal) (K:AVal->Prop):Prop:=
 match x with
 | .ptr id off=>K (.ptr id off)
 | .slc a b c d=>K (.slc a b c d)
 | .rsl a b c d=>K (.rsl a b c d)
 | .map m=>K (.map m)
 | .ifc t v=>K (.ifc t v)
 | .fn (.func f) a b=>K (.fn (.func f) a b)
 | .fn (.method name) (.ifc t v::a) b=>gd (aheadA P t v name) (K (.fn (.method name) (.ifc t v::a) b))
 | .sp x o=>K (.sp x o)
 | .fpt cs o=>K (.fpt cs o)
 | .bp l k=>K (.bp l k)
 | .fmp f n k=>K (.fmp f n k)
 | .fwp f wd n k o=>K (.fwp f wd n k o)
 | .lit (.pointer (some ⟨g,k,none⟩))=>K (.lit (.pointer (some ⟨g,k,none⟩)))
 | .smp x=>K (.smp x)
 |_=>False
def nilOf (v:Value):Sem Next:=
 match v with
 | .pointer none| .nilIface| .nilFunc=>runtimePanic .nilDeref
 | .func (.method name) first captured=>
   match(first[0]?:Option Value) with
   |some .nilIface=>runtimePanic .nilDeref
   |some (.iface t w)=>do
    if(←nilAhead ((←program).types.size+Made.depth) t w name)!=some false then
     unsupported (.noEntry "op/nilCheck.the method's receiver behind this interface value is a nil pointer, or cannot be seen to be none, and the arguments act or may panic (ledger 612)")
    pure (.value (.func (.method name) first captured))
   |_=>pure (.value (.func (.method name) first captured))
 |x=>pure (.value x)
theorem nil_st {x:AVal} {a:Value} {K:AVal->Prop} (h:nilA P x K) (hx:Den ι x a):∃y,(∀w:World,(nilOf a).run P w=.ok (.value a) w)/\Den ι y a/\K y:=by
 unfold nilA at h
 split at h
 ·cases hx with|ptr hr=>exact⟨_,fun _=>rfl,.ptr hr,h⟩
 ·cases hx with|slc hr hl ho hc=>exact⟨_,fun _=>rfl,.slc hr hl ho hc,h⟩
 ·cases hx with|rsl hr hl ho hc=>exact⟨_,fun _=>rfl,.rsl hr hl ho hc,h⟩
 ·cases hx with|map hr=>exact⟨_,fun _=>rfl,.map hr,h⟩
 ·cases hx with|ifc hr=>exact⟨_,fun _=>rfl,.ifc hr,h⟩
 ·cases hx with|fn hr hr'=>exact⟨_,fun _=>rfl,.fn hr hr',h⟩
 ·rename_i name t v as b
  obtain⟨hc,hK⟩:=gd_out h
  cases hx with
  |fn hr hr'=>
  cases hr with
  |cons h1 h2=>
  cases h1 with
  |@ifc _ _ y h1=>
  rename_i ys xs
  refine⟨_,fun w=>?_,.fn (.cons (.ifc h1) h2) hr',hK⟩
  have hd:P.types.size+Made.depth=(P.types.size+99)+1:=rfl
  have ha:=ahead_ok (w:=w) hc h1 (P.types.size+99)
  have e0:(Value.iface t y::xs).toArray[0]?=some (.iface t y):=by simp
  simp only[nilOf,e0,Sem.run_bind,run_program,Result.andThen_ok,hd,ha]
  rfl
 ·cases hx with|sp hr=>exact⟨_,fun _=>rfl,.sp hr,h⟩
 ·cases hx with|fpt hm hv=>exact⟨_,fun _=>rfl,.fpt hm hv,h⟩
 ·cases hx with|bp hm ho=>exact⟨_,fun _=>rfl,.bp hm ho,h⟩
 ·cases hx with|fmp hm hn hv ho=>exact⟨_,fun _=>rfl,.fmp hm hn hv ho,h⟩
 ·cases hx with|fwp hm hn hv hk ho=>exact⟨_,fun _=>rfl,.fwp hm hn hv hk ho,h⟩
 ·cases hx;exact⟨_,fun _=>rfl,.lit,h⟩
 ·cases hx with|smp hr=>exact⟨_,fun _=>rfl,.smp hr,h⟩
 ·exact h.elim
theorem nil_ok {x:AVal} {a:Value} {K:AVal->AHeap->Prop} (h:nilA P x (fun v=>K v H)) (_hi:Inv w0 F0 ι H w) (hx:Den ι x a):∃y,(nilOf a).run P w=.ok (.value a) w/\Den ι y a/\K y H:=
 let ⟨y,hr,hd,hK⟩:=nil_st h hx
 ⟨y,hr w,hd,hK⟩
end
end Go.Sx
namespace Go.Sx
open Go
variable [Syms]
section
variable {P:Program} {w0 w:World} {F0:Fp} {ι:Inj} {H:AHeap}
theorem newsB_pre {x:AVal} {xv:Value} {K:List UInt8->Prop} (h:newsB x H K) (hi:Inv w0 F0 ι H w) (hx:Den ι x xv):∃l,K l/\(Builtin.lenOf xv).run P w=.ok l.length w/\∀k,k<=l.length->(Builtin.firstCells 1 k xv).run P w=.ok ((l.take k).map byteV).toArray w:=by
 unfold newsB at h
 split at h
 ·rename_i l
  cases hx
  refine⟨l,h,by simp[Builtin.lenOf,ByteArray.size],fun k hk=>?_⟩
  have:((⟨l.toArray⟩:ByteArray).extract 0 k).data=(l.take k).toArray:=by
   rw[extract_str]
   simp
  simp only[Builtin.firstCells,Sem.run_pure,this]
  congr 1
  simp
  rfl
 ·rename_i id off n cap
  split at h
  ·rename_i l e tot hg
   obtain⟨hc,hK⟩:=gd_out h
   have hle:=ble_le hc
   obtain⟨r,o,hr,ho,hb,_⟩:=hi.blk _ _ hg
   cases hx with
   |slc hr' hl hoff hcap=>
   rename_i off' r' c'
   rw[hr] at hr';cases hr'
   have hlen:((l.drop off).take n).length=n:=by simp;omega
   refine⟨_,hK,by simp[Builtin.lenOf,hlen],fun k hk=>?_⟩
   rw[hlen] at hk
   simp only[Builtin.firstCells,Nat.mul_one]
   rw[List.take_take,Nat.min_eq_left hk]
   rcases hoff with rfl|h0
   ·exact loadCells_bytes (ι:=ι) (b:=.bytes l e tot) hb (by omega) ho
   ·have:k=0:=by omega
    subst this
    simp[loadCells,loadCellsFrom]
  ·exact h.elim
 ·cases hx
  exact⟨[],h,by simp[Builtin.lenOf],fun k hk=>by simp[Builtin.firstCells]⟩
 ·rename_i l
  cases hx with
  |by0=>
   refine⟨[],h,by simp[Builtin.lenOf],fun k hk=>?_⟩
   have:k=0:=by simpa using hk
   subst this
   rename_i a c
   cases a with
   |none=>simp[Builtin.firstCells]
   |some a=>simp[Builtin.firstCells,loadCells,loadCellsFrom]
  |@by_ _ r c off pre rest e fz hm hl hoff=>
  have ho:=(hi.fz.frz _ _ hm).1
  subst hoff
  refine⟨l,h,by simp[Builtin.lenOf],fun k hk=>?_⟩
  simp only[Builtin.firstCells,Nat.mul_one]
  rw[run_loadCells ho pre.length k (by simp;omega)]
  congr 2
  rw[List.drop_left,List.take_append_of_le_length (by simp;omega),List.map_take]
 ·cases hx with
  |@e0 a c=>
  refine⟨[],h,by simp[Builtin.lenOf],fun k hk=>?_⟩
  have:k=0:=by simpa using hk
  subst this
  cases a with
  |none=>simp[Builtin.firstCells]
  |some a=>simp[Builtin.firstCells,loadCells,loadCellsFrom]
 ·exact h.elim
theorem newsR_pre {sz:Nat} {x:AVal} {xv:Value} {K:Nat->List AVal->Prop} (h:newsR sz x H K) (hi:Inv w0 F0 ι H w) (hx:Den ι x xv):∃n l,K n l/\(Builtin.lenOf xv).run P w=.ok n w/\∀k,k<=n->∃vs,DenL ι (l.take (k*sz)) vs/\vs.length=k*sz/\(Builtin.firstCells sz k xv).run P w=.ok vs.toArray w:=by
 unfold newsR at h
 split at h
 ·rename_i id off n cap
  split at h
  ·rename_i cs e tot hg
   obtain⟨hc,hK⟩:=gd_out h
   have hle:=ble_le hc
   obtain⟨r,o,hr,ho,hb,_⟩:=hi.blk _ _ hg
   cases hx with
   |slc hr' hl hoff hcap=>
   rename_i off' r' c'
   rw[hr] at hr';cases hr'
   refine⟨n,_,hK,by simp[Builtin.lenOf],fun k hk=>?_⟩
   have hks:k*sz<=n*sz:=Nat.mul_le_mul_right _ hk
   obtain⟨vs,hd,hvl,hrun⟩:=loadCells_row (P:=P) (off:=off) (len:=k*sz) hb (by omega) ho
   refine⟨vs,by rw[List.take_take,Nat.min_eq_left hks];exact hd,hvl,?_⟩
   simp only[Builtin.firstCells]
   rcases hoff with rfl|h0
   ·exact hrun w rfl
   ·have:k=0:=by omega
    subst this
    have:vs=[]:=by simpa using hvl
    subst this
    simp[loadCells,loadCellsFrom]
  ·exact h.elim
 ·cases hx
  exact⟨0,[],h,by simp[Builtin.lenOf],fun k hk=>by
   have:k=0:=by omega
   subst this
   exact⟨[],by simp;exact .nil,by simp,by simp[Builtin.firstCells]⟩⟩
 ·rename_i x off n
  split at h
  ·rename_i cs e tot hg
   obtain⟨hc,hK⟩:=gd_out h
   have hle:=ble_le hc
   cases hx with
   |ssl had hl=>
   obtain⟨o,_,ho,hb⟩:=hi.stat hg had
   refine⟨n,_,hK,by simp[Builtin.lenOf],fun k hk=>?_⟩
   have hks:k*sz<=n*sz:=Nat.mul_le_mul_right _ hk
   obtain⟨vs,hd,hvl,hrun⟩:=loadCells_row (P:=P) (off:=off) (len:=k*sz) hb (by omega) ho
   refine⟨vs,by rw[List.take_take,Nat.min_eq_left hks];exact hd,hvl,?_⟩
   simp only[Builtin.firstCells]
   exact hrun w rfl
  ·exact h.elim
 ·cases hx with
  |@e0 a c=>
  refine⟨0,[],h,by simp[Builtin.lenOf],fun k hk=>?_⟩
  have:k=0:=by omega
  subst this
  refine⟨[],by simp;exact .nil,by simp,?_⟩
  cases a with
  |none=>simp[Builtin.firstCells]
  |some a=>simp[Builtin.firstCells,loadCells,loadCellsFrom]
 ·exact h.elim
theorem copy_ok {ts:Array TypeId} {u:TypeId} {d x:AVal} {dv xv:Value} {K:AVal->AHeap->Prop} (h:copyA P ts d x H K) (hi:Inv w0 F0 ι H w) (hd:Den ι d dv) (hx:Den ι x xv):
 Ok w0 F0 ι K ((Builtin.copy_ ts u #[dv,xv]).run P w):=by
 unfold copyA at h
 split at h
 ·rename_i t ts' id off n cap hts
  have e0:ts[0]?=some t:=by
   have:ts.toList[0]?=some t:=by rw[hts];rfl
   simpa using this
  split at h
  ·rename_i e hu
   cases hd with
   |slc hr hl hoff hcap=>
   rename_i off' r c'
   have e2:(#[Value.slice (some ⟨r,off',none⟩) n c',xv]:Array Value)[0]?=some (.slice (some ⟨r,off',none⟩) n c'):=rfl
   have e3:(#[Value.slice (some ⟨r,off',none⟩) n c',xv]:Array Value)[1]?=some xv:=rfl
   cases hb:isU8 P e with
   |true=>
    rw[hb] at h
    simp only[cond_true] at h
    obtain⟨hsz,h⟩:=gd_out h
    have hsz:=some_getD (Nat.eq_of_beq_eq_true hsz) (by omega)
    obtain⟨l,hK,hlen,hn⟩:=newsB_pre (P:=P) h hi hx
    split at hK
    ·rename_i old e' tot hg
     obtain⟨r',o,hr',ho,hbd,_⟩:=hi.blk _ _ hg
     rw[hr] at hr';cases hr'
     obtain⟨rest,fz,rfl,ht,hfz⟩:=hbd
     have hfc:=hn (Nat.min l.length n) (Nat.min_le_left _ _)
     have htk:l.take (Nat.min l.length n)=l.take n:=by
      show l.take (min l.length n)=_
      rcases Nat.le_total l.length n with hh|hh
      ·rw[Nat.min_eq_left hh,List.take_length,List.take_of_length_le hh]
      ·rw[Nat.min_eq_right hh]
     rw[htk] at hfc
     have hmin:(l.take n).length=Nat.min l.length n:=by rw[List.length_take,Nat.min_comm]
     have hmn:Nat.min l.length n<=n:=Nat.min_le_right _ _
     have hst:off+Nat.min l.length n<=old.length+rest.length->((storeCells ⟨r,off',none⟩ (((l.take n).map byteV).toArray).toList).run P w)=.ok () (setBlk w r (.cells (spliceV (old.map byteV++rest) off ((l.take n).map byteV)).toArray e' fz)):=by
      intro hle
      rcases hoff with rfl|h0
      ·have:=run_storeCells (P:=P) (r:=r) (off:=off') (e:=e') (fz:=fz) ((l.take n).map byteV) 0 w (old.map byteV++rest) ho (by simp only[List.length_append,List.length_map,hmin];omega) (fun k hk1 hk2=>hfz k (by simp only[List.length_map,hmin] at hk2;omega)) (by intro v hv;obtain⟨b,_,rfl⟩:=List.mem_map.1 hv;rfl)
       simpa using this
      ·have hn0:n=0:=by omega
       subst hn0
       simp only[List.take_zero,List.map_nil,storeCells,Sem.run_pure,spliceV_nil]
       rw[setBlk_self ho]
     have hrun:off+Nat.min l.length n<=old.length+rest.length->(Builtin.copy_ ts u #[.slice (some ⟨r,off',none⟩) n c',xv]).run P w=.ok (goInt (Nat.min l.length n)) (setBlk w r (.cells (spliceV (old.map byteV++rest) off ((l.take n).map byteV)).toArray e' fz)):=by
      intro hle
      simp only[Builtin.copy_,e0,e2,e3,Sem.run_bind,run_underlying hu,Result.andThen_ok,hlen,run_sizeOf hsz,hfc,hst hle,Sem.run_pure]
     rcases br_out hK with⟨hc,hK⟩|⟨_,hK⟩
     ·obtain⟨hro,hK⟩:=gd_out hK
      simp only[Bool.not_eq_true'] at hro
      have hle:=ble_le hc
      rw[hrun (by omega)]
      refine⟨_,_,ι,hK,.lit,Inj.le_refl _,?_⟩
      refine hi.set hg hr hro (b':=.bytes (spliceB old off (l.take n)) e' tot) ⟨rest,fz,?_,by rw[spliceB_length];exact ht,by rw[spliceB_length];exact hfz⟩ (setBlk_get ho) (fun k hk=>setBlk_other hk) setBlk_size rfl rfl rfl
      rw[spliceB_map]
      congr 2
      have hbnd:off+((l.take n).map byteV).length<=(old.map byteV).length:=by simp only[List.length_map,hmin];exact hle
      rw[spliceV_eq _ _ _ (by rw[List.length_append];omega),spliceV_eq _ _ _ hbnd,List.take_append_of_le_length (by omega),List.drop_append_of_le_length hbnd]
      simp
     ·obtain⟨hc,hK⟩:=gd_out hK
      simp only[Bool.and_eq_true,Bool.not_eq_true'] at hc
      obtain⟨ho',hce,hro⟩:=hc
      have ho':=Nat.eq_of_beq_eq_true ho'
      have hce:=capEnd_ok hce hcap ht
      have hle:off+Nat.min l.length n<=old.length+rest.length:=by omega
      rw[hrun hle]
      refine⟨_,_,ι,hK,.lit,Inj.le_refl _,?_⟩
      have hlr:(old++l.take n).length+(rest.drop (Nat.min l.length n)).length=old.length+rest.length:=by
       rw[List.length_append,hmin,List.length_drop];omega
      refine hi.set hg hr hro (b':=.bytes (old++l.take n) e' tot) ⟨rest.drop (Nat.min l.length n),fz,?_,by rw[hlr];exact ht,by rw[hlr];exact hfz⟩ (setBlk_get ho) (fun k hk=>setBlk_other hk) setBlk_size rfl rfl rfl
      congr 2
      rw[spliceV_eq _ _ _ (by rw[List.length_append,List.length_map,List.length_map,hmin];exact hle),List.length_map,hmin]
      have h1:off=(old.map byteV).length:=by rw[List.length_map];exact ho'
      rw[h1,List.take_left,List.drop_append]
      simp
    ·exact hK.elim
   |false=>
    rw[hb] at h
    simp only[cond_false] at h
    split at h
    ·rename_i sz hsz
     obtain⟨m,l,hK,hlen,hn⟩:=newsR_pre (P:=P) h hi hx
     split at hK
     ·rename_i old e' tot hg
      obtain⟨hc,hK⟩:=gd_out hK
      simp only[Bool.and_eq_true,Bool.not_eq_true'] at hc
      have hro:=hc.2.2
      replace hc:_/\l.all oneA=true:=⟨hc.1,hc.2.1⟩
      have hle:=ble_le hc.1
      obtain⟨r',o,hr',ho,hbd,_⟩:=hi.blk _ _ hg
      rw[hr] at hr';cases hr'
      obtain⟨c,rest,rfl,hcd,ht⟩:=hbd
      have hcl:=hcd.length
      obtain⟨vs,hvd,hvl,hfc⟩:=hn (Nat.min m n) (Nat.min_le_left _ _)
      have hvl':=hvd.length
      have hone:∀v∈vs,v.oneCell'=true:=hvd.one (by
       rw[List.all_eq_true]
       intro a ha
       exact List.all_eq_true.1 hc.2 a (List.mem_of_mem_take ha))
      have hst:((storeCells ⟨r,off',none⟩ (vs.toArray).toList).run P w)=.ok () (setBlk w r (.cells (spliceV (c++rest) off vs).toArray e' (0,0))):=by
       rcases hoff with rfl|h0
       ·have:=run_storeCells (P:=P) (r:=r) (off:=off') (e:=e') (fz:=(0,0)) vs 0 w (c++rest) ho (by rw[List.length_append,hvl];omega) (fun k hk1 hk2 hh=>by simp at hh) hone
        simpa using this
       ·have hn0:n=0:=by omega
        subst hn0
        have:vs=[]:=by
         have:Nat.min m 0=0:=Nat.min_eq_right (Nat.zero_le _)
         rw[this] at hvl
         simpa using hvl
        subst this
        simp only[storeCells,Sem.run_pure,spliceV_nil]
        rw[setBlk_self ho]
      have hrun:(Builtin.copy_ ts u #[.slice (some ⟨r,off',none⟩) n c',xv]).run P w=.ok (goInt (Nat.min m n)) (setBlk w r (.cells (spliceV (c++rest) off vs).toArray e' (0,0))):=by
       simp only[Builtin.copy_,e0,e2,e3,Sem.run_bind,run_underlying hu,Result.andThen_ok,hlen,run_sizeOf hsz,hfc,hst,Sem.run_pure]
      rw[hrun]
      refine⟨_,_,ι,hK,.lit,Inj.le_refl _,?_⟩
      have hsp:spliceV (c++rest) off vs=spliceV c off vs++rest:=by
       have hbnd:off+vs.length<=c.length:=by rw[hvl];omega
       rw[spliceV_eq _ _ _ (by rw[List.length_append];omega),spliceV_eq _ _ _ hbnd,List.take_append_of_le_length (by omega),List.drop_append_of_le_length hbnd]
       simp
      rw[hsp]
      refine hi.set hg hr hro (b':=.row (splice old off (l.take ((Nat.min m n)*(sz+1)))) e' tot) ⟨spliceV c off vs,rest,rfl,DenL.splice hcd off hvd,by rw[spliceV_length];exact ht⟩ (setBlk_get ho) (fun k hk=>setBlk_other hk) setBlk_size rfl rfl rfl
     ·exact hK.elim
    ·exact h.elim
  ·exact h.elim
 ·rename_i t ts' hts
  have e0:ts[0]?=some t:=by
   have:ts.toList[0]?=some t:=by rw[hts];rfl
   simpa using this
  split at h
  ·rename_i e hu
   obtain⟨hb,h⟩:=gd_out h
   obtain⟨hsz,h⟩:=gd_out h
   have hsz:=some_getD (Nat.eq_of_beq_eq_true hsz) (by omega)
   obtain⟨l,hK,hlen,hn⟩:=newsB_pre (P:=P) h hi hx
   cases hd
   have e2:(#[Value.slice none 0 0,xv]:Array Value)[0]?=some (.slice none 0 0):=rfl
   have e3:(#[Value.slice none 0 0,xv]:Array Value)[1]?=some xv:=rfl
   have h0:=hn 0 (Nat.zero_le _)
   have hm:Nat.min l.length 0=0:=Nat.min_eq_right (Nat.zero_le _)
   have hrun:(Builtin.copy_ ts u #[.slice none 0 0,xv]).run P w=.ok (goInt 0) w:=by
    simp only[Builtin.copy_,e0,e2,e3,Sem.run_bind,run_underlying hu,Result.andThen_ok,hlen,hm,run_sizeOf hsz,h0,Sem.run_pure]
    rfl
   rw[hrun]
   exact⟨_,_,ι,hK,.lit,Inj.le_refl _,hi⟩
  ·exact h.elim
 ·exact h.elim
end
end Go.Sx
