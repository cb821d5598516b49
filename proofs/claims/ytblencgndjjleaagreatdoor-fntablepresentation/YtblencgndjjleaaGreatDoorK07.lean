/- Lemmas of this claim; the last text says what is proved. -/
import Derived.Test.YtblencgndjjleaaGreatDoorK06
import Derived.Laws.Small
set_option linter.all false
namespace Go.Sx
open Go
variable [Syms]
section
variable {P:Program} {w0 w:World} {F0:Fp} {ι:Inj} {H:AHeap}
def e_6:List AVal->Option (List UInt8)
 |[]=>some []
 | .lit (.int .u8 n)::r=>match e_6 r with
   |some l=>some (UInt8.ofNat n.toNat::l)
   |none=>none
 |_=>none
def g_3:List AVal->Bool
 |[]=>true
 | .lit (.int .u8 n)::r=>decide (0<=n)&&(decide (n<256)&&g_3 r)
 |_=>false
theorem f_1:∀{cs:List AVal} {vs:List Value} {l:List UInt8},DenL ι cs vs->e_6 cs=some l->g_3 cs=true->vs=l.map a_v
 |[],_,l,h,ht,_=>by cases h;simp[e_6] at ht;subst ht;rfl
 |c::cs,_,l,h,ht,hb=>by
  cases h with
  |cons hc hcs=>
   unfold e_6 at ht
   split at ht
   ·rename_i h;cases h
   ·rename_i n r heq
    cases heq
    split at ht
    ·rename_i l' hl'
     cases ht
     simp only[g_3,Bool.and_eq_true,decide_eq_true_eq] at hb
     cases hc
     rw[f_1 hcs hl' hb.2.2,List.map_cons,d_v n hb.1 hb.2.1]
    ·cases ht
   ·cases ht
def g_4(sz:Nat)(i:Nat):Option (Nat×Nat):=some (i*sz,sz)
def d_z(P:Program)(t:TypeId)(len:Nat)(parts:List (Nat×AVal))(H:AHeap)(K:AVal->AHeap->Prop):Prop:=
 match P.underlying t with
 |some (.slice e)=>match szA P e,c_z P e with
  |some (sz+1),some z=>gd (Nat.beq z.cells.size (sz+1)&&Nat.ble (len*(sz+1)) 16777216)
   (match k_m (g_4 (sz+1)) (r_x len (AVal.lit z).cells) parts with
   |some cs=>cond (h_O P e)
    (match e_6 cs with
     |some l=>gd (g_3 cs&&Nat.beq l.length len) (K (.slc H.next 0 len (.n len)) (H.new (.bytes l e (.n len))))
     |none=>False)
    (K (.slc H.next 0 len (.n len)) (H.new (.row cs e (.n cs.length))))
   |none=>False)
  |_,_=>False
 |_=>False
theorem g_5{t:TypeId}{len:Nat}{parts:List (Nat×AVal)}{ps:Array (Nat×Value)}{K:AVal->AHeap->Prop}(h:d_z P t len parts H K)(hi:Inv w0 F0 ι H w)(hd:PartsDen ι parts ps.toList):Ok w0 F0 ι K ((Instr.buildSlice t len ps).run P w):=by
 unfold d_z at h
 split at h
 ·rename_i e hu
  split at h
  ·rename_i sz z hs hz
   obtain⟨hc,h⟩:=a_h h
   simp only[Bool.and_eq_true] at hc
   have h4:=Nat.eq_of_beq_eq_true hc.1
   have h5:=a_B hc.2
   split at h
   ·rename_i cs hcs
    have hrow:((Array.range (len*(sz+1))).map (fun i=>z.cells[i % z.cells.size]!))=(List.replicate len z.cells.toList).flatten.toArray:=by
     rw[←e_3 z sz h4]
     simp[←Array.toList_inj]
    obtain⟨vs,hf,hden⟩:=g_M (ι:=ι) (g_4 (sz+1)) hd (cells:=r_x len (AVal.lit z).cells) (cs:=(List.replicate len z.cells.toList).flatten.toArray) (by simpa using g_Y (Den.cells (Den.lit (ι:=ι) (v:=z)) rfl) len) hcs
    have hrun:(Instr.buildSlice t len ps).run P w=.ok (.slice (some ⟨w.heap.size,0,none⟩) len len) {w with heap:=w.heap.push (.cells vs e)}:=by
     have hz0:((if len*(sz+1)=0 then pure #[] else do pure (←zeroValue e).cells:Sem (Array Value)).run P w).andThen (fun zero w'=>Result.ok ((Array.range (len*(sz+1))).map (fun i=>zero[i % zero.size]!)) w')=.ok ((List.replicate len z.cells.toList).flatten.toArray) w:=by
      by_cases hl:len=0
      ·subst hl
       have hr0:Array.range 0=#[]:=rfl
       simp[hr0]
      ·rw[if_neg (Nat.mul_ne_zero hl ac)]
       simp only[Sem.run_bind,b_g hz,Result.andThen_ok,Sem.run_pure,hrow]
     have hlim:¬(len*(sz+1)>2 ^ 24):=by have:(2:Nat) ^ 24=16777216:=by decide
                                        omega
     have hplace:(fun i=>some (i*(sz+1),sz+1))=g_4 (sz+1):=rfl
     simp only[Instr.buildSlice,Sem.run_bind,a_a hu,Result.andThen_ok,a_q hs]
     rw[if_neg hlim]
     by_cases hl:len=0
     ·subst hl
      simp only[Nat.zero_mul,if_true,Sem.run_pure,Result.andThen_ok,Sem.run_bind]
      have hr0:Array.range 0=#[]:=rfl
      simp only[hr0,Array.map_empty,hplace]
      simp only[List.replicate_zero,List.flatten_nil] at hf
      have:(([]:List Value).toArray)=#[]:=rfl
      rw[this] at hf
      rw[hf]
      simp[b_d]
     ·rw[if_neg (Nat.mul_ne_zero hl ac)]
      simp only[Sem.run_bind,b_g hz,Result.andThen_ok,Sem.run_pure,hrow,hplace,hf,b_d]
    rw[hrun]
    cases hb:h_O P e with
    |true=>
     rw[hb] at h
     simp only[cond_true] at h
     split at h
     ·rename_i l hl
      obtain⟨hc2,h⟩:=a_h h
      simp only[Bool.and_eq_true] at hc2
      have hlen:=Nat.eq_of_beq_eq_true hc2.2
      have hvs:=f_1 hden hl hc2.1
      obtain⟨ι',hle,hn,hinv⟩:=hi.new (b:=.bytes l e (.n len)) (o:=.cells vs e (0,0)) ⟨[],(0,0),by simp[←hvs],by show _<=_;simp[hlen],fun k _ hh=>aP⟩
      exact⟨_,_,ι',h,.slc hn (Nat.le_refl _) (.inl rfl) rfl,hle,hinv⟩
     ·exact h.elim
    |false=>
     rw[hb] at h
     simp only[cond_false] at h
     obtain⟨ι',hle,hn,hinv⟩:=hi.new (row_den (e:=e) hden)
     exact⟨_,_,ι',h,.slc hn (Nat.le_refl _) (.inl rfl) rfl,hle,hinv⟩
   ·exact h.elim
  ·exact h.elim
 ·exact h.elim
def l_2(name:String):List Method->Option Method
 |[]=>none
 |m::r=>cond (m.name==name) (some m) (l_2 name r)
theorem g_6(name:String):∀(l:List Method),l_2 name l=l.find? (·.name==name)
 |[]=>rfl
 |m::r=>by simp only[l_2,List.find?_cons,g_6 name r];cases (m.name==name)<;>rfl
theorem f_T{fld:Field}{k r off:Nat}(hs:szA P fld.type=some (k+1)):(fieldPlace ⟨r,off,none⟩ fld).run P w=.ok ⟨r,g_O off fld.offset,none⟩ w:=by
 simp[fieldPlace,a_q hs,b_h,b_K]
theorem i_0(ts:Array TypeId)(u:TypeId)(a:Addr)(x y:String):(Builtin.ssaWrapNilChk_ ts u #[.pointer (some a),strVal x,strVal y]).run P w=.ok (.pointer (some a)) w:=rfl
def x_p:AVal->Nat->Option AVal
 | .ptr id off,d=>some (.ptr id (g_O off d))
 | .sp x off,d=>some (.sp x (g_O off d))
 | .fpt cs off,d=>some (.fpt cs (g_O off d))
 |_,_=>none
theorem l_3{v v':AVal}{d:Nat}{x:Value}(h:x_p v d=some v')(hd:Den ι v x):∃r off,x=.pointer (some ⟨r,off,none⟩)/\Den ι v' (.pointer (some ⟨r,g_O off d,none⟩)):=by
 cases hd<;>simp only[x_p] at h<;>first
  |(cases h;done)
  |(cases h
    rename_i hr
    exact⟨_,_,rfl,.ptr hr⟩)
  |(cases h
    rename_i had
    exact⟨_,_,rfl,.sp had⟩)
  |(cases h
    rename_i hm hv
    exact⟨_,_,rfl,.fpt hm hv⟩)
def g_7(P:Program):Nat->AVal->String->AHeap->(FuncId->AVal->Prop)->Prop
 |0,_,_,_,_=>False
 |n+1,.ifc t v,name,H,K=>
  match P.info? t with
  |some i=>match l_2 name i.methods.toList with
   |some m=>match m.path.toList,m.func with
    |[],some (f,pr)=>match P.underlying t,pr with
     |some (.pointer _),true=>K f v
     |some (.pointer e),false=>match x_p v 0 with
      |some _=>c_B P e v H (fun x _=>K f x)
      |none=>False
     |some _,false=>K f v
     |_,_=>False
    |[s],none=>match P.underlying s.struct,s.deref with
     |some (.struct fs),true=>match h_R fs.toList s.index with
      |some fld=>match szA P fld.type with
       |some (_+1)=>match x_p v fld.offset with
        |some v'=>c_B P fld.type v' H (fun x _=>g_7 P n x name H K)
        |none=>False
       |_=>False
      |none=>False
     |some (.struct fs),false=>match t_n v,h_R fs.toList s.index with
      |some cs,some fld=>o_P P fld.type cs fld.offset (fun x=>g_7 P n x name H K)
      |_,_=>False
     |_,_=>False
    |_,_=>False
   |none=>False
  |none=>False
 |_,_,_,_,_=>False
theorem r_D:∀(n d:Nat) {x:AVal} {t:TypeId} {v:Value} {name:String} {K:FuncId->AVal->Prop},g_7 P n x name H K->Inv w0 F0 ι H w->Den ι x (.iface t v)->
 ∃f a r,(method (d+n) t v name).run P w=.ok (f,r) w/\Den ι a r/\K f a:=by
 intro n
 induction n with
 |zero=>intro d x t v name K h;exact h.elim
 |succ n ih=>
  intro d x t v name K h hi hx
  have e1:d+(n+1)=(d+n)+1:=ac
  rw[e1]
  cases hx with
  |lit=>exact h.elim
  |any _ _=>exact h.elim
  |top=>exact h.elim
  |ite _ _=>exact h.elim
  |mp _=>exact h.elim
  |ifc hv=>
  rename_i a
  simp only[g_7] at h
  split at h
  ·rename_i i hinf
   split at h
   ·rename_i m hm
    have hm':i.methods.find? (·.name==name)=some m:=by
     rw[g_6] at hm
     rw[←Array.find?_toList]
     exact hm
    split at h
    ·rename_i f pr hp hf
     have hpath:m.path.isEmpty=true:=by
      have:m.path=#[]:=by rw[←Array.toList_inj];exact hp
      rw[this];rfl
     have base:∀{r:Value},(receiverAt t (.val v) pr (some ((name.splitOn ".").getLastD name))).run P w=.ok r w->(method ((d+n)+1) t v name).run P w=.ok (f,r) w:=by
      intro r hr
      simp only[method,Sem.run_bind,a_u hinf,Result.andThen_ok,hm',hp,follow,Sem.run_pure,hf,hpath,if_true,hr]
     split at h
     ·rename_i e hu
      exact⟨f,a,v,base (by simp[receiverAt,a_a hu,Place.get]),hv,h⟩
     ·rename_i e hu
      split at h
      ·rename_i v0 hoff
       obtain⟨x,y,hrun,hden,hK⟩:=c_M (P:=P) (K:=fun x _=>K f x) h hi hv
       have hrun:=hrun w rfl
       obtain⟨r,off,rfl,_⟩:=l_3 hoff hv
       have hl:(loadVar e ⟨r,off,none⟩).run P w=.ok y w:=by
        rw[←hrun];simp[Instr.loadAt,Instr.sureAddr]
       refine⟨f,x,y,base ?_,hden,hK⟩
       simp only[receiverAt,Sem.run_bind,a_a hu,Result.andThen_ok,Place.get,Sem.run_pure,i_0,asAddr,hl]
      ·exact h.elim
     ·rename_i d0 hnp hu
      refine⟨f,a,v,base ?_,hv,h⟩
      simp only[receiverAt,Sem.run_bind,a_a hu,Result.andThen_ok]
      cases d0<;>first|rfl|exact(hnp _ hu).elim
     ·exact h.elim
    ·rename_i s hp hf
     have hmeth:∀{xt:TypeId} {px:Place} {t':TypeId} {v':Value},(follow [s] t (.val v)).run P w=.ok (xt,px) w->(px.get xt).run P w=.ok (.iface t' v') w->∀{res:FuncId×Value},(method (d+n) t' v' name).run P w=.ok res w->(method ((d+n)+1) t v name).run P w=.ok res w:=by
      intro xt px t' v' h1 h2 res h3
      simp only[method,Sem.run_bind,a_u hinf,Result.andThen_ok,hm',hp,h1,hf,h2,h3]
     split at h
     ·rename_i fs hu hder
      split at h
      ·rename_i fld hfld
       rw[b_J] at hfld
       have hfld':fs[s.index]?=some fld:=by simpa using hfld
       split at h
       ·rename_i k hsz
        split at h
        rotate_left
        ·exact h.elim
        rename_i v0 hoff
        obtain⟨r,off,rfl,hv'⟩:=l_3 hoff hv
        obtain⟨x,y,hrun,hden,hK⟩:=c_M (P:=P) (K:=fun x _=>g_7 P n x name H K) h hi hv'
        have hrun:=hrun w rfl
        have hl:(loadVar fld.type ⟨r,g_O off fld.offset,none⟩).run P w=.ok y w:=by
         rw[←hrun];simp[Instr.loadAt,Instr.sureAddr]
        have hy:∃t' v',y=.iface t' v':=by
         cases n with
         |zero=>exact hK.elim
         |succ n=>
          cases x<;>try exact hK.elim
          cases hden
          exact⟨_,_,rfl⟩
        obtain⟨t',v',rfl⟩:=hy
        obtain⟨f,a',rr,hrm,hda,hKf⟩:=ih d hK hi hden
        refine⟨f,a',rr,hmeth (xt:=fld.type) (px:=.var ⟨r,g_O off fld.offset,none⟩) ?_ ?_ hrm,hda,hKf⟩
        ·have hfp:=f_T (P:=P) (w:=w) (r:=r) (off:=off) hsz
         simp only[follow,Sem.run_bind,a_a hu,Result.andThen_ok,hfld',hder,if_true,Place.get,Sem.run_pure,asAddr,hfp]
        ·simpa[Place.get] using hl
       ·exact h.elim
      ·exact h.elim
     ·rename_i fs hu hder
      split at h
      ·rename_i cs fld hcs hfld
       rw[b_J] at hfld
       have hfld':fs[s.index]?=some fld:=by simpa using hfld
       obtain⟨c,rfl,hc⟩:=l_B hcs hv
       obtain⟨x,y,hrun,hden,hK⟩:=j_t (w:=w) h hc
       have hy:∃t' v',y=.iface t' v':=by
        cases n with
        |zero=>exact hK.elim
        |succ n=>
         cases x<;>try exact hK.elim
         cases hden
         exact⟨_,_,rfl⟩
       obtain⟨t',v',rfl⟩:=hy
       obtain⟨f,a',rr,hrm,hda,hKf⟩:=ih d hK hi hden
       refine⟨f,a',rr,hmeth (xt:=fld.type) (px:=.val (.iface t' v')) ?_ ?_ hrm,hda,hKf⟩
       ·simp only[follow,Sem.run_bind,a_a hu,Result.andThen_ok,hfld',hder,Bool.false_eq_true,if_false,hrun,Sem.run_pure]
       ·simp[Place.get]
      ·exact h.elim
     ·exact h.elim
    ·exact h.elim
   ·exact h.elim
  ·exact h.elim
end
end Go.Sx
namespace Go.Sx
open Go
variable [Syms]
section
variable {P:Program} {w0 w:World} {F0:Fp} {ι:Inj} {H:AHeap}
def l_4(P:Program)(t:TypeId)(x:AVal)(H:AHeap)(K:AVal->AHeap->Prop):Prop:=
 match P.underlying t,x with
 |some .string,.str l=>K (.ptr H.next 0) (H.new (.siter l 0))
 |_,_=>False
theorem o_0{t:TypeId}{x:AVal}{a:Value}{K:AVal->AHeap->Prop}(h:l_4 P t x H K)(hi:Inv w0 F0 ι H w)(hx:Den ι x a):Ok w0 F0 ι K ((Instr.range t a).run P w):=by
 unfold l_4 at h
 split at h
 ·rename_i l hu
  cases hx
  obtain⟨ι',hle,hn,hinv⟩:=hi.new (b:=.siter l 0) (o:=.stringIter ⟨l.toArray⟩ 0) rfl
  have hrun:(Instr.range t (.string ⟨l.toArray⟩)).run P w=.ok (.pointer (some ⟨w.heap.size,0,none⟩)) {w with heap:=w.heap.push (.stringIter ⟨l.toArray⟩ 0)}:=by
   simp only[Instr.range,Sem.run_bind,a_a hu,Result.andThen_ok,Sem.run_pure,run_newObj]
  rw[hrun]
  exact⟨_,_,ι',h,.ptr hn,hle,hinv⟩
 ·exact h.elim
def r_E(x:AVal)(s:Bool)(H:AHeap)(K:AVal->AHeap->Prop):Prop:=
 match x,s with
 | .ptr id 0,true=>match H.get id with
   |some (.siter l pos)=>gd (!H.isRo id)<|br (Nat.blt pos l.length)
    (K (.tup [.lit (.bool true),.lit (.int .i64 pos),.lit (.int .i32 (Utf8.decode ⟨l.toArray⟩ pos).1)]) (H.set id (.siter l (pos+(Utf8.decode ⟨l.toArray⟩ pos).2))))
    (K (.tup [.lit (.bool false)]) H)
   |_=>False
 |_,_=>False
theorem r_F{x:AVal}{a:Value}{s:Bool}{t:TypeId}{K:AVal->AHeap->Prop}(h:r_E x s H K)(hi:Inv w0 F0 ι H w)(hx:Den ι x a):Ok w0 F0 ι K ((Instr.next a s t).run P w):=by
 unfold r_E at h
 split at h
 ·rename_i id
  cases hx with
  |@ptr _ _ r hr=>
  split at h
  ·rename_i l pos hg
   obtain⟨r',o,hr',ho,hb,_⟩:=hi.blk _ _ hg
   rw[hr] at hr';cases hr'
   have hb:o=.stringIter ⟨l.toArray⟩ pos:=hb
   subst hb
   have hsz:(⟨l.toArray⟩:ByteArray).size=l.length:=aG
   have hget:(getObj r).run P w=.ok (.stringIter ⟨l.toArray⟩ pos) w:=by simp[getObj,Sem.run,ho]
   obtain⟨hro,h⟩:=a_h h
   simp only[Bool.not_eq_true'] at hro
   rcases a_4 h with⟨hc,hK⟩|⟨hc,hK⟩
   ·have hlt:=a_Y hc
    have hset:∀o',(setObj r o').run P w=.ok () (a_H w r o'):=fun o'=>by simp[setObj,Sem.run,ho,a_H]
    have hrun:(Instr.next (.pointer (some ⟨r,0,none⟩)) true t).run P w=.ok (.tuple #[.bool true,.int .i64 pos,.int .i32 (Utf8.decode ⟨l.toArray⟩ pos).1]) (a_H w r (.stringIter ⟨l.toArray⟩ (pos+(Utf8.decode ⟨l.toArray⟩ pos).2))):=by
     simp only[Instr.next,Sem.run_bind,hget,Result.andThen_ok,hsz,hlt,if_true,hset,Sem.run_pure,goInt]
    rw[hrun]
    exact⟨_,_,ι,hK,.tup (.cons .lit (.cons .lit (.cons .lit .nil))),Inj.le_refl _,hi.set (b':=.siter l (pos+(Utf8.decode ⟨l.toArray⟩ pos).2)) (o':=.stringIter ⟨l.toArray⟩ (pos+(Utf8.decode ⟨l.toArray⟩ pos).2)) hg hr hro rfl (a_M ho) (fun k hk=>a_A hk) a_I rfl rfl rfl⟩
   ·have hge:¬pos<l.length:=fun hlt=>by
     have:Nat.blt pos l.length=true:=Nat.ble_eq_true_of_le hlt
     rw[this] at hc;cases hc
    have hrun:(Instr.next (.pointer (some ⟨r,0,none⟩)) true t).run P w=.ok (.tuple #[.bool false]) w:=by
     simp only[Instr.next,Sem.run_bind,hget,Result.andThen_ok,hsz,hge,if_false,Sem.run_pure]
    rw[hrun]
    exact⟨_,_,ι,hK,.tup (.cons .lit .nil),Inj.le_refl _,hi⟩
  ·exact h.elim
 ·exact h.elim
def l_5(P:Program)(t:TypeId)(v:AVal)(name:String):Bool:=
 match P.info? t with
 |some i=>match l_2 name i.methods.toList with
  |some m=>match m.path.toList,m.func with
   |[],some (_,true)=>true
   |[],some (_,false)=>match P.underlying t,v with
    |some (.pointer _),.ptr _ _=>true
    |some (.pointer _),_=>false
    |some _,_=>true
    |none,_=>false
   |_,_=>false
  |none=>false
 |none=>false
theorem o_1{t:TypeId}{a:AVal}{v:Value}{name:String}(h:l_5 P t a name=true)(hv:Den ι a v)(n:Nat):(nilAhead (n+1) t v name).run P w=.ok (some false) w:=by
 unfold l_5 at h
 split at h
 ·rename_i i hinf
  split at h
  ·rename_i m hm
   have hm':i.methods.find? (·.name==name)=some m:=by
    rw[g_6] at hm
    rw[←Array.find?_toList]
    exact hm
   split at h
   ·rename_i f hp hf
    simp only[nilAhead,Sem.run_bind,a_u hinf,Result.andThen_ok,hm',hp,followBlind,Sem.run_pure,hf]
   ·rename_i f hp hf
    simp only[nilAhead,Sem.run_bind,a_u hinf,Result.andThen_ok,hm',hp,followBlind,Sem.run_pure,hf]
    split at h
    ·rename_i e hu
     cases hv
     simp only[a_a hu,Result.andThen_ok,Sem.run_pure]
    ·cases h
    ·rename_i d hd hu _
     simp only[a_a hu,Result.andThen_ok]
     cases d<;>first|rfl|exact(hd _ rfl).elim
    ·cases h
   ·cases h
  ·cases h
 ·cases h
def t_D(P:Program)(x:AVal)(K:AVal->Prop):Prop:=
 match x with
 | .ptr id off=>K (.ptr id off)
 | .slc a b c d=>K (.slc a b c d)
 | .rsl a b c d=>K (.rsl a b c d)
 | .map m=>K (.map m)
 | .ifc t v=>K (.ifc t v)
 | .fn (.func f) a b=>K (.fn (.func f) a b)
 | .fn (.method name) (.ifc t v::a) b=>gd (l_5 P t v name) (K (.fn (.method name) (.ifc t v::a) b))
 | .sp x o=>K (.sp x o)
 | .fpt cs o=>K (.fpt cs o)
 | .bp l k=>K (.bp l k)
 | .fmp f n k=>K (.fmp f n k)
 | .fwp f wd n k o=>K (.fwp f wd n k o)
 | .lit (.pointer (some ⟨g,k,none⟩))=>K (.lit (.pointer (some ⟨g,k,none⟩)))
 | .smp x=>K (.smp x)
 |_=>False
def r_G(v:Value):Sem Next:=
 match v with
 | .pointer none| .nilIface| .nilFunc=>runtimePanic .nilDeref
 | .func (.method name) first captured=>
   match(first[0]?:Option Value) with
   |some .nilIface=>runtimePanic .nilDeref
   |some (.iface t w)=>do
    if(←nilAhead ((←program).types.size+Made.depth) t w name)!=some false then
     unsupported (.noEntry "op/nilCheck.the method's receiver behind this interface value is a nil pointer, or cannot be seen to be none, and the arguments act or may panic (ledger 612)")
    pure (.value (.func (.method name) first captured))
   |_=>pure (.value (.func (.method name) first captured))
 |x=>pure (.value x)
theorem p_X{x:AVal}{a:Value}{K:AVal->Prop}(h:t_D P x K)(hx:Den ι x a):∃y,(∀w:World,(r_G a).run P w=.ok (.value a) w)/\Den ι y a/\K y:=by
 unfold t_D at h
 split at h
 ·cases hx with|ptr hr=>exact⟨_,fun _=>rfl,.ptr hr,h⟩
 ·cases hx with|slc hr hl ho hc=>exact⟨_,fun _=>rfl,.slc hr hl ho hc,h⟩
 ·cases hx with|rsl hr hl ho hc=>exact⟨_,fun _=>rfl,.rsl hr hl ho hc,h⟩
 ·cases hx with|map hr=>exact⟨_,fun _=>rfl,.map hr,h⟩
 ·cases hx with|ifc hr=>exact⟨_,fun _=>rfl,.ifc hr,h⟩
 ·cases hx with|fn hr hr'=>exact⟨_,fun _=>rfl,.fn hr hr',h⟩
 ·rename_i name t v as b
  obtain⟨hc,hK⟩:=a_h h
  cases hx with
  |fn hr hr'=>
  cases hr with
  |cons h1 h2=>
  cases h1 with
  |@ifc _ _ y h1=>
  rename_i ys xs
  refine⟨_,fun w=>?_,.fn (.cons (.ifc h1) h2) hr',hK⟩
  have hd:P.types.size+Made.depth=(P.types.size+99)+1:=rfl
  have ha:=o_1 (w:=w) hc h1 (P.types.size+99)
  have e0:(Value.iface t y::xs).toArray[0]?=some (.iface t y):=an
  simp only[r_G,e0,Sem.run_bind,run_program,Result.andThen_ok,hd,ha]
  rfl
 ·cases hx with|sp hr=>exact⟨_,fun _=>rfl,.sp hr,h⟩
 ·cases hx with|fpt hm hv=>exact⟨_,fun _=>rfl,.fpt hm hv,h⟩
 ·cases hx with|bp hm ho=>exact⟨_,fun _=>rfl,.bp hm ho,h⟩
 ·cases hx with|fmp hm hn hv ho=>exact⟨_,fun _=>rfl,.fmp hm hn hv ho,h⟩
 ·cases hx with|fwp hm hn hv hk ho=>exact⟨_,fun _=>rfl,.fwp hm hn hv hk ho,h⟩
 ·cases hx;exact⟨_,fun _=>rfl,.lit,h⟩
 ·cases hx with|smp hr=>exact⟨_,fun _=>rfl,.smp hr,h⟩
 ·exact h.elim
theorem t_E{x:AVal}{a:Value}{K:AVal->AHeap->Prop}(h:t_D P x (fun v=>K v H))(_hi:Inv w0 F0 ι H w)(hx:Den ι x a):∃y,(r_G a).run P w=.ok (.value a) w/\Den ι y a/\K y H:=
 let ⟨y,hr,hd,hK⟩:=p_X h hx
 ⟨y,hr w,hd,hK⟩
end
end Go.Sx
namespace Go.Sx
open Go
variable [Syms]
section
variable {P:Program} {w0 w:World} {F0:Fp} {ι:Inj} {H:AHeap}
theorem h_8{x:AVal}{xv:Value}{K:List UInt8->Prop}(h:h_6 x H K)(hi:Inv w0 F0 ι H w)(hx:Den ι x xv):∃l,K l/\(Builtin.lenOf xv).run P w=.ok l.length w/\∀k,k<=l.length->(Builtin.firstCells 1 k xv).run P w=.ok ((l.take k).map a_v).toArray w:=by
 unfold h_6 at h
 split at h
 ·rename_i l
  cases hx
  refine⟨l,h,by simp[Builtin.lenOf,ByteArray.size],fun k hk=>?_⟩
  have:((⟨l.toArray⟩:ByteArray).extract 0 k).data=(l.take k).toArray:=by
   rw[b_t]
   simp
  simp only[Builtin.firstCells,Sem.run_pure,this]
  congr 1
  simp
  rfl
 ·rename_i id off n cap
  split at h
  ·rename_i l e tot hg
   obtain⟨hc,hK⟩:=a_h h
   have hle:=a_B hc
   obtain⟨r,o,hr,ho,hb,_⟩:=hi.blk _ _ hg
   cases hx with
   |slc hr' hl hoff hcap=>
   rename_i off' r' c'
   rw[hr] at hr';cases hr'
   have hlen:((l.drop off).take n).length=n:=af
   refine⟨_,hK,by simp[Builtin.lenOf,hlen],fun k hk=>?_⟩
   rw[hlen] at hk
   simp only[Builtin.firstCells,Nat.mul_one]
   rw[List.take_take,Nat.min_eq_left hk]
   rcases hoff with rfl|h0
   ·exact a_0 (ι:=ι) (b:=.bytes l e tot) hb ac ho
   ·have:k=0:=ac
    subst this
    simp[loadCells,loadCellsFrom]
  ·exact h.elim
 ·cases hx
  exact⟨[],h,aq,fun k hk=>aL⟩
 ·rename_i l
  cases hx with
  |by0=>
   refine⟨[],h,aq,fun k hk=>?_⟩
   have:k=0:=bz
   subst this
   rename_i a c
   cases a with
   |none=>simp[Builtin.firstCells]
   |some a=>simp[Builtin.firstCells,loadCells,loadCellsFrom]
  |@by_ _ r c off pre rest e fz hm hl hoff=>
  have ho:=(hi.fz.frz _ _ hm).1
  subst hoff
  refine⟨l,h,aq,fun k hk=>?_⟩
  simp only[Builtin.firstCells,Nat.mul_one]
  rw[a_T ho pre.length k af]
  congr 2
  rw[List.drop_left,List.take_append_of_le_length af,List.map_take]
 ·cases hx with
  |@e0 a c=>
  refine⟨[],h,aq,fun k hk=>?_⟩
  have:k=0:=bz
  subst this
  cases a with
  |none=>simp[Builtin.firstCells]
  |some a=>simp[Builtin.firstCells,loadCells,loadCellsFrom]
 ·exact h.elim
theorem l_6{sz:Nat}{x:AVal}{xv:Value}{K:Nat->List AVal->Prop}(h:e_5 sz x H K)(hi:Inv w0 F0 ι H w)(hx:Den ι x xv):∃n l,K n l/\(Builtin.lenOf xv).run P w=.ok n w/\∀k,k<=n->∃vs,DenL ι (l.take (k*sz)) vs/\vs.length=k*sz/\(Builtin.firstCells sz k xv).run P w=.ok vs.toArray w:=by
 unfold e_5 at h
 split at h
 ·rename_i id off n cap
  split at h
  ·rename_i cs e tot hg
   obtain⟨hc,hK⟩:=a_h h
   have hle:=a_B hc
   obtain⟨r,o,hr,ho,hb,_⟩:=hi.blk _ _ hg
   cases hx with
   |slc hr' hl hoff hcap=>
   rename_i off' r' c'
   rw[hr] at hr';cases hr'
   refine⟨n,_,hK,aq,fun k hk=>?_⟩
   have hks:k*sz<=n*sz:=Nat.mul_le_mul_right _ hk
   obtain⟨vs,hd,hvl,hrun⟩:=b_4 (P:=P) (off:=off) (len:=k*sz) hb ac ho
   refine⟨vs,bh,hvl,?_⟩
   simp only[Builtin.firstCells]
   rcases hoff with rfl|h0
   ·exact hrun w rfl
   ·have:k=0:=ac
    subst this
    have:vs=[]:=aX
    subst this
    simp[loadCells,loadCellsFrom]
  ·exact h.elim
 ·cases hx
  exact⟨0,[],h,aq,fun k hk=>by
   have:k=0:=ac
   subst this
   exact⟨[],by simp;exact .nil,an,aL⟩⟩
 ·rename_i x off n
  split at h
  ·rename_i cs e tot hg
   obtain⟨hc,hK⟩:=a_h h
   have hle:=a_B hc
   cases hx with
   |ssl had hl=>
   obtain⟨o,_,ho,hb⟩:=hi.stat hg had
   refine⟨n,_,hK,aq,fun k hk=>?_⟩
   have hks:k*sz<=n*sz:=Nat.mul_le_mul_right _ hk
   obtain⟨vs,hd,hvl,hrun⟩:=b_4 (P:=P) (off:=off) (len:=k*sz) hb ac ho
   refine⟨vs,bh,hvl,?_⟩
   simp only[Builtin.firstCells]
   exact hrun w rfl
  ·exact h.elim
 ·cases hx with
  |@e0 a c=>
  refine⟨0,[],h,aq,fun k hk=>?_⟩
  have:k=0:=ac
  subst this
  refine⟨[],by simp;exact .nil,an,?_⟩
  cases a with
  |none=>simp[Builtin.firstCells]
  |some a=>simp[Builtin.firstCells,loadCells,loadCellsFrom]
 ·exact h.elim
theorem r_H{ts:Array TypeId}{u:TypeId}{d x:AVal}{dv xv:Value}{K:AVal->AHeap->Prop}(h:r_C P ts d x H K)(hi:Inv w0 F0 ι H w)(hd:Den ι d dv)(hx:Den ι x xv):
 Ok w0 F0 ι K ((Builtin.copy_ ts u #[dv,xv]).run P w):=by
 unfold r_C at h
 split at h
 ·rename_i t ts' id off n cap hts
  have e0:ts[0]?=some t:=by
   have:ts.toList[0]?=some t:=by rw[hts];rfl
   simpa using this
  split at h
  ·rename_i e hu
   cases hd with
   |slc hr hl hoff hcap=>
   rename_i off' r c'
   have e2:(#[Value.slice (some ⟨r,off',none⟩) n c',xv]:Array Value)[0]?=some (.slice (some ⟨r,off',none⟩) n c'):=rfl
   have e3:(#[Value.slice (some ⟨r,off',none⟩) n c',xv]:Array Value)[1]?=some xv:=rfl
   cases hb:h_O P e with
   |true=>
    rw[hb] at h
    simp only[cond_true] at h
    obtain⟨hsz,h⟩:=a_h h
    have hsz:=b_R (Nat.eq_of_beq_eq_true hsz) ac
    obtain⟨l,hK,hlen,hn⟩:=h_8 (P:=P) h hi hx
    split at hK
    ·rename_i old e' tot hg
     obtain⟨r',o,hr',ho,hbd,_⟩:=hi.blk _ _ hg
     rw[hr] at hr';cases hr'
     obtain⟨rest,fz,rfl,ht,hfz⟩:=hbd
     have hfc:=hn (Nat.min l.length n) (Nat.min_le_left _ _)
     have htk:l.take (Nat.min l.length n)=l.take n:=by
      show l.take (min l.length n)=_
      rcases Nat.le_total l.length n with hh|hh
      ·rw[Nat.min_eq_left hh,List.take_length,List.take_of_length_le hh]
      ·rw[Nat.min_eq_right hh]
     rw[htk] at hfc
     have hmin:(l.take n).length=Nat.min l.length n:=by rw[List.length_take,Nat.min_comm]
     have hmn:Nat.min l.length n<=n:=Nat.min_le_right _ _
     have hst:off+Nat.min l.length n<=old.length+rest.length->((storeCells ⟨r,off',none⟩ (((l.take n).map a_v).toArray).toList).run P w)=.ok () (a_H w r (.cells (a_x (old.map a_v++rest) off ((l.take n).map a_v)).toArray e' fz)):=by
      intro hle
      rcases hoff with rfl|h0
      ·have:=a_D (P:=P) (r:=r) (off:=off') (e:=e') (fz:=fz) ((l.take n).map a_v) 0 w (old.map a_v++rest) ho (by simp only[List.length_append,List.length_map,hmin];omega) (fun k hk1 hk2=>hfz k (by simp only[List.length_map,hmin] at hk2;omega)) (by intro v hv;obtain⟨b,_,rfl⟩:=List.mem_map.1 hv;rfl)
       simpa using this
      ·have hn0:n=0:=ac
       subst hn0
       simp only[List.take_zero,List.map_nil,storeCells,Sem.run_pure,a_R]
       rw[b_s ho]
     have hrun:off+Nat.min l.length n<=old.length+rest.length->(Builtin.copy_ ts u #[.slice (some ⟨r,off',none⟩) n c',xv]).run P w=.ok (goInt (Nat.min l.length n)) (a_H w r (.cells (a_x (old.map a_v++rest) off ((l.take n).map a_v)).toArray e' fz)):=by
      intro hle
      simp only[Builtin.copy_,e0,e2,e3,Sem.run_bind,a_a hu,Result.andThen_ok,hlen,a_q hsz,hfc,hst hle,Sem.run_pure]
     rcases a_4 hK with⟨hc,hK⟩|⟨_,hK⟩
     ·obtain⟨hro,hK⟩:=a_h hK
      simp only[Bool.not_eq_true'] at hro
      have hle:=a_B hc
      rw[hrun ac]
      refine⟨_,_,ι,hK,.lit,Inj.le_refl _,?_⟩
      refine hi.set hg hr hro (b':=.bytes (a_J old off (l.take n)) e' tot) ⟨rest,fz,?_,by rw[a_U];exact ht,by rw[a_U];exact hfz⟩ (a_M ho) (fun k hk=>a_A hk) a_I rfl rfl rfl
      rw[c_Q]
      congr 2
      have hbnd:off+((l.take n).map a_v).length<=(old.map a_v).length:=by simp only[List.length_map,hmin];exact hle
      rw[b_e _ _ _ (by rw[List.length_append];omega),b_e _ _ _ hbnd,List.take_append_of_le_length ac,List.drop_append_of_le_length hbnd]
      simp
     ·obtain⟨hc,hK⟩:=a_h hK
      simp only[Bool.and_eq_true,Bool.not_eq_true'] at hc
      obtain⟨ho',hce,hro⟩:=hc
      have ho':=Nat.eq_of_beq_eq_true ho'
      have hce:=l_0 hce hcap ht
      have hle:off+Nat.min l.length n<=old.length+rest.length:=ac
      rw[hrun hle]
      refine⟨_,_,ι,hK,.lit,Inj.le_refl _,?_⟩
      have hlr:(old++l.take n).length+(rest.drop (Nat.min l.length n)).length=old.length+rest.length:=by
       rw[List.length_append,hmin,List.length_drop];omega
      refine hi.set hg hr hro (b':=.bytes (old++l.take n) e' tot) ⟨rest.drop (Nat.min l.length n),fz,?_,by rw[hlr];exact ht,by rw[hlr];exact hfz⟩ (a_M ho) (fun k hk=>a_A hk) a_I rfl rfl rfl
      congr 2
      rw[b_e _ _ _ (by rw[List.length_append,List.length_map,List.length_map,hmin];exact hle),List.length_map,hmin]
      have h1:off=(old.map a_v).length:=by rw[List.length_map];exact ho'
      rw[h1,List.take_left,List.drop_append]
      simp
    ·exact hK.elim
   |false=>
    rw[hb] at h
    simp only[cond_false] at h
    split at h
    ·rename_i sz hsz
     obtain⟨m,l,hK,hlen,hn⟩:=l_6 (P:=P) h hi hx
     split at hK
     ·rename_i old e' tot hg
      obtain⟨hc,hK⟩:=a_h hK
      simp only[Bool.and_eq_true,Bool.not_eq_true'] at hc
      have hro:=hc.2.2
      replace hc:_/\l.all i_T=true:=⟨hc.1,hc.2.1⟩
      have hle:=a_B hc.1
      obtain⟨r',o,hr',ho,hbd,_⟩:=hi.blk _ _ hg
      rw[hr] at hr';cases hr'
      obtain⟨c,rest,rfl,hcd,ht⟩:=hbd
      have hcl:=hcd.length
      obtain⟨vs,hvd,hvl,hfc⟩:=hn (Nat.min m n) (Nat.min_le_left _ _)
      have hvl':=hvd.length
      have hone:∀v∈vs,v.oneCell'=true:=hvd.one (by
       rw[List.all_eq_true]
       intro a ha
       exact List.all_eq_true.1 hc.2 a (List.mem_of_mem_take ha))
      have hst:((storeCells ⟨r,off',none⟩ (vs.toArray).toList).run P w)=.ok () (a_H w r (.cells (a_x (c++rest) off vs).toArray e' (0,0))):=by
       rcases hoff with rfl|h0
       ·have:=a_D (P:=P) (r:=r) (off:=off') (e:=e') (fz:=(0,0)) vs 0 w (c++rest) ho (by rw[List.length_append,hvl];omega) (fun k hk1 hk2 hh=>aP) hone
        simpa using this
       ·have hn0:n=0:=ac
        subst hn0
        have:vs=[]:=by
         have:Nat.min m 0=0:=Nat.min_eq_right (Nat.zero_le _)
         rw[this] at hvl
         simpa using hvl
        subst this
        simp only[storeCells,Sem.run_pure,a_R]
        rw[b_s ho]
      have hrun:(Builtin.copy_ ts u #[.slice (some ⟨r,off',none⟩) n c',xv]).run P w=.ok (goInt (Nat.min m n)) (a_H w r (.cells (a_x (c++rest) off vs).toArray e' (0,0))):=by
       simp only[Builtin.copy_,e0,e2,e3,Sem.run_bind,a_a hu,Result.andThen_ok,hlen,a_q hsz,hfc,hst,Sem.run_pure]
      rw[hrun]
      refine⟨_,_,ι,hK,.lit,Inj.le_refl _,?_⟩
      have hsp:a_x (c++rest) off vs=a_x c off vs++rest:=by
       have hbnd:off+vs.length<=c.length:=by rw[hvl];omega
       rw[b_e _ _ _ (by rw[List.length_append];omega),b_e _ _ _ hbnd,List.take_append_of_le_length ac,List.drop_append_of_le_length hbnd]
       simp
      rw[hsp]
      refine hi.set hg hr hro (b':=.row (splice old off (l.take ((Nat.min m n)*(sz+1)))) e' tot) ⟨a_x c off vs,rest,rfl,DenL.splice hcd off hvd,by rw[b_o];exact ht⟩ (a_M ho) (fun k hk=>a_A hk) a_I rfl rfl rfl
     ·exact hK.elim
    ·exact h.elim
  ·exact h.elim
 ·rename_i t ts' hts
  have e0:ts[0]?=some t:=by
   have:ts.toList[0]?=some t:=by rw[hts];rfl
   simpa using this
  split at h
  ·rename_i e hu
   obtain⟨hb,h⟩:=a_h h
   obtain⟨hsz,h⟩:=a_h h
   have hsz:=b_R (Nat.eq_of_beq_eq_true hsz) ac
   obtain⟨l,hK,hlen,hn⟩:=h_8 (P:=P) h hi hx
   cases hd
   have e2:(#[Value.slice none 0 0,xv]:Array Value)[0]?=some (.slice none 0 0):=rfl
   have e3:(#[Value.slice none 0 0,xv]:Array Value)[1]?=some xv:=rfl
   have h0:=hn 0 (Nat.zero_le _)
   have hm:Nat.min l.length 0=0:=Nat.min_eq_right (Nat.zero_le _)
   have hrun:(Builtin.copy_ ts u #[.slice none 0 0,xv]).run P w=.ok (goInt 0) w:=by
    simp only[Builtin.copy_,e0,e2,e3,Sem.run_bind,a_a hu,Result.andThen_ok,hlen,hm,a_q hsz,h0,Sem.run_pure]
    rfl
   rw[hrun]
   exact⟨_,_,ι,hK,.lit,Inj.le_refl _,hi⟩
  ·exact h.elim
 ·exact h.elim
end
end Go.Sx
namespace Go.Sx
open Go
variable [Syms]
structure Fr where
 n:Nat
 t:Tr AVal
def i_U(fr:Fr)(t:Nat):AVal:=(fr.t.get t).getD .top
def i_2(fr:Fr)(d:Nat)(v:AVal):Fr:=cond (Nat.blt d fr.n) ⟨fr.n,fr.t.set d (some v)⟩ fr
def eva(fr:Fr):Operand->AVal
 | .tmp t=>i_U fr t
 | .const v=>ofValue 3 v
 | .global g=>.lit (.pointer (some ⟨g,0,none⟩))
 | .func f=>.fn (.func f) [] []
abbrev b_5:=FuncId->List AVal->AHeap->(AVal->AHeap->Prop)->Prop
def r_I(P:Program)(cx:b_5)(c:Call)(ρ:Operand->AVal)(H:AHeap)(K:AVal->AHeap->Prop):Prop:=
 match c.callee with
 | .builtin b=>match b,c.args.toList with
   | .len,[x]=>match c.argTypes.toList with
     |t::_=>x_O P t (ρ x) H (fun v=>K v H)
     |_=>False
   | .cap,[x]=>match c.argTypes.toList with
     |t::_=>x_P P t (ρ x) (fun v=>K v H)
     |_=>False
   | .append,[s,x]=>i_Z P c.argTypes (ρ s) (ρ x) H K
   | .copy,[s,x]=>r_C P c.argTypes (ρ s) (ρ x) H K
   | .clear,[x]=>l_Y P c.argTypes (ρ x) H K
   | .min,[x,y]=>match ρ x,ρ y with
     | .lit (.int k a),.lit (.int _ b)=>K (.lit (.int k (cond (decide (b<a)) b a))) H
     |_,_=>False
   | .max,[x,y]=>match ρ x,ρ y with
     | .lit (.int k a),.lit (.int _ b)=>K (.lit (.int k (cond (decide (a<b)) b a))) H
     |_,_=>False
   |_,_=>False
 | .value f=>match ρ f with
   | .fn (.func g) a b=>cx g (a++c.args.toList.map ρ++b) H K
   | .fn (.method name) [] _=>match c.args.toList with
     |r::rest=>g_7 P 4 (ρ r) name H (fun g recv=>cx g (recv::rest.map ρ) H K)
     |[]=>False
   | .fn (.method name) (r::a) _=>g_7 P 4 r name H (fun g recv=>cx g (recv::(a++c.args.toList.map ρ)) H K)
   |_=>False
 | .invoke r name=>g_7 P 4 (ρ r) name H (fun g recv=>cx g (recv::c.args.toList.map ρ) H K)
def opA(P:Program)(cx:b_5)(o:Op)(ρ:Operand->AVal)(H:AHeap)(K:AVal->AHeap->Prop):Prop:=
 match o with
 | .move x=>K (ρ x) H
 | .assign x=>K (ρ x) H
 | .pick c a b=>match ρ c with
   | .lit (.bool t)=>br t (K (ρ a) H) (K (ρ b) H)
   |_=>False
 | .alloc e=>l_s P e H K
 | .box e v=>G_C e (ρ v) H K
 | .build t ps=>l_u P t (ps.toList.map fun x=>(x.1,ρ x.2)) (fun v=>K v H)
 | .buildSlice t n ps=>d_z P t n (ps.toList.map fun x=>(x.1,ρ x.2)) H K
 | .load t a=>c_B P t (ρ a) H K
 | .store t a x=>f_X P t (ρ a) (ρ x) H (fun H'=>K d_r H')
 | .nilCheck x=>t_D P (ρ x) (fun v=>K v H)
 | .binOp op t x y _=>x_L P op t (isC x||isC y) (ρ x) (ρ y) H (fun v=>K v H)
 | .unOp op _ x=>unA op (ρ x) (fun v=>K v H)
 | .convert s d x=>r_t P s d (ρ x) H K
 | .makeInterface t x=>l_P P t (ρ x) (fun v=>K v H)
 | .makeFunc f a b=>K (.fn f (a.toList.map ρ) (b.toList.map ρ)) H
 | .makeMap _ none=>l_R H K
 | .makeSlice t l c=>r_y P t (ρ l) (ρ c) H K
 | .slice t x l h m=>l_J P t (ρ x) (l.map ρ) (h.map ρ) (m.map ρ) (fun v=>K v H)
 | .fieldAddr s x f=>c_C P s (ρ x) f (fun v=>K v H)
 | .field t x f=>l_C P t (ρ x) f (fun v=>K v H)
 | .indexAddr t x i=>c_D P t (ρ x) (ρ i) (fun v=>K v H)
 | .index t x i=>l_E P t (ρ x) (ρ i) (fun v=>K v H)
 | .lookup t m k ok=>c_N P t (ρ m) (ρ k) ok H (fun v=>K v H)
 | .mapUpdate t m k v=>g_W P t (ρ m) (ρ k) (ρ v) H (fun H'=>K d_r H')
 | .insert t m k v=>g_W P t (ρ m) (ρ k) (ρ v) H (fun H'=>K d_r H')
 | .range t x=>l_4 P t (ρ x) H K
 | .next x s=>r_E (ρ x) s H K
 | .typeAssert x _ t ok=>i_X P (ρ x) t ok (fun v=>K v H)
 | .extract x i=>g_U (ρ x) i (fun v=>K v H)
 | .call c=>r_I P cx c ρ H K
 |_=>False
section
variable {P:Program} {w0 w:World} {F0:Fp} {ι:Inj} {H:AHeap}
def a_t(P:Program)(f:FuncId):Prop:=∃fn,P.funcs[f]?=some fn/\fn.body.isSome=true/\(fn.name== "runtime.NumGoroutine")=false
theorem c_6{f:FuncId}{args:Array Value}(h:a_t P f):(callFunc f args).run P w=.ok (.enter f args) w:=by
 obtain⟨fn,hf,hb,hn⟩:=h
 have hb':fn.body.isNone=false:=by cases hfb:fn.body<;>simp_all
 simp only[callFunc,Sem.run_bind,run_program,Result.andThen_ok,hf]
 rw[if_neg (by rw[hn];simp),if_neg (by rw[hb'];simp)]
 rfl
theorem x_Q(x:Value)(l:List Value):((x::l).toArray).extract 1 ((x::l).toArray).size=l.toArray:=by
 rw[←Array.toList_inj]
 simp
theorem r_J(x:Value)(l:List Value):((x::l).toArray)[0]?=some x:=an
def d_M(w0:World)(F0:Fp)(ι:Inj)(K:AVal->AHeap->Prop):Ending->World->Prop
 | .returned v,w'=>∃a H' ι',K a H'/\Den ι' a v/\ι.le ι'/\Inv w0 F0 ι' H' w'
 |_,_=>False
def l_7(P:Program)(f:FuncId)(args:List AVal)(H:AHeap)(K:AVal->AHeap->Prop):Prop:=
 ∀(w0:World) (F0:Fp) (ι:Inj) (w:World) (vs:List Value),Inv w0 F0 ι H w->DenL ι args vs->Calls P f vs.toArray w (d_M w0 F0 ι K)
def d_N(P:Program)(w0:World)(F0:Fp)(ι:Inj)(K:AVal->AHeap->Prop):Result Next->Prop
 | .ok (.value v) w'=>∃a H' ι',K a H'/\Den ι' a v/\ι.le ι'/\Inv w0 F0 ι' H' w'
 | .ok .skip w'=>∃a H' ι',K a H'/\Den ι' a undef/\ι.le ι'/\Inv w0 F0 ι' H' w'
 | .ok (.enter f args) w'=>Calls P f args w' (d_M w0 F0 ι K)
 |_=>False
def r_K(P:Program)(f:FuncId)(args:List AVal)(H:AHeap)(K:AVal->AHeap->Prop):Prop:=
 ∀(w0:World) (F0:Fp) (ι:Inj) (w:World) (vs:List Value),Inv w0 F0 ι H w->DenL ι args vs->d_N P w0 F0 ι K ((callFunc f vs.toArray).run P w)
theorem b_p{f:FuncId}{args:List AVal}{K:AVal->AHeap->Prop}(hf:a_t P f)(h:l_7 P f args H K):r_K P f args H K:=fun w0 F0 ι w vs hi hd=>by
 rw[c_6 hf]
 exact h w0 F0 ι w vs hi hd
def o_G(P:Program)(cx:b_5):Prop:=∀f args H K,cx f args H K->r_K P f args H K
theorem a_n{K:AVal->AHeap->Prop}{s:Sem Value}(h:Ok w0 F0 ι K (s.run P w)):d_N P w0 F0 ι K ((do pure (.value (←s)):Sem Next).run P w):=by
 simp only[Sem.run_bind]
 cases hr:s.run P w with
 |ok v w'=>rw[hr] at h;exact h
 |halt x w'=>rw[hr] at h;exact h.elim
theorem d_A{K:AVal->AHeap->Prop}{s:Sem Unit}(h:OkU w0 F0 ι (fun H'=>K d_r H') (s.run P w)):d_N P w0 F0 ι K ((do s;pure .skip:Sem Next).run P w):=by
 simp only[Sem.run_bind]
 cases hr:s.run P w with
 |ok v w'=>
  rw[hr] at h
  obtain⟨H',ι',hK,hle,hinv⟩:=h
  exact⟨d_r,H',ι',hK,.tup .nil,hle,hinv⟩
 |halt x w'=>rw[hr] at h;exact h.elim
theorem e_7{ρ:Operand->AVal}{σ:Operand->Value}(hd:∀x,Den ι (ρ x) (σ x)):∀(l:List (Nat×Operand)),PartsDen ι (l.map fun x=>(x.1,ρ x.2)) (l.map fun x=>(x.1,σ x.2))
 |[]=>.nil
 |_::l=>.cons (hd _) (e_7 hd l)
theorem c_t{ρ:Operand->AVal}{σ:Operand->Value}(hd:∀x,Den ι (ρ x) (σ x)):∀(l:List Operand),DenL ι (l.map ρ) (l.map σ)
 |[]=>.nil
 |_::l=>.cons (hd _) (c_t hd l)
theorem i_3{ρ:Operand->AVal}{σ:Operand->Value}(hd:∀x,Den ι (ρ x) (σ x)):∀(o:Option Operand),ODen ι (o.map ρ) (o.map σ)
 |none=>.none
 |some _=>.some (hd _)
theorem h_9{K:AVal->AHeap->Prop}{cx:b_5}(hcx:o_G P cx){f:FuncId}{args:List AVal}{vs:List Value}(h:cx f args H K)(hi:Inv w0 F0 ι H w)(hd:DenL ι args vs){as:Array Value}(has:as=vs.toArray):d_N P w0 F0 ι K ((callFunc f as).run P w):=by
 rw[has]
 exact hcx f args H K h w0 F0 ι w vs hi hd
theorem b_9{K:AVal->AHeap->Prop}{cx:b_5}(hcx:o_G P cx){r:AVal}{rv:Value}{name:String}{args:List AVal}{vs:List Value}(h:g_7 P 4 r name H (fun g recv=>cx g (recv::args) H K))(hi:Inv w0 F0 ι H w)(hr:Den ι r rv)(hd:DenL ι args vs):
 d_N P w0 F0 ι K ((callMethod rv name vs.toArray).run P w):=by
 have hrv:∃t v,rv=.iface t v:=by
  cases r<;>try exact h.elim
  cases hr
  exact⟨_,_,rfl⟩
 obtain⟨t,v,rfl⟩:=hrv
 obtain⟨f,a,x,hrun,hden,hK⟩:=r_D (P:=P) 4 (P.types.size+96) h hi hr
 have hdep:P.types.size+Made.depth=P.types.size+96+4:=rfl
 simp only[callMethod,Sem.run_bind,run_program,Result.andThen_ok,hdep,hrun]
 exact h_9 hcx hK hi (.cons hden hd) an
theorem x_R{α:Type}{a:Array α}{x:α}(h:a.toList=[x]):a=#[x]:=by rw[←Array.toList_inj];exact h
theorem x_q{α:Type}{a:Array α}{x y:α}(h:a.toList=[x,y]):a=#[x,y]:=by rw[←Array.toList_inj];exact h
theorem r_L{cx:b_5}(hcx:o_G P cx){c:Call}{t:TypeId}{ρ:Operand->AVal}{σ:Operand->Value}{K:AVal->AHeap->Prop}(h:r_I P cx c ρ H K)(hi:Inv w0 F0 ι H w)(hd:∀x,Den ι (ρ x) (σ x)):
 d_N P w0 F0 ι K ((do let d←resolve σ c t;invoke d.target d.args:Sem Next).run P w):=by
 unfold r_I at h
 split at h
 ·rename_i b hc
  simp only[resolve,hc,Sem.run_bind,Sem.run_pure,Result.andThen_ok,invoke]
  split at h
  ·rename_i x hx
   have hx:=x_R hx
   split at h
   ·rename_i t0 r ht
    have e0:c.argTypes[0]?=some t0:=by
     have:c.argTypes.toList[0]?=some t0:=by rw[ht];rfl
     simpa using this
    simp only[hx,List.map_toArray,List.map_cons,List.map_nil,builtin]
    exact a_n (t_A h hi (hd x) e0)
   ·exact h.elim
  ·rename_i x hx
   have hx:=x_R hx
   split at h
   ·rename_i t0 r ht
    have e0:c.argTypes[0]?=some t0:=by
     have:c.argTypes.toList[0]?=some t0:=by rw[ht];rfl
     simpa using this
    simp only[hx,List.map_toArray,List.map_cons,List.map_nil,builtin]
    exact a_n (t_B h hi (hd x) e0)
   ·exact h.elim
  ·rename_i s x hx
   have hx:=x_q hx
   simp only[hx,List.map_toArray,List.map_cons,List.map_nil,builtin]
   exact a_n (l_X h hi (hd s) (hd x))
  ·rename_i s x hx
   have hx:=x_q hx
   simp only[hx,List.map_toArray,List.map_cons,List.map_nil,builtin]
   exact a_n (r_H h hi (hd s) (hd x))
  ·rename_i x hx
   have hx:=x_R hx
   simp only[hx,List.map_toArray,List.map_cons,List.map_nil,builtin]
   exact a_n (o_Z h hi (hd x))
  ·rename_i x y hx
   have hx:=x_q hx
   split at h
   ·rename_i k a k' b e1 e2
    have h1:=hd x
    have h2:=hd y
    rw[e1] at h1
    rw[e2] at h2
    simp only[hx,List.map_toArray,List.map_cons,List.map_nil,builtin]
    generalize σ x=vx at h1⊢
    generalize σ y=vy at h2⊢
    cases h1;cases h2
    refine a_n ?_
    rw[run_min_int2]
    refine⟨_,_,ι,h,?_,Inj.le_refl _,hi⟩
    by_cases hc:b<a<;>simp[hc]<;>exact .lit
   ·exact h.elim
  ·rename_i x y hx
   have hx:=x_q hx
   split at h
   ·rename_i k a k' b e1 e2
    have h1:=hd x
    have h2:=hd y
    rw[e1] at h1
    rw[e2] at h2
    simp only[hx,List.map_toArray,List.map_cons,List.map_nil,builtin]
    generalize σ x=vx at h1⊢
    generalize σ y=vy at h2⊢
    cases h1;cases h2
    refine a_n ?_
    rw[run_max_int2]
    refine⟨_,_,ι,h,?_,Inj.le_refl _,hi⟩
    by_cases hc:a<b<;>simp[hc]<;>exact .lit
   ·exact h.elim
  ·exact h.elim
 ·rename_i f hc
  simp only[resolve,hc,Sem.run_bind]
  have hf:=hd f
  split at h
  ·rename_i g a b hr
   rw[hr] at hf
   generalize hsf:σ f=fv at hf
   cases hf with
   |fn ha hb=>
   simp only[Deferred.ofValue,Sem.run_pure,Result.andThen_ok,invoke]
   exact h_9 hcx h hi ((ha.append (c_t hd _)).append hb) aF
  ·rename_i name b hr
   rw[hr] at hf
   generalize hsf:σ f=fv at hf
   cases hf with
   |fn ha hb=>
   cases ha
   split at h
   ·rename_i r rest hargs
    simp only[Deferred.ofValue,Sem.run_pure,Result.andThen_ok]
    have hargs':([]:List Value).toArray++c.args.map σ=(σ r::rest.map σ).toArray:=by rw[←Array.toList_inj];simp[hargs]
    simp only[invoke,hargs',r_J,x_Q]
    exact b_9 hcx h hi (hd r) (c_t hd rest)
   ·exact h.elim
  ·rename_i name r as b hr
   rw[hr] at hf
   generalize hsf:σ f=fv at hf
   cases hf with
   |fn ha hb=>
   cases ha with
   |@cons _ y _ ys h1 h2=>
   simp only[Deferred.ofValue,Sem.run_pure,Result.andThen_ok]
   have hargs':(y::ys).toArray++c.args.map σ=(y::(ys++c.args.toList.map σ)).toArray:=aH
   simp only[invoke,hargs',r_J,x_Q]
   exact b_9 hcx h hi h1 (h2.append (c_t hd _))
  ·exact h.elim
 ·rename_i r name hc
  simp only[resolve,hc,Sem.run_bind,Sem.run_pure,Result.andThen_ok]
  have hargs':#[σ r]++c.args.map σ=(σ r::c.args.toList.map σ).toArray:=aH
  simp only[invoke,hargs',r_J,x_Q]
  exact b_9 hcx h hi (hd r) (c_t hd _)
theorem t_F{cx:b_5}(hcx:o_G P cx){o:Oper}{ρ:Operand->AVal}{σ:Operand->Value}{K:AVal->AHeap->Prop}(h:opA P cx o.op ρ H K)(hi:Inv w0 F0 ι H w)(hd:∀x,Den ι (ρ x) (σ x)):
 d_N P w0 F0 ι K ((execOp σ o).run P w):=by
 have one:∀{a:AVal} {v:Value},K a H->Den ι a v->d_N P w0 F0 ι K (.ok (.value v) w):=fun hK hv=>⟨_,_,ι,hK,hv,Inj.le_refl _,hi⟩
 obtain⟨dst,op,type,pos,after,guard⟩:=o
 cases op<;>simp only[opA] at h<;>simp only[execOp]
 case move x=>exact one h (hd x)
 case assign x=>exact one h (hd x)
 case pick c a b=>
  split at h
  ·rename_i t hc
   have hcd:=hd c
   rw[hc] at hcd
   generalize hsc:σ c=cv at hcd⊢
   cases hcd with
   |lit=>
   simp only[Sem.run_bind,asBool,Sem.run_pure,Result.andThen_ok]
   rcases a_4 h with⟨rfl,hK⟩|⟨rfl,hK⟩
   ·exact one hK (hd a)
   ·exact one hK (hd b)
  ·exact h.elim
 case alloc e=>exact a_n (l_t h hi)
 case box e v=>exact a_n (r_o h hi (hd v))
 case build t ps=>exact a_n (l_v h hi (by simpa using e_7 hd ps.toList))
 case buildSlice t n ps=>exact a_n (g_5 h hi (by simpa using e_7 hd ps.toList))
 case load t a=>exact a_n (o_O h hi (hd a))
 case store t a x=>exact d_A (e_0 h hi (hd a) (hd x))
 case nilCheck x=>
  obtain⟨y,hrun,hy,hK⟩:=t_E h hi (hd x)
  have:=one hK hy
  rw[←hrun] at this
  exact this
 case binOp op t x y yt=>exact a_n (t_y h hi (hd x) (hd y))
 case unOp op t x=>exact a_n (x_M h hi (hd x))
 case convert s d x=>exact a_n (r_u h hi (hd x))
 case makeInterface t x=>exact a_n (o_T h hi (hd x))
 case makeFunc f a b=>
  refine a_n ⟨_,_,ι,h,?_,Inj.le_refl _,hi⟩
  have e1:a.map σ=(a.toList.map σ).toArray:=aH
  have e2:b.map σ=(b.toList.map σ).toArray:=aH
  rw[e1,e2]
  exact .fn (c_t hd _) (c_t hd _)
 case makeMap t r=>
  cases r with
  |none=>exact a_n (l_S h hi)
  |some r=>exact h.elim
 case makeSlice t l c=>exact a_n (r_z h hi (hd l) (hd c))
 case slice t x l hh m=>exact a_n (l_K h hi (hd x) (i_3 hd l) (i_3 hd hh) (i_3 hd m))
 case fieldAddr s x f=>exact a_n (g_P h hi (hd x))
 case field t x f=>exact a_n (l_D h hi (hd x))
 case indexAddr t x i=>exact a_n (g_Q h hi (hd x) (hd i))
 case index t x i=>exact a_n (l_F h hi (hd x) (hd i))
 case lookup t m k ok=>exact a_n (l_U h hi (hd m) (hd k))
 case mapUpdate t m k v=>exact d_A (h_1 h hi (hd m) (hd k) (hd v))
 case insert t m k v=>exact d_A (h_1 h hi (hd m) (hd k) (hd v))
 case range t x=>exact a_n (o_0 h hi (hd x))
 case next x s=>exact a_n (r_F h hi (hd x))
 case typeAssert x s t ok=>exact a_n (l_Q h hi (hd x))
 case extract x i=>exact a_n (k_p h hi (hd x))
 case call c=>exact r_L hcx h hi hd
end
end Go.Sx

