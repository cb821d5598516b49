/- Lemmas of this claim; the last text says what is proved. -/
import Derived.Test.YtblencgndjjleaaGreatDoorK04
set_option linter.all false
namespace Go.Sx
open Go
variable [Syms]
section
variable {P:Program} {w0 w:World} {F0:Fp} {ι:Inj} {H:AHeap}
def r_x(n:Nat)(cs:List AVal):List AVal:=match n with
 |0=>[]
 |n+1=>cs++r_x n cs
def l_V:Value->Bool
 | .int .u8 n=>n==0
 |_=>false
theorem g_X{z:Value}(h:l_V z=true):z=a_v 0:=by
 unfold l_V at h
 split at h
 ·simp at h;subst h;rfl
 ·cases h
def r_y(P:Program)(t:TypeId)(l c:AVal)(H:AHeap)(K:AVal->AHeap->Prop):Prop:=
 match P.underlying t,l,c with
 |some (.slice e),.lit (.int _ n),.lit (.int _ m)=>match c_Y P e,szA P e,c_z P e with
  |some b,some (sz+1),some z=>
   gd (decide (0<=n)&&(decide (n<=m)&&(decide (m<=281474976710656)&&(decide ((b:Int)*m<=281474976710656)&&Nat.beq z.cells.size (sz+1)))))
    (cond (h_O P e) (gd (l_V z) (K (.slc H.next 0 n.toNat (.n m.toNat)) (H.new (.bytes (List.replicate n.toNat 0) e (.n m.toNat)))))
     (cond (Nat.ble 4 sz) (K (.slc H.next 0 n.toNat (.n m.toNat)) (H.new (.famw (fun _=>(AVal.lit z).cells) (sz+1) n.toNat [] e (.n (m.toNat*(sz+1))))))
      (K (.slc H.next 0 n.toNat (.n m.toNat)) (H.new (.row (r_x n.toNat (AVal.lit z).cells) e (.n (m.toNat*(sz+1))))))))
  |_,_,_=>False
 |_,_,_=>False
theorem d_K{n:Int}(h0:0<=n)(h1:n<=281474976710656):IntKind.i64.wrap n=n:=by
 simp only[IntKind.wrap,IntKind.bits,IntKind.signed]
 have:n % 2 ^ 64=n:=Int.emod_eq_of_lt h0 ac
 simp only[this]
 rw[if_neg]
 simp
 omega
theorem e_3(z:Value)(sz:Nat)(hz:z.cells.size=sz+1):∀n,((List.range (n*(sz+1))).map (fun i=>z.cells[i % z.cells.size]!))=(List.replicate n z.cells.toList).flatten:=by
 intro n
 induction n with
 |zero=>simp
 |succ n ih=>
  rw[List.replicate_succ',List.flatten_append,←ih]
  have e:(n+1)*(sz+1)=n*(sz+1)+(sz+1):=by rw[Nat.succ_mul]
  rw[e,List.range_add,List.map_append]
  congr 1
  simp only[List.flatten_cons,List.flatten_nil,List.append_nil,List.map_map]
  apply List.ext_getElem?
  intro i
  by_cases hi:i<sz+1
  ·have h1:(n*(sz+1)+i) % (sz+1)=i:=by
    rw[Nat.mul_comm,Nat.mul_add_mod];exact Nat.mod_eq_of_lt hi
   have hi':i<z.cells.size:=ac
   simp[hi,h1,hz,hi',getElem!_pos z.cells i hi']
  ·have hi':z.cells.size<=i:=ac
   simp[hi,hi']
theorem g_Y{cs:List AVal}{vs:List Value}(h:DenL ι cs vs):∀n,DenL ι (r_x n cs) (List.replicate n vs).flatten
 |0=>.nil
 |n+1=>by simpa[r_x,List.replicate_succ] using h.append (g_Y h n)
theorem h_5{α:Type}{l:List α}:∀{n k:Nat},k<n->(((List.replicate n l).flatten.drop (k*l.length)).take l.length)=l
 |0,_,h=>ac
 |n+1,0,_=>by simp[List.replicate_succ]
 |n+1,k+1,h=>by
  have ih:=h_5 (l:=l) (n:=n) (k:=k) ac
  have e:(k+1)*l.length=l.length+k*l.length:=by rw[Nat.succ_mul];omega
  rw[List.replicate_succ,List.flatten_cons,e,←List.drop_drop,List.drop_left]
  exact ih
theorem d_L(n:Nat)(vs:List Value):(List.replicate n vs).flatten.length=n*vs.length:=by simp[List.length_flatten]
theorem r_z{t:TypeId}{l c:AVal}{lv cv:Value}{K:AVal->AHeap->Prop}(h:r_y P t l c H K)(hi:Inv w0 F0 ι H w)(hl:Den ι l lv)(hc:Den ι c cv):Ok w0 F0 ι K ((Instr.makeSlice t lv cv).run P w):=by
 unfold r_y at h
 split at h
 ·rename_i e k n k' m hu
  cases hl;cases hc
  split at h
  ·rename_i b sz z hb hs hz
   obtain⟨hcond,h⟩:=a_h h
   simp only[Bool.and_eq_true,decide_eq_true_eq] at hcond
   obtain⟨h0,h1,h2,h3,h4⟩:=hcond
   have h4:=Nat.eq_of_beq_eq_true h4
   have hm0:0<=m:=ac
   have hn1:n<=281474976710656:=ac
   have hinfo:∃i,P.info? e=some i/\i.bytes=b:=by
    unfold c_Y at hb
    cases hi':P.info? e with
    |none=>rw[hi'] at hb;cases hb
    |some i=>rw[hi'] at hb;simp at hb;exact⟨i,rfl,hb⟩
   obtain⟨inf,hinf,hbytes⟩:=hinfo
   have hnm:(Instr.makeSlice t (.int k n) (.int k' m)).run P w=.ok (.slice (some ⟨w.heap.size,0,none⟩) n.toNat m.toNat) {w with heap:=w.heap.push (.cells (List.replicate m.toNat z.cells.toList).flatten.toArray e)}:=by
    simp only[Instr.makeSlice,Sem.run_bind,a_a hu,Result.andThen_ok,asInt,asIntOf,Sem.run_pure,a_u hinf,d_K h0 hn1,d_K hm0 h2,hbytes]
    have c1:(decide (m<0)||decide ((b:Int)*m>2 ^ 48)||decide (n<0)||decide (n>m))=false:=by
     simp only[Bool.or_eq_false_iff,decide_eq_false_iff_not]
     refine⟨⟨⟨ac,?_⟩,ac⟩,ac⟩
     have:(2:Int) ^ 48=281474976710656:=ar
     omega
    rw[if_neg (by rw[c1];simp)]
    simp only[Sem.run_bind,Result.andThen_ok,run_askRoom,a_q hs]
    have hrow:((Array.range (m.toNat*(sz+1))).map (fun i=>z.cells[i % z.cells.size]!))=(List.replicate m.toNat z.cells.toList).flatten.toArray:=by
     rw[←e_3 z sz h4]
     simp[←Array.toList_inj]
    by_cases hm:m.toNat=0
    ·have:m.toNat*(sz+1)=0:=by rw[hm];simp
     have hr0:Array.range 0=#[]:=rfl
     simp[hm,b_d,hr0]
    ·have:¬m.toNat*(sz+1)=0:=Nat.mul_ne_zero hm ac
     rw[if_neg this]
     simp only[Sem.run_bind,b_g hz,Result.andThen_ok,Sem.run_pure,hrow,b_d]
   have hsplit:(List.replicate m.toNat z.cells.toList).flatten=(List.replicate n.toNat z.cells.toList).flatten++(List.replicate (m.toNat-n.toNat) z.cells.toList).flatten:=by
    rw[←List.flatten_append,List.replicate_append_replicate]
    congr 2
    omega
   rw[hnm]
   cases hu8:h_O P e with
   |true=>
    rw[hu8] at h
    simp only[cond_true] at h
    obtain⟨hzb,h⟩:=a_h h
    have hzb:=g_X hzb
    subst hzb
    have hflat:∀k,(List.replicate k (a_v 0).cells.toList).flatten=(List.replicate k (0:UInt8)).map a_v:=by
     intro k
     have:(a_v 0).cells.toList=[a_v 0]:=rfl
     rw[this]
     induction k with
     |zero=>rfl
     |succ k ih=>simp[List.replicate_succ,ih]
    obtain⟨ι',hle,hn,hinv⟩:=hi.new (b:=.bytes (List.replicate n.toNat 0) e (.n m.toNat)) (o:=.cells (List.replicate m.toNat (a_v 0).cells.toList).flatten.toArray e (0,0))
     ⟨(List.replicate (m.toNat-n.toNat) (a_v 0).cells.toList).flatten,(0,0),by rw[hsplit,hflat n.toNat],by
       show _<=_
       rw[hflat];simp;omega,fun k _ hh=>aP⟩
    exact⟨_,_,ι',h,.slc hn ac (.inl rfl) rfl,hle,hinv⟩
   |false=>
    rw[hu8] at h
    simp only[cond_false] at h
    cases h5:Nat.ble 4 sz with
    |true=>
     rw[h5,cond_true] at h
     have hzl:z.cells.toList.length=sz+1:=by simpa using h4
     obtain⟨ι',hle,hn,hinv⟩:=hi.new (b:=.famw (fun _=>(AVal.lit z).cells) (sz+1) n.toNat [] e (.n (m.toNat*(sz+1)))) (o:=.cells (List.replicate m.toNat z.cells.toList).flatten.toArray e (0,0))
      ⟨(List.replicate n.toNat z.cells.toList).flatten,[],(List.replicate (m.toNat-n.toNat) z.cells.toList).flatten,by rw[hsplit,List.append_nil],by rw[d_L,hzl],fun k hk=>by
        have:=h_5 (l:=z.cells.toList) hk
        rw[hzl] at this
        rw[this]
        exact Den.cells .lit rfl,.nil,by
        refine Nat.le_of_eq ?_
        rw[d_L,d_L,hzl,List.length_nil,Nat.add_zero (n.toNat*(sz+1)),←Nat.add_mul]
        congr 1;omega⟩
     exact⟨_,_,ι',h,.slc hn ac (.inl rfl) rfl,hle,hinv⟩
    |false=>
    rw[h5,cond_false] at h
    obtain⟨ι',hle,hn,hinv⟩:=hi.new (b:=.row (r_x n.toNat (AVal.lit z).cells) e (.n (m.toNat*(sz+1)))) (o:=.cells (List.replicate m.toNat z.cells.toList).flatten.toArray e (0,0))
     ⟨_,(List.replicate (m.toNat-n.toNat) z.cells.toList).flatten,by rw[hsplit],g_Y (Den.cells .lit rfl) _,by
       refine Nat.le_of_eq ?_
       rw[d_L,d_L,←Nat.add_mul]
       have:z.cells.toList.length=sz+1:=by simpa using h4
       rw[this];congr 1;omega⟩
    exact⟨_,_,ι',h,.slc hn ac (.inl rfl) rfl,hle,hinv⟩
  ·exact h.elim
 ·exact h.elim
def x_O(P:Program)(t:TypeId)(x:AVal)(H:AHeap)(K:AVal->Prop):Prop:=
 match P.underlying t,x with
 |some .string,.str l=>K (.lit (.int .i64 l.length))
 |some (.slice _),.slc _ _ n _=>K (.lit (.int .i64 n))
 |some .string,.rope r=>K (.lenr r)
 |some (.slice _),.rsl _ _ mid _=>K (.lenr mid)
 |some (.slice _),.lit (.slice none n _)=>K (.lit (.int .i64 n))
 |some (.map _ _),.map id=>match H.get id with
  |some (.map es _)=>K (.lit (.int .i64 es.length))
  |_=>False
 |some (.slice _),.ssl _ _ n=>K (.lit (.int .i64 n))
 |some (.slice _),.by_ l=>K (.lit (.int .i64 l.length))
 |some (.slice _),.fam _ n=>K (.lit (.int .i64 n))
 |some (.slice _),.famx _ n=>K (.lit (.int .i64 n))
 |some (.slice _),.fmw _ _ n=>K (.lit (.int .i64 n))
 |some (.slice _),.e0=>K (.lit (.int .i64 0))
 |_,_=>False
def x_P(P:Program)(t:TypeId)(x:AVal)(K:AVal->Prop):Prop:=
 match P.underlying t,x with
 |some (.slice _),.slc _ _ _ (.n c)=>K (.lit (.int .i64 c))
 |some (.slice _),.lit (.slice none _ c)=>K (.lit (.int .i64 c))
 |_,_=>False
theorem EDen.len:∀{es:List (AVal×AVal×Nat)} {l:List MapEntry},EDen ι es l->es.length=l.length
 |[],[],_=>rfl
 |(_,_,_)::_,_::_,h=>by simp[EDen.len h.2.2.2]
 |[],_::_,h=>am
 |(_,_,_)::_,[],h=>am
theorem t_A{t u:TypeId}{ts:Array TypeId}{x:AVal}{a:Value}{K:AVal->AHeap->Prop}(h:x_O P t x H (fun v=>K v H))(hi:Inv w0 F0 ι H w)(hx:Den ι x a)(ht:ts[0]?=some t):Ok w0 F0 ι K ((Builtin.len_ ts u #[a]).run P w):=by
 have fin:∀{v:Value} {z:AVal},K z H->Den ι z v->(Builtin.len_ ts u #[a]).run P w=.ok v w->Ok w0 F0 ι K ((Builtin.len_ ts u #[a]).run P w):=by
  intro v z hK hz hr
  rw[hr]
  exact⟨_,_,ι,hK,hz,Inj.le_refl _,hi⟩
 unfold x_O at h
 split at h
 ·rename_i l hu
  cases hx
  refine fin h .lit ?_
  have h0:(#[Value.string ⟨l.toArray⟩]:Array Value)[0]?=some (.string ⟨l.toArray⟩):=rfl
  have hs:(⟨l.toArray⟩:ByteArray).size=l.length:=aG
  simp only[Builtin.len_,ht,h0,Sem.run_bind,a_a hu,Result.andThen_ok,Sem.run_pure,goInt,hs]
 ·rename_i hu
  cases hx<;>exact fin h .lit aw
 ·rename_i r hu
  cases hx
  refine fin h .lenr ?_
  have h0:(#[Value.string ⟨(a_3 r).toArray⟩]:Array Value)[0]?=some (.string ⟨(a_3 r).toArray⟩):=rfl
  have hs:(⟨(a_3 r).toArray⟩:ByteArray).size=(a_3 r).length:=aG
  simp only[Builtin.len_,ht,h0,Sem.run_bind,a_a hu,Result.andThen_ok,Sem.run_pure,goInt,hs]
 ·rename_i hu
  cases hx
  exact fin h .lenr aw
 ·rename_i hu
  cases hx<;>exact fin h .lit aw
 ·rename_i id hu
  cases hx with
  |map hr=>
  rename_i r
  split at h
  ·rename_i es c hg
   obtain⟨r',o,hr',ho,hb,_⟩:=hi.blk _ _ hg
   rw[hr] at hr';cases hr'
   obtain⟨ent,rfl,hE⟩:=hb
   refine fin h .lit ?_
   have h0:(#[Value.map (some r)]:Array Value)[0]?=some (.map (some r)):=rfl
   simp only[Builtin.len_,ht,h0,Sem.run_bind,a_a hu,Result.andThen_ok,c_E ho,Sem.run_pure,goInt]
   rw[hE.len,Array.length_toList]
  ·exact h.elim
 ·rename_i hu
  cases hx<;>exact fin h .lit aw
 ·rename_i hu
  cases hx<;>exact fin h .lit aw
 ·rename_i hu
  cases hx<;>exact fin h .lit aw
 ·rename_i hu
  cases hx<;>exact fin h .lit aw
 ·rename_i hu
  cases hx<;>exact fin h .lit aw
 ·rename_i hu
  cases hx<;>exact fin h .lit aw
 ·exact h.elim
theorem t_B{t u:TypeId}{ts:Array TypeId}{x:AVal}{a:Value}{K:AVal->AHeap->Prop}(h:x_P P t x (fun v=>K v H))(hi:Inv w0 F0 ι H w)(hx:Den ι x a)(ht:ts[0]?=some t):Ok w0 F0 ι K ((Builtin.cap_ ts u #[a]).run P w):=by
 have fin:∀{v:Value} {z:AVal},K z H->Den ι z v->(Builtin.cap_ ts u #[a]).run P w=.ok v w->Ok w0 F0 ι K ((Builtin.cap_ ts u #[a]).run P w):=by
  intro v z hK hz hr
  rw[hr]
  exact⟨_,_,ι,hK,hz,Inj.le_refl _,hi⟩
 unfold x_P at h
 split at h
 ·rename_i hu
  cases hx with
  |slc hr hl ho hcap=>
  cases hcap
  exact fin h .lit (by simp[Builtin.cap_,ht,a_a hu,goInt])
 ·rename_i hu
  cases hx
  exact fin h .lit (by simp[Builtin.cap_,ht,a_a hu,goInt])
 ·exact h.elim
end
end Go.Sx

