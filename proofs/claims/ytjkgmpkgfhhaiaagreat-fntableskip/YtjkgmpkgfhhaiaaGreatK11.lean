/- Lemmas of this claim; the last text says what is proved. -/
import Derived.Test.YtjkgmpkgfhhaiaaGreatK10
import Derived.KernelRfl
import Derived.Recover
set_option linter.all false
namespace Go.Sx
open Go
variable [Syms]
section
variable {P:Program} {w0 w:World} {F0:Fp} {ι:Inj} {H:AHeap}
structure ExtOk (P:Program) (f:FuncId) (e:Array Value->Sem Value):Prop where
 ex:∃fn,P.funcs[f]?=some fn/\fn.body.isNone=true/\(fn.name== "runtime.NumGoroutine")=false/\Extern.findNext fn=none/\Extern.find fn=some e
theorem run_extern {f:FuncId} {e:Array Value->Sem Value} (h:ExtOk P f e) (args:Array Value):(callFunc f args).run P w=(do pure (.value (←e args)):Sem Next).run P w:=by
 obtain⟨fn,hf,hb,hn,h1,h2⟩:=h.ex
 simp only[callFunc,Sem.run_bind,run_program,Result.andThen_ok,hf]
 rw[if_neg (by rw[hn];simp),if_pos hb]
 simp only[h1,h2,Sem.run_bind,mark]
 rfl
theorem run_under {t:TypeId} {d:TypeDesc} (h:P.underlying t=some d):∃u i,(Extern.Rtype.under t).run P w=.ok (u,i) w/\i.desc=d:=by
 unfold Program.underlying at h
 cases hi:P.info? t with
 |none=>rw[hi] at h;cases h
 |some i=>
  rw[hi] at h
  obtain⟨desc,str,size,bytes,hp,al,fal,zero,cmp,ms⟩:=i
  cases desc
  case named n u=>
   simp only[Option.map_eq_some_iff] at h
   obtain⟨j,hj,hd⟩:=h
   refine⟨u,j,?_,hd⟩
   simp only[Extern.Rtype.under,Sem.run_bind,run_typeInfo hi,Result.andThen_ok,run_typeInfo hj,Sem.run_pure]
  all_goals
   cases h
   refine⟨t,_,?_,rfl⟩
   simp only[Extern.Rtype.under,Sem.run_bind,run_typeInfo hi,Result.andThen_ok,Sem.run_pure]
theorem run_kind_slice {t e:TypeId} (h:P.underlying t=some (.slice e)):(Extern.Rtype.kind t).run P w=.ok 23 w:=by
 obtain⟨u,i,hr,hd⟩:=run_under (w:=w) h
 simp only[Extern.Rtype.kind,Sem.run_bind,hr,Result.andThen_ok,hd,Sem.run_pure]
theorem run_kind_struct {t:TypeId} {fs:Array Field} (h:P.underlying t=some (.struct fs)):(Extern.Rtype.kind t).run P w=.ok 25 w:=by
 obtain⟨u,i,hr,hd⟩:=run_under (w:=w) h
 simp only[Extern.Rtype.kind,Sem.run_bind,hr,Result.andThen_ok,hd,Sem.run_pure]
theorem run_elem {t e:TypeId} (h:P.underlying t=some (.slice e)):(Extern.Rtype.elem? t).run P w=.ok (some e) w:=by
 obtain⟨u,i,hr,hd⟩:=run_under (w:=w) h
 simp only[Extern.Rtype.elem?,Sem.run_bind,hr,Result.andThen_ok,hd,Sem.run_pure]
def valueOfE:Array Value->Sem Value:=fun args=>Extern.ReflectliteValue.unpack (args.getD 0 (.tuple #[]))
def valueOfA (P:Program):Spec:=fun args H K=>match args with
 |[.ifc t v]=>match P.underlying t with
  |some (.slice _)=>gd (nt v) (K (.agg [.lit (typeHandle P t),.ptr H.next 0,.lit (.int .u64 (Int.ofNat 151))]) (H.new (.row v.cells t (.n v.cells.length))))
  |_=>False
 |_=>False
theorem valueOf_ok {f:FuncId} (h:ExtOk P f valueOfE):SpecOk P f (valueOfA P):=by
 intro args H K hs w0 F0 ι w vs hi hd
 unfold valueOfA at hs
 split at hs
 ·rename_i t v
  cases hd with
  |cons h1 h2=>
  cases h2
  cases h1 with
  |@ifc _ _ x hx=>
  split at hs
  ·rename_i e hu
   obtain⟨hnt,hs⟩:=gd_out hs
   rw[run_extern h]
   obtain⟨ι',hle,hn,hinv⟩:=hi.new (b:=.row v.cells t (.n v.cells.length)) (o:=.cells x.cells t (0,0)) (row_den (by simpa using hx.cells hnt))
   have hrun:(valueOfE [Value.iface t x].toArray).run P w=.ok (.agg #[typeHandle P t,.pointer (some ⟨w.heap.size,0,none⟩),.int .u64 (Int.ofNat 151)]) {w with heap:=w.heap.push (.cells x.cells t (0,0))}:=by
    have e0:([Value.iface t x].toArray).getD 0 (.tuple #[])=.iface t x:=rfl
    simp only[valueOfE,e0,Extern.ReflectliteValue.unpack,Sem.run_bind,newVar,run_newRow,Result.andThen_ok,Extern.ReflectliteValue.mk,Extern.Rtype.handle,run_program,Sem.run_pure,run_kind_slice hu]
    rfl
   refine next_of_ok ?_
   rw[hrun]
   refine⟨_,_,ι',hs,?_,hle,hinv⟩
   exact .agg (.cons .lit (.cons (.ptr hn) (.cons .lit .nil)))
  ·exact hs.elim
 ·exact hs.elim
def lenE:Array Value->Sem Value:=Extern.ReflectliteValue.method (Extern.ReflectliteValue.valueError "reflectlite.Value.Len" 0) Extern.ReflectliteValue.len
def lenVA (P:Program):Spec:=fun args H K=>match args with
 |[.agg [.lit h,.ptr id off,.lit (.int .u64 n)]]=>match handleType P h with
  |some t=>match P.underlying t with
   |some (.slice _)=>gd (decide (n=151)&& !P.packed t) (loadA P t (.ptr id off) H (fun v H=>match v with
    | .slc _ _ n _=>K (.lit (.int .i64 n)) H
    | .lit (.slice none n _)=>K (.lit (.int .i64 n)) H
    |_=>False))
   |_=>False
  |none=>False
 |_=>False
theorem lenV_ok {f:FuncId} (h:ExtOk P f lenE):SpecOk P f (lenVA P):=by
 intro args H K hs w0 F0 ι w vs hi hd
 unfold lenVA at hs
 split at hs
 ·rename_i hh id off n
  cases hd with
  |cons h1 h2=>
  cases h2
  cases h1 with
  |agg h1=>
  cases h1 with
  |cons ha hb=>
  cases ha
  cases hb with
  |cons hb hc=>
  cases hc with
  |cons hc hd=>
  cases hd
  cases hc
  split at hs
  ·rename_i t ht
   split at hs
   ·rename_i e hu
    obtain⟨hcc,hs2⟩:=gd_out hs
    clear hs
    simp only[Bool.and_eq_true,decide_eq_true_eq,Bool.not_eq_true'] at hcc
    obtain⟨rfl,hp⟩:=hcc
    rw[run_extern h]
    cases hb with
    |ptr hr=>
    rename_i r
    obtain⟨x,y,hrun,hden,hK⟩:=loadA_ro (P:=P) hs2 hi (.ptr hr)
    have hl:=hrun w rfl
    have hl':(loadVar t ⟨r,off,none⟩).run P w=.ok y w:=by simpa[Instr.loadAt,Instr.sureAddr] using hl
    obtain⟨u,i,hru,hdesc⟩:=run_under (w:=w) hu
    have hlen:∀m:Nat,(Builtin.len_ #[t] 0 #[y]).run P w=.ok (.int .i64 m) w->(lenE [Value.agg [hh,.pointer (some ⟨r,off,none⟩),.int .u64 151].toArray].toArray).run P w=.ok (.int .i64 m) w:=by
     intro m hm
     have e1:lenE [Value.agg [hh,.pointer (some ⟨r,off,none⟩),.int .u64 151].toArray].toArray=(do
      match ←Extern.ReflectliteValue.parts (.agg [hh,.pointer (some ⟨r,off,none⟩),.int .u64 151].toArray) with
      |none=>Extern.ReflectliteValue.valueError "reflectlite.Value.Len" 0
      |some (t,a,fl)=>Extern.ReflectliteValue.len t a fl (fl % 32)):=rfl
     have e2:Extern.ReflectliteValue.partsAny (.agg [hh,.pointer (some ⟨r,off,none⟩),.int .u64 151].toArray)=(do pure (some (←Extern.Rtype.ofHandle hh,⟨r,off,none⟩,151))):=rfl
     have e3:(Extern.Rtype.ofHandle hh).run P w=.ok t w:=by
      simp only[Extern.Rtype.ofHandle,Sem.run_bind,run_program,Result.andThen_ok,ht,Sem.run_pure]
     have e4:∀s,(Extern.Rtype.noPack s t).run P w=.ok () w:=fun s=>by
      simp only[Extern.Rtype.noPack,Sem.run_bind,run_program,Result.andThen_ok,hp,Bool.false_eq_true,if_false,Sem.run_pure]
     have e5:(Extern.ReflectliteValue.len t ⟨r,off,none⟩ 151 (151 % 32)).run P w=.ok (.int .i64 m) w:=by
      have:(!([17,18,21,23,24]:List Nat).contains (151 % 32))=false:=by decide
      simp only[Extern.ReflectliteValue.len,this,Bool.false_eq_true,if_false,Sem.run_bind,Sem.run_pure,Result.andThen_ok,hru,hdesc,hl',hm]
     rw[e1]
     simp only[Sem.run_bind,Extern.ReflectliteValue.parts,e2,e3,Result.andThen_ok,Sem.run_pure,e4,e5]
    split at hK
    ·rename_i id' off' m cap
     cases hden with
     |slc a b c d=>
     refine next_of_ok ?_
     rw[hlen m (by simp[Builtin.len_,run_underlying hu,goInt])]
     exact⟨_,_,ι,hK,.lit,Inj.le_refl _,hi⟩
    ·cases hden
     rename_i m c
     refine next_of_ok ?_
     rw[hlen m (by simp[Builtin.len_,run_underlying hu,goInt])]
     exact⟨_,_,ι,hK,.lit,Inj.le_refl _,hi⟩
    ·exact hK.elim
   ·exact hs.elim
  ·exact hs.elim
 ·exact hs.elim
def swapperE:Array Value->Sem Value:=Extern.ReflectliteSwapper.swapper "internal/reflectlite" (Extern.ReflectliteValue.valueError "Swapper")
def SwOk (P:Program) (sw:Nat->FuncId):Prop:=∀k,k=1\/k=2\/k=9->P.funcs.findIdx? (·.name== "internal/reflectlite" ++ ".Swapper$" ++toString k)=some (sw k)
def swapperA (P:Program) (sw:Nat->FuncId):Spec:=fun args H K=>match args with
 |[.ifc t s]=>match P.underlying t with
  |some (.slice e)=>match P.info? e,P.underlying e with
   |some i,some (.struct _)=>match s with
    | .lit (.slice none 0 0)=>K (.fn (.func (sw 1)) [] []) H
    | .slc id off n cap=>match n with
      |0=>K (.fn (.func (sw 1)) [] []) H
      |1=>K (.fn (.func (sw 2)) [] []) H
      |n+2=>gd (i.hasPointers&& !(i.bytes==8)) (K (.fn (.func (sw 9)) [] [.slc id off (n+2) cap,.lit (typeHandle P e)]) H)
    |_=>False
   |_,_=>False
  |_=>False
 |_=>False
theorem swapper_ok {f:FuncId} {sw:Nat->FuncId} (h:ExtOk P f swapperE) (hsw:SwOk P sw):SpecOk P f (swapperA P sw):=by
 intro args H K hs w0 F0 ι w vs hi hd
 unfold swapperA at hs
 split at hs
 ·rename_i t s
  cases hd with
  |cons h1 h2=>
  cases h2
  cases h1 with
  |@ifc _ _ x hx=>
  split at hs
  ·rename_i e hu
   split at hs
   ·rename_i i fs hinf hue
    rw[run_extern h]
    have main:∀(b:Option Addr) (n c k:Nat) (bound:Array Value),x=.slice b n c->
     (if n==0 then 1 else if n==1 then 2 else if i.hasPointers&&i.bytes==8 then 3 else if i.hasPointers&&(25:Nat)==24 then 4 else if i.hasPointers then 9 else match i.bytes with|8=>5|4=>6|2=>7|1=>8|_=>9:Nat)=k->
     (k=1\/k=2\/k=9)->(if k<=2 then#[] else#[Value.slice b n c,typeHandle P e])=bound->
     (swapperE [Value.iface t x].toArray).run P w=.ok (.func (.func (sw k)) #[] bound) w:=by
     intro b n c k bound hxe hk hk3 hb
     subst hxe
     have e1:swapperE [Value.iface t (.slice b n c)].toArray=(do
      let (.slice _ n _,some e):=(Value.slice b n c,←Extern.Rtype.elem? t)|Extern.ReflectliteValue.valueError "Swapper" (←Extern.Rtype.kind t)
      let i←typeInfo e
      let isString:=(←Extern.Rtype.kind e)==24
      let k:Nat:=
       if n==0 then 1 else if n==1 then 2
       else if i.hasPointers&&i.bytes==8 then 3
       else if i.hasPointers&&isString then 4
       else if i.hasPointers then 9
       else match i.bytes with|8=>5|4=>6|2=>7|1=>8|_=>9
      let h←Extern.Rtype.handle e
      Extern.ReflectliteSwapper.literal "internal/reflectlite" k (if k<=2 then#[] else#[Value.slice b n c,h])):=by kernel_rfl
     rw[e1]
     simp only[Sem.run_bind,run_elem hu,Result.andThen_ok,run_typeInfo hinf,run_kind_struct hue,Extern.Rtype.handle,run_program,Sem.run_pure]
     rw[hk,hb]
     simp only[Extern.ReflectliteSwapper.literal,Sem.run_bind,run_program,Result.andThen_ok,hsw k hk3,Sem.run_pure]
    split at hs
    ·cases hx
     refine next_of_ok ?_
     rw[main none 0 0 1 #[] rfl rfl (.inl rfl) rfl]
     exact⟨_,_,ι,hs,.fn .nil .nil,Inj.le_refl _,hi⟩
    ·rename_i id off n cap
     cases hx with
     |slc hr hl ho hc=>
     rename_i off' r c
     split at hs
     ·refine next_of_ok ?_
      rw[main _ 0 c 1 #[] rfl rfl (.inl rfl) rfl]
      exact⟨_,_,ι,hs,.fn .nil .nil,Inj.le_refl _,hi⟩
     ·refine next_of_ok ?_
      rw[main _ 1 c 2 #[] rfl rfl (.inr (.inl rfl)) rfl]
      exact⟨_,_,ι,hs,.fn .nil .nil,Inj.le_refl _,hi⟩
     ·rename_i n
      obtain⟨hg,hs⟩:=gd_out hs
      simp only[Bool.and_eq_true,Bool.not_eq_true'] at hg
      obtain⟨hp,hb8⟩:=hg
      refine next_of_ok ?_
      rw[main _ (n+2) c 9 #[Value.slice (some ⟨r,off',none⟩) (n+2) c,typeHandle P e] rfl (by
       simp only[hp,hb8,Bool.true_and,Bool.false_eq_true,if_false,if_true]
       simp) (.inr (.inr rfl)) rfl]
      exact⟨_,_,ι,hs,.fn .nil (.cons (.slc hr hl ho hc) (.cons .lit .nil)),Inj.le_refl _,hi⟩
    ·exact hs.elim
   ·exact hs.elim
  ·exact hs.elim
 ·exact hs.elim
def swapE:Array Value->Sem Value:=Extern.ReflectliteSwapper.swap false
def swapA (P:Program):Spec:=fun args H K=>match args with
 |[.lit (.int .i64 i),.lit (.int .i64 j),.slc id off n _,.lit h]=>match handleType P h with
  |some e=>match szA P e with
   |some sz=>gd (decide (0<=i)&&decide (i<(n:Int))&&(decide (0<=j)&&decide (j<(n:Int))))
    (loadA P e (.ptr id (off+i.toNat*sz)) H (fun x _=>loadA P e (.ptr id (off+j.toNat*sz)) H (fun y _=>
     storeA P e (.ptr id (off+i.toNat*sz)) y H (fun H1=>storeA P e (.ptr id (off+j.toNat*sz)) x H1 (fun H2=>K undefA H2)))))
   |none=>False
  |none=>False
 |_=>False
theorem swap_ok {f:FuncId} (h:ExtOk P f swapE):SpecOk P f (swapA P):=by
 intro args H K hs w0 F0 ι w vs hi hd
 unfold swapA at hs
 split at hs
 ·rename_i i j id off n cap hh
  cases hd with
  |cons h1 hd=>
  cases h1
  cases hd with
  |cons h1 hd=>
  cases h1
  cases hd with
  |cons hsl hd=>
  cases hd with
  |cons h1 hd=>
  cases h1
  cases hd
  cases hsl with
  |slc hr hl ho hc=>
  rename_i off' r c
  split at hs
  ·rename_i e he
   split at hs
   ·rename_i sz hsz
    obtain⟨hg,hs⟩:=gd_out hs
    simp only[Bool.and_eq_true,decide_eq_true_eq] at hg
    obtain⟨⟨hi0,hin⟩,hj0,hjn⟩:=hg
    have ho':off'=off:=by
     rcases ho with ho|ho
     ·exact ho
     ·omega
    subst ho'
    rw[run_extern h]
    have ld:∀{k:Nat} {v:Value} {w:World},(Instr.loadAt e (.pointer (some ⟨r,k,none⟩))).run P w=.ok v w->(loadVar e ⟨r,k,none⟩).run P w=.ok v w:=fun hl=>by simpa[Instr.loadAt,Instr.sureAddr] using hl
    have st:∀{k:Nat} {v:Value} {w:World},(Instr.storeAt e (.pointer (some ⟨r,k,none⟩)) v).run P w=(storeVar e ⟨r,k,none⟩ v).run P w:=fun{k v w}=>by simp[Instr.storeAt,Instr.sureAddr]
    obtain⟨x,xv,hxr,hxd,hs⟩:=loadA_ro (P:=P) hs hi (.ptr hr)
    obtain⟨y,yv,hyr,hyd,hs⟩:=loadA_ro (P:=P) hs hi (.ptr hr)
    have s1:=storeA_ok (P:=P) hs hi (.ptr hr) hyd
    rw[st] at s1
    refine next_of_ok ?_
    have e1:swapE [Value.int .i64 i,.int .i64 j,.slice (some ⟨r,off',none⟩) n c,hh].toArray=(do
     if false=true then
      if i<0||i≥n then boundsPanic .i64 i n .index
      if j<0||j≥n then boundsPanic .i64 j n .index
     else if i<0||i≥n||j<0||j≥n then Extern.ReflectliteSwapper.outOfRange
     Extern.ReflectliteSwapper.exchange (←Extern.Rtype.ofHandle hh) ⟨r,off',none⟩ i.toNat j.toNat):=rfl
    have hnot:(decide (i<0)||decide (i≥(n:Int))||decide (j<0)||decide (j≥(n:Int)))=false:=by
     simp only[Bool.or_eq_false_iff,decide_eq_false_iff_not]
     omega
    rw[e1]
    simp only[Bool.false_eq_true,if_false,hnot,Sem.run_bind,Sem.run_pure,Result.andThen_ok,Extern.Rtype.ofHandle,run_program,he,Extern.ReflectliteSwapper.exchange,run_sizeOf hsz,addr_add,ld (hxr w rfl),ld (hyr w rfl)]
    cases hr1:(storeVar e ⟨r,off'+i.toNat*sz,none⟩ yv).run P w with
    |halt a b=>rw[hr1] at s1;exact s1.elim
    |ok u w1=>
     rw[hr1] at s1
     obtain⟨H1,ι1,hs,hle1,hi1⟩:=s1
     have s2:=storeA_ok (P:=P) hs hi1 (.ptr (hle1 _ _ hr)) (hxd.mono hle1)
     rw[st] at s2
     simp only[Result.andThen_ok]
     cases hr2:(storeVar e ⟨r,off'+j.toNat*sz,none⟩ xv).run P w1 with
     |halt a b=>rw[hr2] at s2;exact s2.elim
     |ok u w2=>
      rw[hr2] at s2
      obtain⟨H2,ι2,hs,hle2,hi2⟩:=s2
      exact⟨_,H2,ι2,hs,.tup .nil,Inj.le_trans hle1 hle2,hi2⟩
   ·exact hs.elim
  ·exact hs.elim
 ·exact hs.elim
end
end Go.Sx
namespace Go.Sx
open Go
variable [Syms]
section
variable {P:Program} {w0 w:World} {F0:Fp} {ι:Inj} {H:AHeap}
structure RecOk (P:Program) (f:FuncId) (fn:Func) (id:Nat) (o0 o1:Oper) (c:Call) (T T2:TypeId) (X:Code):Prop where
 hf:P.funcs[f]?=some fn
 hb:fn.body=some (.seq (.region id #[o0,o1] false) (.cond (.tmp 2) X .skip))
 hn:(fn.name== "runtime.NumGoroutine")=false
 hr:fn.results=#[]
 d0:o0.dst=some 1
 g0:o0.guard=none
 p0:o0.op=.call c
 pc:c.callee=.builtin .recover
 d1:o1.dst=some 2
 g1:o1.guard=none
 p1:o1.op=.binOp .neq T (.tmp 1) (.const .nilIface) T2
 eq:∃ms,P.underlying T=some (.interface ms)
 n3:fn.ntmps=3
def recA:Spec:=fun args H K=>match args with
 |[_]=>K (.tup []) H
 |_=>False
theorem rec_ok {f:FuncId} {fn:Func} {id:Nat} {o0 o1:Oper} {c:Call} {T T2:TypeId} {X:Code} (R:RecOk P f fn id o0 o1 c T T2 X):SpecOkD P f recA:=by
 refine⟨⟨fn,R.hf,by rw[R.hb];rfl,R.hn⟩,?_⟩
 intro args H K hs w0 F0 ι w vs hi hd
 unfold recA at hs
 split at hs
 ·rename_i x
  cases hd with
  |@cons _ p _ _ h1 h2=>
  cases h2
  refine callsD_of_wpS R.hf R.hb fun c₀ cs hu=>?_
  have htm:([p].toArray++Array.replicate (fn.ntmps-[p].toArray.size) undef)=#[p,undef,undef]:=by
   rw[R.n3];rfl
  rw[htm]
  refine wpS_seq (wpS_region ?_)
  have hrange:List.range (#[o0,o1]:Array Oper).size=[0,1]:=rfl
  rw[hrange]
  have e0:(#[o0,o1]:Array Oper)[0]?=some o0:=rfl
  have e1:(#[o0,o1]:Array Oper)[1]?=some o1:=rfl
  have w0':∀y,Region.wanted o0 y=true:=fun y=>by simp[Region.wanted,R.g0]
  have w1':∀y,Region.wanted o1 y=true:=fun y=>by simp[Region.wanted,R.g1]
  have hrec:recoverD (c₀::cs)=none:=by simp[recoverD,hu]
  have hx0:∀ρ,(execOp ρ o0).run P w=.ok .recover w:=fun ρ=>by
   simp only[execOp,R.p0,resolve,R.pc,Sem.run_bind,Sem.run_pure,Result.andThen_ok,invoke,builtin]
  have hx1:∀ρ:Operand->Value,ρ (.tmp 1)=.nilIface->ρ (.const .nilIface)=.nilIface->(execOp ρ o1).run P w=.ok (.value (.bool false)) w:=fun ρ h1 h2=>by
   obtain⟨ms,hu⟩:=R.eq
   have hg:=eqGuard_pass (P:=P) (w:=w) (op:=.neq) (t:=T) (x:=.tmp 1) (y:=.const .nilIface) (a:=.nilIface) (b:=.nilIface) (fun _ _=>rfl) (fun _ _ h=>by cases h)
   have hb:(binOp .neq T .nilIface .nilIface).run P w=.ok (.bool false) w:=by
    have e:binOp .neq T .nilIface .nilIface=(do pure (.bool (!(←Op.equal T .nilIface .nilIface)))):=rfl
    rw[e]
    have he:(Op.equal T .nilIface .nilIface).run P w=.ok true w:=by
     have hd:Op.maxDepth=(Op.maxDepth-1)+1:=by decide
     rw[Op.equal,hd]
     simp[Op.equalIn,run_underlying hu]
    simp only[Sem.run_bind,he,Result.andThen_ok,Sem.run_pure]
    rfl
   simp only[execOp,R.p1,h1,h2,Sem.run_bind,hg,Result.andThen_ok,hb,Sem.run_pure]
  simp only[wpOpsS,e0,e1,w0',w1',if_true,hx0,hrec,R.d0]
  have hput:(({tmps:=#[p,undef,undef],defers:=[]}:Act).put (some 1) .nilIface)={tmps:=#[p,.nilIface,undef],defers:=[]}:=rfl
  rw[hput]
  have:=hx1 ({tmps:=#[p,.nilIface,undef],defers:=[]}:Act).eval rfl rfl
  rw[this]
  simp only[Oper.upon,R.d1]
  have hput2:(({tmps:=#[p,.nilIface,undef],defers:=[]}:Act).put (some 2) (.bool false))={tmps:=#[p,.nilIface,.bool false],defers:=[]}:=rfl
  rw[hput2]
  refine wpS_cond (t:=false) rfl ?_
  refine wpS_of_wp (wp_skip ?_)
  refine⟨rfl,.returning,by cases c₀;cases hu;rfl,.tuple #[],?_,rfl,?_⟩
  ·simp[results,R.hr,Array.mapM_eq_mapM_toList]
  ·exact⟨_,H,ι,hs,.tup .nil,Inj.le_refl _,hi⟩
 ·exact hs.elim
end
end Go.Sx
namespace Go.Sx
open Go
variable [Syms]
theorem Inj.bare_bare (ι:Inj) (p:Nat):(ι.bare p).bare p=ι.bare p:=by
 unfold Inj.bare
 congr 1
 funext i
 show(if i<p then(if i<p then ι i else none) else none)=_
 by_cases h:i<p<;>simp[h]
theorem Inj.bare_step {ι ι':Inj} {p:Nat} (h:(ι.bare p).le ι'):(ι.bare p).le (ι'.bare p):=by
 have:=Inj.bare_mono h p
 rwa [Inj.bare_bare] at this
section
variable {P:Program} {w0 w:World} {F0:Fp} {ι:Inj} {H:AHeap}
def WPw (pn:Nat) (P:Program) (c:Code) (fr:Fr) (H:AHeap) (K:AExit->Fr->AHeap->Prop):Prop:=
 ∀(w0:World) (F0:Fp) (ι:Inj) (w:World) (a:Act),Inv w0 F0 ι H w->FRel ι fr a->DRel ι H.defs a.defers->c.wp P (PostE w0 F0 (ι.bare pn) K) a w
theorem PostE.step {pn:Nat} {ι':Inj} {K:AExit->Fr->AHeap->Prop} {e:Exit} {a:Act} (h:PostE w0 F0 (ι'.bare pn) K e a w) (hi:(ι.bare pn).le ι'):PostE w0 F0 (ι.bare pn) K e a w:=PostE.le h (Inj.bare_step hi)
abbrev LSpec:=Fr->AHeap->(AExit->Fr->AHeap->Prop)->Prop
def findL (p:List Nat):List (List Nat×LSpec)->Option LSpec
 |[]=>none
 |(q,s)::r=>cond (eqN p q) (some s) (findL p r)
def LTok (pn:Nat) (P:Program) (root:Code) (LT:List (List Nat×LSpec)):Prop:=∀x∈LT,∀fr H K,x.2 fr H K->WPw pn P (sub root x.1) fr H K
theorem findL_ok {pn:Nat} {P:Program} {root:Code} {LT:List (List Nat×LSpec)} (h:LTok pn P root LT) {p:List Nat} {s:LSpec} (hs:findL p LT=some s) {fr:Fr} {H:AHeap} {K:AExit->Fr->AHeap->Prop} (hk:s fr H K):WPw pn P (sub root p) fr H K:=by
 induction LT with
 |nil=>cases hs
 |cons x r ih=>
  obtain⟨q,s'⟩:=x
  simp only[findL] at hs
  cases hb:eqN p q with
  |true=>
   rw[hb,cond_true] at hs
   cases hs
   rw[eqN_eq hb]
   exact h _ (List.mem_cons_self ..) _ _ _ hk
  |false=>
   rw[hb,cond_false] at hs
   exact ih (fun y hy=>h y (List.mem_cons_of_mem _ hy)) hs
abbrev XFun:=Code->List Nat->Code->Fr->AHeap->(AExit->Fr->AHeap->Prop)->Prop
def exV (P:Program) (ft:FuncId->Option Func) (T:Tabs) (LT:List (List Nat×LSpec)) (L:Lvl) (X:XFun) (root:Code) (p:List Nat) (c:Code) (fr:Fr) (H:AHeap) (K:AExit->Fr->AHeap->Prop):Prop:=
    match c with
    | .skip=>K .normal fr H
    | .region _ ops false=>regA P (callX ft T.c (runF P L)) ops.toList ops.toList fr H (fun fr H=>K .normal fr H)
    | .region _ ops true=>regD P (callX ft T.c (runF P L)) ops fr H (fun fr H=>K .normal fr H)
    | .seq a b=>X root (0::p) a fr H (fun e fr H=>match e with
     | .normal=>X root (1::p) b fr H K
     |e=>K e fr H)
    | .cond c a b=>match eva fr c with
      | .lit (.bool t)=>br t (X root (0::p) a (knowA fr c true) H K) (X root (1::p) b (knowA fr c false) H K)
      |_=>False
    | .block id b=>X root (0::p) b fr H (fun e fr H=>match e with
     | .exit i=>cond (Nat.beq i id) (K .normal fr H) (K (.exit i) fr H)
     |e=>K e fr H)
    | .loop b=>match findL p LT with
      |some s=>s fr H K
      |none=>L.ex true root p (.loop b) fr H K
    | .exit i=>K (.exit i) fr H
    | .ret=>K .ret fr H
    | .label _=>K .normal fr H
    | .scope b=>X root (0::p) b fr H K
    |_=>False
def exW (P:Program) (ft:FuncId->Option Func) (T:Tabs) (LT:List (List Nat×LSpec)):Nat->XFun
 |0=>fun _ _ _ _ _ _=>False
 |n+1=>exV P ft T LT (lvl P ft T n) (exW P ft T LT n)
theorem exW_ok {ft:FuncId->Option Func} {T:Tabs} (hft:FtOk P ft) (htab:TabOk P T) {LT:List (List Nat×LSpec)} {root:Code} {pn:Nat} (hLT:LTok pn P root LT):∀(n:Nat) {p:List Nat} {c:Code} {fr:Fr} {H:AHeap} {K:AExit->Fr->AHeap->Prop},exW P ft T LT n root p c fr H K->c=sub root p->WPw pn P c fr H K:=by
 intro n
 induction n with
 |zero=>intro p c fr H K h;exact h.elim
 |succ n ih=>
  intro p c fr H K h hc
  have hL:=lvl_ok hft htab n
  have hcx:CxOk P (callX ft T.c (runF P (lvl P ft T n))):=by
   intro f args H K hx
   unfold callX at hx
   split at hx
   ·rename_i s hs
    exact htab.c f s hs _ _ _ hx
   ·split at hx
    ·rename_i fn hfn
     split at hx
     ·rename_i b hb
      obtain⟨h1,h2,_⟩:=callX_ok hft hL hfn hb hx
      exact anext_of_calls h1 h2
     ·exact hx.elim
    ·exact hx.elim
  have h':exV P ft T LT (lvl P ft T n) (exW P ft T LT n) root p c fr H K:=h
  unfold exV at h'
  split at h'
  ·intro w0 F0 ι w a hi hf hd
   exact wp_skip ⟨fr,H,ι,h',Inj.bare_le _ _,hf,hd,hi⟩
  ·rename_i id ops
   intro w0 F0 ι w a hi hf hd
   refine wp_region_list ?_
   have hops:ops=ops.toList.toArray:=by simp
   rw[hops]
   exact reg_ok (K:=fun fr H=>K .normal fr H) hcx _ h' hi hf hd (fun a' w' hp=>PostF.le hp (Inj.bare_le _ _))
  ·rename_i id ops
   intro w0 F0 ι w a hi hf hd
   exact regD_ok hcx (fun c a w hq=>hq) h' hi hf hd (fun a' w' hp=>PostF.le hp (Inj.bare_le _ _))
  ·rename_i x y
   have hx:x=sub root (0::p):=by simp only[sub,←hc,kid]
   have hy:y=sub root (1::p):=by simp only[sub,←hc,kid]
   intro w0 F0 ι w a hi hf hd
   refine wp_seq (Code.wp_mono (fun e a' w' hp=>?_) (ih h' hx w0 F0 ι w a hi hf hd))
   cases e with
   |normal=>
    obtain⟨fr',H',ι',hK,hle,hf',hd',hi'⟩:=hp
    exact Code.wp_mono (fun e a w hp=>hp.step hle) (ih hK hy w0 F0 ι' w' a' hi' hf' hd')
   |exit i=>exact hp
   |ret=>exact hp
   |goto l=>exact hp
   |panic ch=>exact hp
   |outgrown=>exact hp
  ·rename_i c0 x y
   split at h'
   ·rename_i t ht
    intro w0 F0 ι w a hi hf hd
    have hev:=hf.eval c0
    rw[ht] at hev
    generalize hv:a.eval c0=v at hev
    cases hev with
    |lit=>
    have know:∀b,b=t->FRel ι (knowA fr c0 b) a:=by
     intro b hb
     subst hb
     cases c0 with
     |tmp d=>exact hf.know hv
     |const _=>exact hf
     |global _=>exact hf
     |func _=>exact hf
    rcases br_out h' with⟨rfl,h'⟩|⟨rfl,h'⟩
    ·exact wp_cond_true hv (ih h' (by simp only[sub,←hc,kid]) w0 F0 ι w a hi (know true rfl) hd)
    ·exact wp_cond_false hv (ih h' (by simp only[sub,←hc,kid]) w0 F0 ι w a hi (know false rfl) hd)
   ·exact h'.elim
  ·rename_i id x
   intro w0 F0 ι w a hi hf hd
   refine wp_block (Code.wp_mono (fun e a' w' hp=>?_) (ih h' (by simp only[sub,←hc,kid]) w0 F0 ι w a hi hf hd))
   cases e with
   |normal=>exact hp
   |exit i=>
    obtain⟨fr',H',ι',hK,hle,hf',hd',hi'⟩:=hp
    simp only[Exit.inBlock]
    by_cases hid:i=id
    ·subst hid
     rw[if_pos rfl]
     simp only[beq_self,cond_true] at hK
     exact⟨fr',H',ι',hK,hle,hf',hd',hi'⟩
    ·rw[if_neg hid]
     simp only[beq_false hid,cond_false] at hK
     exact⟨fr',H',ι',hK,hle,hf',hd',hi'⟩
   |ret=>exact hp
   |goto l=>exact hp
   |panic ch=>exact hp
   |outgrown=>exact hp
  ·split at h'
   ·rename_i s hs
    rw[hc]
    exact findL_ok hLT hs h'
   ·intro w0 F0 ι w a hi hf hd
    exact Code.wp_mono (fun e a w hp=>PostE.le hp (Inj.bare_le _ _)) (hL.1 h' hc w0 F0 ι w a hi hf hd)
  ·intro w0 F0 ι w a hi hf hd
   exact wp_exit ⟨fr,H,ι,h',Inj.bare_le _ _,hf,hd,hi⟩
  ·intro w0 F0 ι w a hi hf hd
   exact wp_ret ⟨fr,H,ι,h',Inj.bare_le _ _,hf,hd,hi⟩
  ·intro w0 F0 ι w a hi hf hd
   exact wp_label ⟨fr,H,ι,h',Inj.bare_le _ _,hf,hd,hi⟩
  ·rename_i x
   intro w0 F0 ι w a hi hf hd
   refine wp_scope_straight (Code.wp_mono (fun e a' w' hp=>?_) (ih h' (by simp only[sub,←hc,kid]) w0 F0 ι w a hi hf hd))
   cases e<;>first|exact hp|exact hp.elim
  ·exact h'.elim
def Ent (pn:Nat) (fr:Fr) (H:AHeap) (fr2:Fr) (H2:AHeap):Prop:=
 ∀(w0:World) (F0:Fp) (ι:Inj) (w:World) (a:Act),Inv w0 F0 ι H w->FRel ι fr a->DRel ι H.defs a.defers->∃ι2,(ι.bare pn).le ι2/\Inv w0 F0 ι2 H2 w/\FRel ι2 fr2 a/\DRel ι2 H2.defs a.defers
theorem WPw.ent {pn:Nat} {c:Code} {fr fr2:Fr} {H H2:AHeap} {K:AExit->Fr->AHeap->Prop} (he:Ent pn fr H fr2 H2) (h:WPw pn P c fr2 H2 K):WPw pn P c fr H K:=by
 intro w0 F0 ι w a hi hf hd
 obtain⟨ι2,hle,hi2,hf2,hd2⟩:=he w0 F0 ι w a hi hf hd
 exact Code.wp_mono (fun e a w hp=>hp.step hle) (h w0 F0 ι2 w a hi2 hf2 hd2)
theorem WPw.mono {pn:Nat} {c:Code} {fr:Fr} {H:AHeap} {K K':AExit->Fr->AHeap->Prop} (h:WPw pn P c fr H K) (hk:∀e fr H,K e fr H->K' e fr H):WPw pn P c fr H K':=by
 intro w0 F0 ι w a hi hf hd
 refine Code.wp_mono (fun e a w hp=>?_) (h w0 F0 ι w a hi hf hd)
 cases e<;>first
  |(obtain⟨fr',H',ι',hK,hr⟩:=hp;exact⟨fr',H',ι',hk _ _ _ hK,hr⟩)
  |exact hp
theorem WPw.post {pn:Nat} {c:Code} {fr:Fr} {H:AHeap} {K K':AExit->Fr->AHeap->Prop} (h:WPw pn P c fr H K) (hk:∀e fr H,K e fr H->∃fr2 H2,Ent pn fr H fr2 H2/\K' e fr2 H2):WPw pn P c fr H K':=by
 intro w0 F0 ι w a hi hf hd
 refine Code.wp_mono (fun e a w hp=>?_) (h w0 F0 ι w a hi hf hd)
 cases e<;>first
  |(obtain⟨fr',H',ι',hK,hle,hf',hd',hi'⟩:=hp
    obtain⟨fr2,H2,hent,hK2⟩:=hk _ _ _ hK
    obtain⟨ι2,hle2,hi2,hf2,hd2⟩:=hent w0 F0 ι' w a hi' hf' hd'
    exact⟨fr2,H2,ι2,hK2,Inj.le_trans (Inj.bare_step hle) hle2,hf2,hd2,hi2⟩)
  |exact hp
theorem loopW {pn:Nat} {J:Type} (side:J->Prop) (μ:J->Nat) (frT:J->Fr) (HT:J->AHeap) {x:Code} {K:AExit->Fr->AHeap->Prop}
 (h:∀j,side j->WPw pn P x (frT j) (HT j) (fun e fr' H'=>match e with
  | .normal=>∃j',side j'/\μ j'<μ j/\Ent pn fr' H' (frT j') (HT j')
  |e=>K e fr' H')):∀j,side j->WPw pn P (.loop x) (frT j) (HT j) K:=by
 have key:∀(n:Nat) (j:J),side j->μ j<=n->∀(w0:World) (F0:Fp) (ι:Inj) (w:World) (a:Act),Inv w0 F0 ι (HT j) w->FRel ι (frT j) a->DRel ι (HT j).defs a.defers->∀(b:Frame) (k:List Item) (cs:List Frame),
  ∃e a' w',PostE w0 F0 (ι.bare pn) K e a' w'/\Arrives P (lone (b.at a (.code x:: .inLoop x::k)) cs w) b k cs e a' w':=by
  intro n
  induction n with
  |zero=>
   intro j hj hn w0 F0 ι w a hi hf hd b k cs
   obtain⟨e,a',w',hq,harr⟩:=h j hj w0 F0 ι w a hi hf hd b (.inLoop x::k) cs
   cases e with
   |normal=>
    obtain⟨fr',H',ι',⟨j',_,hlt,_⟩,_⟩:=hq
    omega
   |exit i=>exact⟨.exit i,a',w',hq,.pass (x:=.inLoop x) rfl (fun _ _=>.inl (by simp)) harr⟩
   |ret=>exact⟨.ret,a',w',hq,.pass (x:=.inLoop x) rfl (fun _ _=>.inl (by simp)) harr⟩
   |goto l=>exact hq.elim
   |panic ch=>exact hq.elim
   |outgrown=>exact hq.elim
  |succ n ih=>
   intro j hj hn w0 F0 ι w a hi hf hd b k cs
   obtain⟨e,a',w',hq,harr⟩:=h j hj w0 F0 ι w a hi hf hd b (.inLoop x::k) cs
   cases e with
   |normal=>
    obtain⟨fr',H',ι',⟨j',hj',hlt,hent⟩,hle,hf',hd',hi'⟩:=hq
    obtain⟨ι2,hle2,hi2,hf2,hd2⟩:=hent w0 F0 ι' w' a' hi' hf' hd'
    obtain⟨e2,a2,w2,hq2,harr2⟩:=ih j' hj' (by omega) w0 F0 ι2 w' a' hi2 hf2 hd2 b k cs
    exact⟨e2,a2,w2,hq2.step (Inj.le_trans (Inj.bare_step hle) hle2),.of_steps (Steps.trans harr (.one step_inLoop)) harr2⟩
   |exit i=>exact⟨.exit i,a',w',hq,.pass (x:=.inLoop x) rfl (fun _ _=>.inl (by simp)) harr⟩
   |ret=>exact⟨.ret,a',w',hq,.pass (x:=.inLoop x) rfl (fun _ _=>.inl (by simp)) harr⟩
   |goto l=>exact hq.elim
   |panic ch=>exact hq.elim
   |outgrown=>exact hq.elim
 intro j hj w0 F0 ι w a hi hf hd b k cs
 obtain⟨e,a',w',hq,harr⟩:=key (μ j) j hj (Nat.le_refl _) w0 F0 ι w a hi hf hd b k cs
 exact⟨e,a',w',hq,.of_steps (.one step_loop) harr⟩
theorem callsW {pn:Nat} {dx:CallX} (hdx:DxOk P dx) {f:FuncId} {fn:Func} {b:Code} {args:List AVal} {K:AVal->AHeap->Prop} (hf:P.funcs[f]?=some fn) (hb:fn.body=some b) (hH:H.defs=[])
 (h:WPw pn P b (mkFr fn.ntmps args) H (finA P dx fn K)):∀(w0:World) (F0:Fp) (ι:Inj) (w:World) (vs:List Value),Inv w0 F0 ι H w->DenL ι args vs->Calls P f vs.toArray w (PostV w0 F0 (ι.bare pn) K):=by
 intro w0 F0 ι w vs hi hd
 exact calls_of_wp_defers hf hb (Code.wp_mono (fun e a w hp=>fin_ok hdx hp) (h w0 F0 ι w _ hi (enter_rel hd) (by rw[hH];exact .nil)))
end
end Go.Sx
