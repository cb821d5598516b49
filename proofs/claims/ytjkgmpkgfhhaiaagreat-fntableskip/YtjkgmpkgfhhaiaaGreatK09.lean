/- Lemmas of this claim; the last text says what is proved. -/
import Derived.Test.YtjkgmpkgfhhaiaaGreatK08
import Derived.Laws.Small
import Derived.OrdersHeld
set_option linter.all false
namespace Go.Sx
open Go
variable [Syms]
structure Fr where
 n:Nat
 t:Tr AVal
def fget (fr:Fr) (t:Nat):AVal:=(fr.t.get t).getD .top
def fset (fr:Fr) (d:Nat) (v:AVal):Fr:=cond (Nat.blt d fr.n) ⟨fr.n,fr.t.set d (some v)⟩ fr
def eva (fr:Fr):Operand->AVal
 | .tmp t=>fget fr t
 | .const v=>ofValue 3 v
 | .global g=>.lit (.pointer (some ⟨g,0,none⟩))
 | .func f=>.fn (.func f) [] []
abbrev CallX:=FuncId->List AVal->AHeap->(AVal->AHeap->Prop)->Prop
def callA (P:Program) (cx:CallX) (c:Call) (ρ:Operand->AVal) (H:AHeap) (K:AVal->AHeap->Prop):Prop:=
 match c.callee with
 | .builtin b=>match b,c.args.toList with
   | .len,[x]=>match c.argTypes.toList with
     |t::_=>lenA P t (ρ x) H (fun v=>K v H)
     |_=>False
   | .cap,[x]=>match c.argTypes.toList with
     |t::_=>capA P t (ρ x) (fun v=>K v H)
     |_=>False
   | .append,[s,x]=>appendA P c.argTypes (ρ s) (ρ x) H K
   | .copy,[s,x]=>copyA P c.argTypes (ρ s) (ρ x) H K
   | .clear,[x]=>clearA P c.argTypes (ρ x) H K
   | .min,[x,y]=>match ρ x,ρ y with
     | .lit (.int k a),.lit (.int _ b)=>K (.lit (.int k (cond (decide (b<a)) b a))) H
     |_,_=>False
   | .max,[x,y]=>match ρ x,ρ y with
     | .lit (.int k a),.lit (.int _ b)=>K (.lit (.int k (cond (decide (a<b)) b a))) H
     |_,_=>False
   |_,_=>False
 | .value f=>match ρ f with
   | .fn (.func g) a b=>cx g (a++c.args.toList.map ρ++b) H K
   | .fn (.method name) [] _=>match c.args.toList with
     |r::rest=>methA P 4 (ρ r) name H (fun g recv=>cx g (recv::rest.map ρ) H K)
     |[]=>False
   | .fn (.method name) (r::a) _=>methA P 4 r name H (fun g recv=>cx g (recv::(a++c.args.toList.map ρ)) H K)
   |_=>False
 | .invoke r name=>methA P 4 (ρ r) name H (fun g recv=>cx g (recv::c.args.toList.map ρ) H K)
def opA (P:Program) (cx:CallX) (o:Op) (ρ:Operand->AVal) (H:AHeap) (K:AVal->AHeap->Prop):Prop:=
 match o with
 | .move x=>K (ρ x) H
 | .assign x=>K (ρ x) H
 | .pick c a b=>match ρ c with
   | .lit (.bool t)=>br t (K (ρ a) H) (K (ρ b) H)
   |_=>False
 | .alloc e=>allocA P e H K
 | .box e v=>boxA e (ρ v) H K
 | .build t ps=>buildA P t (ps.toList.map fun x=>(x.1,ρ x.2)) (fun v=>K v H)
 | .buildSlice t n ps=>buildSliceA P t n (ps.toList.map fun x=>(x.1,ρ x.2)) H K
 | .load t a=>loadA P t (ρ a) H K
 | .store t a x=>storeA P t (ρ a) (ρ x) H (fun H'=>K undefA H')
 | .nilCheck x=>nilA P (ρ x) (fun v=>K v H)
 | .binOp op t x y _=>binA P op t (isC x||isC y) (ρ x) (ρ y) H (fun v=>K v H)
 | .unOp op _ x=>unA op (ρ x) (fun v=>K v H)
 | .convert s d x=>convA P s d (ρ x) H K
 | .makeInterface t x=>ifaceA P t (ρ x) (fun v=>K v H)
 | .makeFunc f a b=>K (.fn f (a.toList.map ρ) (b.toList.map ρ)) H
 | .makeMap _ none=>mapNewA H K
 | .makeSlice t l c=>makeA P t (ρ l) (ρ c) H K
 | .slice t x l h m=>sliceA P t (ρ x) (l.map ρ) (h.map ρ) (m.map ρ) (fun v=>K v H)
 | .fieldAddr s x f=>fieldAddrA P s (ρ x) f (fun v=>K v H)
 | .field t x f=>fieldA P t (ρ x) f (fun v=>K v H)
 | .indexAddr t x i=>indexAddrA P t (ρ x) (ρ i) (fun v=>K v H)
 | .index t x i=>indexA P t (ρ x) (ρ i) (fun v=>K v H)
 | .lookup t m k ok=>lookupA P t (ρ m) (ρ k) ok H (fun v=>K v H)
 | .mapUpdate t m k v=>updateA P t (ρ m) (ρ k) (ρ v) H (fun H'=>K undefA H')
 | .insert t m k v=>updateA P t (ρ m) (ρ k) (ρ v) H (fun H'=>K undefA H')
 | .range t x=>rangeA P t (ρ x) H K
 | .next x s=>nextA (ρ x) s H K
 | .typeAssert x _ t ok=>assertA P (ρ x) t ok (fun v=>K v H)
 | .extract x i=>extractA (ρ x) i (fun v=>K v H)
 | .call c=>callA P cx c ρ H K
 |_=>False
section
variable {P:Program} {w0 w:World} {F0:Fp} {ι:Inj} {H:AHeap}
def FunOk (P:Program) (f:FuncId):Prop:=∃fn,P.funcs[f]?=some fn/\fn.body.isSome=true/\(fn.name== "runtime.NumGoroutine")=false
theorem run_callFunc {f:FuncId} {args:Array Value} (h:FunOk P f):(callFunc f args).run P w=.ok (.enter f args) w:=by
 obtain⟨fn,hf,hb,hn⟩:=h
 have hb':fn.body.isNone=false:=by cases hfb:fn.body<;>simp_all
 simp only[callFunc,Sem.run_bind,run_program,Result.andThen_ok,hf]
 rw[if_neg (by rw[hn];simp),if_neg (by rw[hb'];simp)]
 rfl
theorem ext1 (x:Value) (l:List Value):((x::l).toArray).extract 1 ((x::l).toArray).size=l.toArray:=by
 rw[←Array.toList_inj]
 simp
theorem head1 (x:Value) (l:List Value):((x::l).toArray)[0]?=some x:=by simp
def PostV (w0:World) (F0:Fp) (ι:Inj) (K:AVal->AHeap->Prop):Ending->World->Prop
 | .returned v,w'=>∃a H' ι',K a H'/\Den ι' a v/\ι.le ι'/\Inv w0 F0 ι' H' w'
 |_,_=>False
def ACalls (P:Program) (f:FuncId) (args:List AVal) (H:AHeap) (K:AVal->AHeap->Prop):Prop:=
 ∀(w0:World) (F0:Fp) (ι:Inj) (w:World) (vs:List Value),Inv w0 F0 ι H w->DenL ι args vs->Calls P f vs.toArray w (PostV w0 F0 ι K)
def NextOk (P:Program) (w0:World) (F0:Fp) (ι:Inj) (K:AVal->AHeap->Prop):Result Next->Prop
 | .ok (.value v) w'=>∃a H' ι',K a H'/\Den ι' a v/\ι.le ι'/\Inv w0 F0 ι' H' w'
 | .ok .skip w'=>∃a H' ι',K a H'/\Den ι' a undef/\ι.le ι'/\Inv w0 F0 ι' H' w'
 | .ok (.enter f args) w'=>Calls P f args w' (PostV w0 F0 ι K)
 |_=>False
def ANext (P:Program) (f:FuncId) (args:List AVal) (H:AHeap) (K:AVal->AHeap->Prop):Prop:=
 ∀(w0:World) (F0:Fp) (ι:Inj) (w:World) (vs:List Value),Inv w0 F0 ι H w->DenL ι args vs->NextOk P w0 F0 ι K ((callFunc f vs.toArray).run P w)
theorem anext_of_calls {f:FuncId} {args:List AVal} {K:AVal->AHeap->Prop} (hf:FunOk P f) (h:ACalls P f args H K):ANext P f args H K:=fun w0 F0 ι w vs hi hd=>by
 rw[run_callFunc hf]
 exact h w0 F0 ι w vs hi hd
def CxOk (P:Program) (cx:CallX):Prop:=∀f args H K,cx f args H K->ANext P f args H K
theorem next_of_ok {K:AVal->AHeap->Prop} {s:Sem Value} (h:Ok w0 F0 ι K (s.run P w)):NextOk P w0 F0 ι K ((do pure (.value (←s)):Sem Next).run P w):=by
 simp only[Sem.run_bind]
 cases hr:s.run P w with
 |ok v w'=>rw[hr] at h;exact h
 |halt x w'=>rw[hr] at h;exact h.elim
theorem next_of_okU {K:AVal->AHeap->Prop} {s:Sem Unit} (h:OkU w0 F0 ι (fun H'=>K undefA H') (s.run P w)):NextOk P w0 F0 ι K ((do s;pure .skip:Sem Next).run P w):=by
 simp only[Sem.run_bind]
 cases hr:s.run P w with
 |ok v w'=>
  rw[hr] at h
  obtain⟨H',ι',hK,hle,hinv⟩:=h
  exact⟨undefA,H',ι',hK,.tup .nil,hle,hinv⟩
 |halt x w'=>rw[hr] at h;exact h.elim
theorem parts_den {ρ:Operand->AVal} {σ:Operand->Value} (hd:∀x,Den ι (ρ x) (σ x)):∀(l:List (Nat×Operand)),PartsDen ι (l.map fun x=>(x.1,ρ x.2)) (l.map fun x=>(x.1,σ x.2))
 |[]=>.nil
 |_::l=>.cons (hd _) (parts_den hd l)
theorem map_den {ρ:Operand->AVal} {σ:Operand->Value} (hd:∀x,Den ι (ρ x) (σ x)):∀(l:List Operand),DenL ι (l.map ρ) (l.map σ)
 |[]=>.nil
 |_::l=>.cons (hd _) (map_den hd l)
theorem opt_den {ρ:Operand->AVal} {σ:Operand->Value} (hd:∀x,Den ι (ρ x) (σ x)):∀(o:Option Operand),ODen ι (o.map ρ) (o.map σ)
 |none=>.none
 |some _=>.some (hd _)
theorem call_next {K:AVal->AHeap->Prop} {cx:CallX} (hcx:CxOk P cx) {f:FuncId} {args:List AVal} {vs:List Value} (h:cx f args H K) (hi:Inv w0 F0 ι H w) (hd:DenL ι args vs) {as:Array Value} (has:as=vs.toArray):NextOk P w0 F0 ι K ((callFunc f as).run P w):=by
 rw[has]
 exact hcx f args H K h w0 F0 ι w vs hi hd
theorem callMethod_next {K:AVal->AHeap->Prop} {cx:CallX} (hcx:CxOk P cx) {r:AVal} {rv:Value} {name:String} {args:List AVal} {vs:List Value} (h:methA P 4 r name H (fun g recv=>cx g (recv::args) H K)) (hi:Inv w0 F0 ι H w) (hr:Den ι r rv) (hd:DenL ι args vs):
 NextOk P w0 F0 ι K ((callMethod rv name vs.toArray).run P w):=by
 have hrv:∃t v,rv=.iface t v:=by
  cases r<;>try exact h.elim
  cases hr
  exact⟨_,_,rfl⟩
 obtain⟨t,v,rfl⟩:=hrv
 obtain⟨f,a,x,hrun,hden,hK⟩:=meth_ok (P:=P) 4 (P.types.size+96) h hi hr
 have hdep:P.types.size+Made.depth=P.types.size+96+4:=rfl
 simp only[callMethod,Sem.run_bind,run_program,Result.andThen_ok,hdep,hrun]
 exact call_next hcx hK hi (.cons hden hd) (by simp)
theorem len1 {α:Type} {a:Array α} {x:α} (h:a.toList=[x]):a=#[x]:=by rw[←Array.toList_inj];exact h
theorem len2 {α:Type} {a:Array α} {x y:α} (h:a.toList=[x,y]):a=#[x,y]:=by rw[←Array.toList_inj];exact h
theorem call_ok {cx:CallX} (hcx:CxOk P cx) {c:Call} {t:TypeId} {ρ:Operand->AVal} {σ:Operand->Value} {K:AVal->AHeap->Prop} (h:callA P cx c ρ H K) (hi:Inv w0 F0 ι H w) (hd:∀x,Den ι (ρ x) (σ x)):
 NextOk P w0 F0 ι K ((do let d←resolve σ c t;invoke d.target d.args:Sem Next).run P w):=by
 unfold callA at h
 split at h
 ·rename_i b hc
  simp only[resolve,hc,Sem.run_bind,Sem.run_pure,Result.andThen_ok,invoke]
  split at h
  ·rename_i x hx
   have hx:=len1 hx
   split at h
   ·rename_i t0 r ht
    have e0:c.argTypes[0]?=some t0:=by
     have:c.argTypes.toList[0]?=some t0:=by rw[ht];rfl
     simpa using this
    simp only[hx,List.map_toArray,List.map_cons,List.map_nil,builtin]
    exact next_of_ok (len_ok h hi (hd x) e0)
   ·exact h.elim
  ·rename_i x hx
   have hx:=len1 hx
   split at h
   ·rename_i t0 r ht
    have e0:c.argTypes[0]?=some t0:=by
     have:c.argTypes.toList[0]?=some t0:=by rw[ht];rfl
     simpa using this
    simp only[hx,List.map_toArray,List.map_cons,List.map_nil,builtin]
    exact next_of_ok (cap_ok h hi (hd x) e0)
   ·exact h.elim
  ·rename_i s x hx
   have hx:=len2 hx
   simp only[hx,List.map_toArray,List.map_cons,List.map_nil,builtin]
   exact next_of_ok (append_ok h hi (hd s) (hd x))
  ·rename_i s x hx
   have hx:=len2 hx
   simp only[hx,List.map_toArray,List.map_cons,List.map_nil,builtin]
   exact next_of_ok (copy_ok h hi (hd s) (hd x))
  ·rename_i x hx
   have hx:=len1 hx
   simp only[hx,List.map_toArray,List.map_cons,List.map_nil,builtin]
   exact next_of_ok (clear_ok h hi (hd x))
  ·rename_i x y hx
   have hx:=len2 hx
   split at h
   ·rename_i k a k' b e1 e2
    have h1:=hd x
    have h2:=hd y
    rw[e1] at h1
    rw[e2] at h2
    simp only[hx,List.map_toArray,List.map_cons,List.map_nil,builtin]
    generalize σ x=vx at h1⊢
    generalize σ y=vy at h2⊢
    cases h1;cases h2
    refine next_of_ok ?_
    rw[run_min_int2]
    refine⟨_,_,ι,h,?_,Inj.le_refl _,hi⟩
    by_cases hc:b<a<;>simp[hc]<;>exact .lit
   ·exact h.elim
  ·rename_i x y hx
   have hx:=len2 hx
   split at h
   ·rename_i k a k' b e1 e2
    have h1:=hd x
    have h2:=hd y
    rw[e1] at h1
    rw[e2] at h2
    simp only[hx,List.map_toArray,List.map_cons,List.map_nil,builtin]
    generalize σ x=vx at h1⊢
    generalize σ y=vy at h2⊢
    cases h1;cases h2
    refine next_of_ok ?_
    rw[run_max_int2]
    refine⟨_,_,ι,h,?_,Inj.le_refl _,hi⟩
    by_cases hc:a<b<;>simp[hc]<;>exact .lit
   ·exact h.elim
  ·exact h.elim
 ·rename_i f hc
  simp only[resolve,hc,Sem.run_bind]
  have hf:=hd f
  split at h
  ·rename_i g a b hr
   rw[hr] at hf
   generalize hsf:σ f=fv at hf
   cases hf with
   |fn ha hb=>
   simp only[Deferred.ofValue,Sem.run_pure,Result.andThen_ok,invoke]
   exact call_next hcx h hi ((ha.append (map_den hd _)).append hb) (by simp[←Array.toList_inj])
  ·rename_i name b hr
   rw[hr] at hf
   generalize hsf:σ f=fv at hf
   cases hf with
   |fn ha hb=>
   cases ha
   split at h
   ·rename_i r rest hargs
    simp only[Deferred.ofValue,Sem.run_pure,Result.andThen_ok]
    have hargs':([]:List Value).toArray++c.args.map σ=(σ r::rest.map σ).toArray:=by rw[←Array.toList_inj];simp[hargs]
    simp only[invoke,hargs',head1,ext1]
    exact callMethod_next hcx h hi (hd r) (map_den hd rest)
   ·exact h.elim
  ·rename_i name r as b hr
   rw[hr] at hf
   generalize hsf:σ f=fv at hf
   cases hf with
   |fn ha hb=>
   cases ha with
   |@cons _ y _ ys h1 h2=>
   simp only[Deferred.ofValue,Sem.run_pure,Result.andThen_ok]
   have hargs':(y::ys).toArray++c.args.map σ=(y::(ys++c.args.toList.map σ)).toArray:=by rw[←Array.toList_inj];simp
   simp only[invoke,hargs',head1,ext1]
   exact callMethod_next hcx h hi h1 (h2.append (map_den hd _))
  ·exact h.elim
 ·rename_i r name hc
  simp only[resolve,hc,Sem.run_bind,Sem.run_pure,Result.andThen_ok]
  have hargs':#[σ r]++c.args.map σ=(σ r::c.args.toList.map σ).toArray:=by rw[←Array.toList_inj];simp
  simp only[invoke,hargs',head1,ext1]
  exact callMethod_next hcx h hi (hd r) (map_den hd _)
theorem op_ok {cx:CallX} (hcx:CxOk P cx) {o:Oper} {ρ:Operand->AVal} {σ:Operand->Value} {K:AVal->AHeap->Prop} (h:opA P cx o.op ρ H K) (hi:Inv w0 F0 ι H w) (hd:∀x,Den ι (ρ x) (σ x)):
 NextOk P w0 F0 ι K ((execOp σ o).run P w):=by
 have one:∀{a:AVal} {v:Value},K a H->Den ι a v->NextOk P w0 F0 ι K (.ok (.value v) w):=fun hK hv=>⟨_,_,ι,hK,hv,Inj.le_refl _,hi⟩
 obtain⟨dst,op,type,pos,after,guard⟩:=o
 cases op<;>simp only[opA] at h<;>simp only[execOp]
 case move x=>exact one h (hd x)
 case assign x=>exact one h (hd x)
 case pick c a b=>
  split at h
  ·rename_i t hc
   have hcd:=hd c
   rw[hc] at hcd
   generalize hsc:σ c=cv at hcd⊢
   cases hcd with
   |lit=>
   simp only[Sem.run_bind,asBool,Sem.run_pure,Result.andThen_ok]
   rcases br_out h with⟨rfl,hK⟩|⟨rfl,hK⟩
   ·exact one hK (hd a)
   ·exact one hK (hd b)
  ·exact h.elim
 case alloc e=>exact next_of_ok (allocA_ok h hi)
 case box e v=>exact next_of_ok (boxA_ok h hi (hd v))
 case build t ps=>exact next_of_ok (buildA_ok h hi (by simpa using parts_den hd ps.toList))
 case buildSlice t n ps=>exact next_of_ok (buildSlice_ok h hi (by simpa using parts_den hd ps.toList))
 case load t a=>exact next_of_ok (loadA_ok h hi (hd a))
 case store t a x=>exact next_of_okU (storeA_ok h hi (hd a) (hd x))
 case nilCheck x=>
  obtain⟨y,hrun,hy,hK⟩:=nil_ok h hi (hd x)
  have:=one hK hy
  rw[←hrun] at this
  exact this
 case binOp op t x y yt=>exact next_of_ok (bin_ok h hi (hd x) (hd y))
 case unOp op t x=>exact next_of_ok (un_ok h hi (hd x))
 case convert s d x=>exact next_of_ok (conv_ok h hi (hd x))
 case makeInterface t x=>exact next_of_ok (iface_ok h hi (hd x))
 case makeFunc f a b=>
  refine next_of_ok ⟨_,_,ι,h,?_,Inj.le_refl _,hi⟩
  have e1:a.map σ=(a.toList.map σ).toArray:=by rw[←Array.toList_inj];simp
  have e2:b.map σ=(b.toList.map σ).toArray:=by rw[←Array.toList_inj];simp
  rw[e1,e2]
  exact .fn (map_den hd _) (map_den hd _)
 case makeMap t r=>
  cases r with
  |none=>exact next_of_ok (mapNew_ok h hi)
  |some r=>exact h.elim
 case makeSlice t l c=>exact next_of_ok (make_ok h hi (hd l) (hd c))
 case slice t x l hh m=>exact next_of_ok (sliceA_ok h hi (hd x) (opt_den hd l) (opt_den hd hh) (opt_den hd m))
 case fieldAddr s x f=>exact next_of_ok (fieldAddrA_ok h hi (hd x))
 case field t x f=>exact next_of_ok (fieldA_ok h hi (hd x))
 case indexAddr t x i=>exact next_of_ok (indexAddrA_ok h hi (hd x) (hd i))
 case index t x i=>exact next_of_ok (indexA_ok h hi (hd x) (hd i))
 case lookup t m k ok=>exact next_of_ok (lookup_ok h hi (hd m) (hd k))
 case mapUpdate t m k v=>exact next_of_okU (update_ok h hi (hd m) (hd k) (hd v))
 case insert t m k v=>exact next_of_okU (update_ok h hi (hd m) (hd k) (hd v))
 case range t x=>exact next_of_ok (range_ok h hi (hd x))
 case next x s=>exact next_of_ok (next_ok h hi (hd x))
 case typeAssert x s t ok=>exact next_of_ok (assert_ok h hi (hd x))
 case extract x i=>exact next_of_ok (extract_ok h hi (hd x))
 case call c=>exact call_ok hcx h hi hd
end
end Go.Sx
namespace Go.Sx
open Go
variable [Syms]
def afterOf (ops:Array Oper) (j:Nat):List Nat:=match ops[j]? with
 |some o=>(o.after.toList.filter (Region.binds .any)).map (·.on)
 |none=>[]
abbrev Held:=List (Nat×(World->Prop))
def Held.past (L:Held) (ops:Array Oper) (j:Nat):Held:=L.filter fun x=> !(afterOf ops j).contains x.1
section
variable {P:Program} {ops:Array Oper} {Q:Exit->Act->World->Prop}
def wpW (P:Program) (ops:Array Oper) (Q:Exit->Act->World->Prop):Nat->Array Bool->Held->Act->World->Prop
 |0,listed,_,a,w=>Region.ready .any ops listed=[]/\Q .normal a w
 |fuel+1,listed,L,a,w=>
  (Region.ready .any ops listed=[]->Q .normal a w)/\
  ∀j∈Region.ready .any ops listed,wpOp P ops Q j (fun a' w'=>(∀x∈L.past ops j,x.2 w')/\wpW P ops Q fuel (listed.setIfInBounds j true) (L.past ops j) a' w') a w
theorem wpAny_of_W:∀(fuel:Nat) (listed:Array Bool) (L:Held) (a:Act) (w:World),wpW P ops Q fuel listed L a w->wpAny P .any ops Q fuel listed a w
 |0,_,_,_,_,h=>h
 |fuel+1,_,_,_,_,h=>⟨h.1,fun i hi=>wpOp_mono (fun a' w' h'=>wpAny_of_W fuel _ _ a' w' h'.2) (h.2 i hi)⟩
theorem wpW_first {S:World->Prop} {i:Nat} {oi:Oper} {v:Value} (hi:ops[i]?=some oi) (hsel:∀(j:Nat) (o:Oper) cs b,ops[j]?=some o->o.op≠ .select cs b)
 (hQ:∀c a w,Q (.panic c) (a.put oi.dst v) w->Q (.panic c) a w):
 ∀(fuel:Nat) (listed:Array Bool) (L:Held) (a:Act) (w:World),
  (∀j oj,ops[j]?=some oj->j≠i->listed.getD j true=false->(∀e∈oj.after,Region.binds .any e=true->e.on≠i)->oi.apart ops oj=true)->
  i∈Region.ready .any ops listed->YieldsIf P ops S oi v a->S w->(∀x∈L,x.2 w)->
  wpW P ops Q fuel (listed.setIfInBounds i true) ((i,S)::L) (a.put oi.dst v) w->wpW P ops Q (fuel+1) listed L a w:=by
 have sub:∀(L:Held) (w:World) (j:Nat),(∀x∈L,x.2 w)->∀x∈L.past ops j,x.2 w:=fun L w j h x hx=>h x ((List.mem_filter.1 hx).1)
 have weak:∀(fuel:Nat) (listed:Array Bool) (L L':Held) (a:Act) (w:World),(∀x∈L',x∈L)->wpW P ops Q fuel listed L a w->wpW P ops Q fuel listed L' a w:=by
  intro fuel
  induction fuel with
  |zero=>intro listed L L' a w _ h;exact h
  |succ fuel ih=>
   intro listed L L' a w hs h
   have hs':∀j,∀x∈Held.past L' ops j,x∈Held.past L ops j:=fun j x hx=>by
    simp only[Held.past,List.mem_filter] at hx⊢
    exact⟨hs x hx.1,hx.2⟩
   exact⟨h.1,fun j hj=>wpOp_mono (fun a' w' h'=>⟨fun x hx=>h'.1 x (hs' j x hx),ih _ _ _ a' w' (hs' j) h'.2⟩) (h.2 j hj)⟩
 intro fuel
 induction fuel with
 |zero=>
  intro listed L a w hfree hr hy hS hL H
  refine⟨fun h=>(by rw[h] at hr;cases hr),fun j hj=>?_⟩
  by_cases hji:j=i
  ·subst hji;exact hy.wpOp hi hS ⟨sub L w j hL,H⟩
  ·have:=ready_mono hj hji
   rw[H.1] at this
   cases this
 |succ fuel ih=>
  intro listed L a w hfree hr hy hS hL H
  refine⟨fun h=>(by rw[h] at hr;cases hr),fun j hj=>?_⟩
  by_cases hji:j=i
  ·subst hji
   refine hy.wpOp hi hS ⟨sub L w j hL,weak _ _ _ _ _ _ (fun x hx=>?_) H⟩
   exact List.mem_cons_of_mem _ ((List.mem_filter.1 hx).1)
  ·have h1:=H.2 j (ready_mono hj hji)
   obtain⟨hjun,oj,hoj,hall⟩:=mem_ready.1 hj
   have hnot:∀e∈oj.after,Region.binds .any e=true->e.on≠i:=fun e he hb heq=>by
    have h1:=hall e he hb
    have h0:=(mem_ready.1 hr).1
    rw[heq] at h1
    rcases Nat.lt_or_ge i listed.size with h'|h'
    ·simp[h'] at h0 h1;rw[h0] at h1;cases h1
    ·simp[Array.getElem?_eq_none h'] at h1
   have hpast:Held.past ((i,S)::L) ops j=(i,S)::L.past ops j:=by
    have hc:(afterOf ops j).contains i=false:=by
     rw[←Bool.not_eq_true]
     intro hc
     simp only[List.contains_iff_mem] at hc
     simp only[afterOf,hoj,List.mem_map,List.mem_filter] at hc
     obtain⟨e,⟨he,hb⟩,heq⟩:=hc
     exact hnot e (by simpa using he) hb heq
    simp only[Held.past,List.filter_cons,hc,Bool.not_false,if_true]
   have h2:=wpOp_putIf hoj (hfree j oj hoj hji hjun hnot) (fun cs b=>hsel i oi cs b hi) (fun cs b=>hsel j oj cs b hoj) hQ hy h1
   have hfree':∀k ok,ops[k]?=some ok->k≠i->(listed.setIfInBounds j true).getD k true=false->
    (∀e∈ok.after,Region.binds .any e=true->e.on≠i)->oi.apart ops ok=true:=fun k ok hk hki hun hno=>by
    refine hfree k ok hk hki ?_ hno
    by_cases hjk:j=k
    ·subst hjk;exact hjun
    ·rw[getD_set_ne true hjk] at hun;exact hun
   refine wpOp_mono (fun a' w' h3=>?_) h2
   obtain⟨hy',hcond,hW⟩:=h3
   rw[hpast] at hcond hW
   refine⟨fun x hx=>hcond x (List.mem_cons_of_mem _ hx),?_⟩
   refine ih (listed.setIfInBounds j true) _ a' w' hfree' (ready_mono hr (Ne.symm hji)) hy' (hcond _ (List.mem_cons_self ..)) (fun x hx=>hcond x (List.mem_cons_of_mem _ hx)) ?_
   rw[Array.setIfInBounds_comm _ _ hji]
   exact hW
theorem wp_region_W {id:Nat} {a:Act} {w:World} (hm:P.follows .mixedOrders=true)
 (h:wpW P ops Q ops.size (Array.replicate ops.size false) [] a {w with drawn:=w.drawn+1}):(Code.region id ops true).wp P Q a w:=
 wp_region_any hm (wpAny_of_W _ _ _ _ _ h)
end
def delAll:List Nat->AHeap->AHeap
 |[],H=>H
 |i::l,H=>delAll l (H.del i)
def layAll (H:AHeap):List Nat->Tr ABlk->Tr ABlk
 |[],T=>T
 |i::l,T=>layAll H l (T.set i (H.get i))
def joinH (H:AHeap) (ids:List Nat) (H':AHeap):AHeap:=⟨layAll H ids H'.blks,H'.next,H.defs,H.ros,H'.st⟩
theorem delAll_get:∀(ids:List Nat) (H:AHeap) (j:Nat),(delAll ids H).get j=if j∈ids then none else H.get j
 |[],H,j=>by simp[delAll]
 |i::l,H,j=>by
  rw[delAll,delAll_get l,AHeap.get_del]
  by_cases h1:j∈l
  ·simp[h1]
  ·by_cases h2:j=i
   ·simp[h2]
   ·simp[h1,h2]
theorem delAll_next:∀(ids:List Nat) (H:AHeap),(delAll ids H).next=H.next
 |[],_=>rfl
 |i::l,H=>by rw[delAll,delAll_next l];rfl
theorem delAll_ros:∀(ids:List Nat) (H:AHeap),(delAll ids H).ros=H.ros
 |[],_=>rfl
 |i::l,H=>by rw[delAll,delAll_ros l];rfl
theorem delAll_st:∀(ids:List Nat) (H:AHeap),(delAll ids H).st=H.st
 |[],_=>rfl
 |i::l,H=>by rw[delAll,delAll_st l];rfl
theorem delAll_isRo (ids:List Nat) (H:AHeap) (i:Nat):(delAll ids H).isRo i=H.isRo i:=by unfold AHeap.isRo;rw[delAll_ros]
theorem layAll_get (H:AHeap):∀(ids:List Nat) (T:Tr ABlk) (j:Nat),(layAll H ids T).get j=if j∈ids then H.get j else T.get j
 |[],T,j=>by simp[layAll]
 |i::l,T,j=>by
  rw[layAll,layAll_get H l,Tr.get_set]
  by_cases h1:j∈l
  ·simp[h1]
  ·by_cases h2:j=i
   ·subst h2;simp[h1]
   ·simp[h1,h2]
theorem joinH_get (H:AHeap) (ids:List Nat) (H':AHeap) (j:Nat):(joinH H ids H').get j=if j∈ids then H.get j else H'.get j:=layAll_get H ids H'.blks j
section
variable {P:Program} {w0 w:World} {F0:Fp} {ι:Inj} {H:AHeap}
def Foot (ι:Inj) (H:AHeap):Fp:=⟨fun r=>∃id b,H.get id=some b/\ι id=some r/\H.isRo id=false,fun r=>∃id b,H.get id=some b/\ι id=some r/\H.isRo id=true,fun r=>∃o,ι.m r=some o⟩
theorem Foot.none (h:Inv w0 F0 ι H w) {ids:List Nat} {r:Nat} (hf:(Foot ι (delAll ids H)).w r):F0.w r\/w0.heap.size<=r:=by
 obtain⟨j,c,hj,hjr,hro⟩:=hf
 rw[delAll_get] at hj
 split at hj
 ·cases hj
 ·obtain⟨r',o,hr',_,_,hf⟩:=h.blk j c hj
  rw[hjr] at hr';cases hr'
  rw[delAll_isRo] at hro
  rcases hf with hf|hf|hf
  ·exact .inl hf
  ·exact .inr hf
  ·rw[hro] at hf;cases hf.2
theorem Inv.cut (h:Inv w0 F0 ι H w) (ids:List Nat):Inv w (Foot ι (delAll ids H)) ι (delAll ids H) w:=by
 refine⟨fun id b hg=>?_,fun i j b c r hi hj h1 h2=>?_,fun id hid=>h.fresh id (by rwa [delAll_next] at hid),fun _ _ _=>rfl,Nat.le_refl _,rfl,rfl,rfl,⟨h.good,fun x hx=>?_⟩,⟨fun r o hm=>⟨(h.fz.frz r o hm).1,.inl ⟨o,hm⟩⟩,fun k b r hk hr=>?_,fun x b r hx hr=>h.fz.st x b r (by rwa [delAll_st] at hx) hr,h.fz.stinj,fun x r hr=>by rw[delAll_st];exact h.fz.stad x r hr⟩⟩
 rotate_left 3
 ·rw[delAll_get] at hk
  split at hk
  ·cases hk
  ·exact h.fz.nofz k b r hk hr
 ·have hg':=hg
  rw[delAll_get] at hg'
  split at hg'
  ·cases hg'
  ·obtain⟨r,o,hr,ho,hb,_⟩:=h.blk id b hg'
   cases hro:(delAll ids H).isRo id with
   |false=>exact⟨r,o,hr,ho,hb,.inl ⟨id,b,hg,hr,hro⟩⟩
   |true=>exact⟨r,o,hr,ho,hb,.inr (.inr ⟨⟨id,b,hg,hr,hro⟩,rfl⟩)⟩
 ·rw[delAll_get] at hi hj
  split at hi
  ·cases hi
  ·split at hj
   ·cases hj
   ·exact h.inj i j b c r hi hj h1 h2
 ·obtain⟨g1,g2⟩:=h.glob.2 x hx
  refine⟨Nat.lt_of_lt_of_le g1 h.size,fun hf=>?_⟩
  rcases Foot.none h hf with hf|hf
  ·exact g2 hf
  ·omega
theorem Inv.lay {ι':Inj} {H':AHeap} {w':World} (h:Inv w0 F0 ι H w) (ids:List Nat) (hle:ι.le ι') (h':Inv w (Foot ι (delAll ids H)) ι' H' w') (hros:H'.ros=H.ros):Inv w0 F0 ι' (joinH H ids H') w':=by
 have hlt:∀{id r b},H.get id=some b->ι id=some r->r<w.heap.size:=fun hg hr=>by
  obtain⟨r',o,hr',ho,_⟩:=h.blk _ _ hg
  rw[hr] at hr';cases hr'
  rcases Nat.lt_or_ge _ w.heap.size with h'|h'
  ·exact h'
  ·rw[Array.getElem?_eq_none h'] at ho;cases ho
 have hno:∀{id j r b c},id∈ids->H.get id=some b->ι id=some r->(delAll ids H).get j=some c->ι j=some r->False:=by
  intro id j r b c hid hg hr hj hjr
  rw[delAll_get] at hj
  split at hj
  ·cases hj
  ·rename_i hn
   have:=h.inj id j b c r hg hj hr hjr
   subst this
   exact hn hid
 have hnot:∀{id r b},id∈ids->H.get id=some b->ι id=some r->¬(Foot ι (delAll ids H)).w r:=by
  rintro id r b hid hg hr ⟨j,c,hj,hjr,_⟩
  exact hno hid hg hr hj hjr
 have hnotR:∀{id r b},id∈ids->H.get id=some b->ι id=some r->¬(Foot ι (delAll ids H)).r r:=by
  rintro id r b hid hg hr ⟨j,c,hj,hjr,_⟩
  exact hno hid hg hr hj hjr
 have hjro:∀i,(joinH H ids H').isRo i=H.isRo i:=fun i=>rfl
 have hro':∀i,H'.isRo i=H.isRo i:=fun i=>by unfold AHeap.isRo;rw[hros]
 refine⟨fun id b hg=>?_,fun i j b c r hi hj h1 h2=>?_,fun id hid=>h'.fresh id hid,fun r hr hnf=>?_,Nat.le_trans h.size h'.size,h'.tape.trans h.tape,h'.os.trans h.os,h'.output.trans h.output,h.glob,⟨fun r o hm=>?_,fun k b r hk hr=>?_,fun x b r hx hr=>?_,fun x y r h1 h2=>?_,fun x r h1=>?_⟩⟩
 rotate_left 3
 ·obtain⟨h1,h2⟩:=h'.fz.frz r o hm
  refine⟨h1,?_⟩
  rcases h2 with⟨o',ho'⟩|h2|h2
  ·exact(h.fz.frz r o' ho').2
  ·rcases Foot.none h h2 with h3|h3
   ·exact .inr (.inl h3)
   ·exact .inr (.inr h3)
  ·exact .inr (.inr (Nat.le_trans h.size h2))
 ·rw[joinH_get] at hk
  split at hk
  ·rename_i hid
   obtain⟨r',o,hr',_⟩:=h.blk k b hk
   have e:=hle _ _ hr'
   rw[hr] at e;cases e
   cases hm:ι'.m r with
   |none=>rfl
   |some o'=>
    obtain⟨_,h2⟩:=h'.fz.frz r o' hm
    rcases h2 with⟨o',ho'⟩|h2|h2
    ·rw[h.fz.nofz k b r hk hr'] at ho';cases ho'
    ·exact(hnot hid hk hr' h2).elim
    ·exact absurd (hlt hk hr') (Nat.not_lt.2 h2)
  ·exact h'.fz.nofz k b r hk hr
 ·exact h'.fz.st x b r hx hr
 ·exact h'.fz.stinj x y r h1 h2
 ·exact h'.fz.stad x r h1
 ·rw[joinH_get] at hg
  split at hg
  ·rename_i hid
   obtain⟨r,o,hr,ho,hb,hf⟩:=h.blk id b hg
   refine⟨r,o,hle _ _ hr,?_,hb.mono hle,hf⟩
   rw[h'.frame r (hlt hg hr) (hnot hid hg hr)]
   exact ho
  ·obtain⟨r,o,hr,ho,hb,hf⟩:=h'.blk id b hg
   refine⟨r,o,hr,ho,hb,?_⟩
   rcases hf with hf|hf|⟨⟨k,c,hk,hkr,_⟩,hf⟩
   ·rcases Foot.none h hf with h1|h1
    ·exact .inl h1
    ·exact .inr (.inl h1)
   ·exact .inr (.inl (Nat.le_trans h.size hf))
   ·rw[delAll_get] at hk
    split at hk
    ·cases hk
    ·obtain⟨r',_,hr',_,_,hf'⟩:=h.blk k c hk
     rw[hkr] at hr';cases hr'
     rcases hf' with h1|h1|h1
     ·exact .inl h1
     ·exact .inr (.inl h1)
     ·exact .inr (.inr ⟨h1.1,by rw[hjro,←hro'];exact hf⟩)
 ·rw[joinH_get] at hi hj
  have mixed:∀{i j b c r},i∈ids->H.get i=some b->H'.get j=some c->ι' i=some r->ι' j=some r->False:=by
   intro i j b c r hid hi hj h1 h2
   obtain⟨r1,o,hr,_⟩:=h.blk i b hi
   have hr':=hle _ _ hr
   rw[h1] at hr';cases hr'
   obtain⟨r2,o',hr2,_,_,hf⟩:=h'.blk j c hj
   rw[h2] at hr2;cases hr2
   rcases hf with hf|hf|hf
   ·exact hnot hid hi hr hf
   ·exact absurd (hlt hi hr) (Nat.not_lt.2 hf)
   ·exact hnotR hid hi hr hf.1
  split at hi<;>split at hj
  ·obtain⟨r1,o,hr,_⟩:=h.blk i b hi
   obtain⟨r2,o',hr2,_⟩:=h.blk j c hj
   have e1:=hle _ _ hr
   have e2:=hle _ _ hr2
   rw[h1] at e1;rw[h2] at e2;cases e1;cases e2
   exact h.inj i j b c r hi hj hr hr2
  ·rename_i hid _;exact(mixed hid hi hj h1 h2).elim
  ·rename_i _ hid;exact(mixed hid hj hi h2 h1).elim
  ·exact h'.inj i j b c r hi hj h1 h2
 ·rw[h'.frame r (Nat.lt_of_lt_of_le hr h.size) ?_]
  ·exact h.frame r hr hnf
  ·intro hf
   rcases Foot.none h hf with h1|h1
   ·exact hnf h1
   ·omega
end
end Go.Sx
namespace Go.Sx
open Go
variable [Syms]
structure FRel (ι:Inj) (fr:Fr) (a:Act):Prop where
 n:fr.n=a.tmps.size
 t:∀t,Den ι (fget fr t) (a.tmps.getD t undef)
def putA (fr:Fr) (d:Option Tmp) (v:AVal):Fr:=
 match d with
 |some d=>fset fr d v
 |none=>fr
def knowA (fr:Fr) (x:Operand) (b:Bool):Fr:=
 match x with
 | .tmp t=>fset fr t (.lit (.bool b))
 |_=>fr
theorem fget_fset (fr:Fr) (d:Nat) (v:AVal) (j:Nat):fget (fset fr d v) j=if j=d/\d<fr.n then v else fget fr j:=by
 unfold fset
 cases hb:Nat.blt d fr.n with
 |true=>
  have h:d<fr.n:=Nat.le_of_ble_eq_true hb
  simp only[cond_true,fget,Tr.get_set]
  by_cases e:j=d
  ·simp[e,h]
  ·simp[e]
 |false=>
  have h:¬d<fr.n:=by
   intro h
   have:Nat.blt d fr.n=true:=Nat.ble_eq_true_of_le h
   rw[this] at hb;cases hb
  simp[h]
theorem fset_n (fr:Fr) (d:Nat) (v:AVal):(fset fr d v).n=fr.n:=by
 unfold fset
 cases Nat.blt d fr.n<;>rfl
def wantA (all:List Oper) (o:Oper) (fr:Fr) (yes no:Fr->Prop):Prop:=
 match o.guard with
 |none=>yes fr
 |some (j,want)=>match(nthA all j).bind (·.dst) with
  |some d=>match fget fr d with
   | .lit (.bool b)=>br b
     (cond want (yes (fset fr d (.lit (.bool true)))) (no (fset fr d (.lit (.bool true)))))
     (cond want (no (fset fr d (.lit (.bool false)))) (yes (fset fr d (.lit (.bool false)))))
   | .tup _=>no fr
   |_=>False
  |none=>False
def doA (P:Program) (cx:CallX) (o:Oper) (fr:Fr) (H:AHeap) (K:Fr->AHeap->Prop):Prop:=
 match o.op with
 | .defer c=>match c.callee with
   | .value f=>match eva fr f with
     | .fn (.func g) a b=>K (putA fr o.dst undefA) (H.withD (.one g (a++c.args.toList.map (eva fr)++b)::H.defs))
     |_=>False
   |_=>False
 | .move (.tmp t)=>match fget fr t with
   | .ite c a b=>br c (K (putA (fset fr t a) o.dst a) H) (K (putA (fset fr t b) o.dst b) H)
   |v=>K (putA fr o.dst v) H
 |op=>opA P cx op (eva fr) (H.withD []) (fun v H'=>K (putA fr o.dst v) (H'.withD H.defs))
def regA (P:Program) (cx:CallX) (all:List Oper):List Oper->Fr->AHeap->(Fr->AHeap->Prop)->Prop
 |[],fr,H,K=>K fr H
 |o::r,fr,H,K=>wantA all o fr
  (fun fr=>doA P cx o fr H (fun fr H'=>regA P cx all r fr H' K))
  (fun fr=>regA P cx all r (putA fr o.dst undefA) H K)
inductive AExit where
 |normal
 |exit (id:Nat)
 |ret
section
variable {P:Program} {w0 w:World} {F0:Fp} {ι:Inj} {H:AHeap}
theorem FRel.eval {fr:Fr} {a:Act} (h:FRel ι fr a) (x:Operand):Den ι (eva fr x) (a.eval x):=by
 cases x with
 |tmp t=>exact h.t t
 |const v=>exact ofValue_den 3 v
 |global g=>exact .lit
 |func f=>exact .fn .nil .nil
theorem FRel.put {fr:Fr} {a:Act} {v:AVal} {x:Value} (h:FRel ι fr a) (hv:Den ι v x) (d:Option Tmp):FRel ι (putA fr d v) (a.put d x):=by
 cases d with
 |none=>exact h
 |some d=>
  refine⟨by simp[putA,Act.put,fset_n,h.n],fun t=>?_⟩
  simp only[putA,Act.put,fget_fset,h.n]
  by_cases e:t=d/\d<a.tmps.size
  ·obtain⟨rfl,hlt⟩:=e
   simp only[true_and,hlt,if_true]
   rw[Array.getD_eq_getD_getElem?,Array.getElem?_setIfInBounds]
   simpa[hlt] using hv
  ·rw[if_neg e]
   have:=h.t t
   rw[Array.getD_eq_getD_getElem?] at this⊢
   rw[Array.getElem?_setIfInBounds]
   by_cases e1:d=t
   ·subst e1
    have hn:¬d<a.tmps.size:=fun hl=>e ⟨rfl,hl⟩
    have he:a.tmps[d]?=none:=by
     rw[Array.getElem?_eq_none_iff]
     exact Nat.le_of_not_lt hn
    rw[he] at this
    rw[if_pos rfl,if_neg hn]
    exact this
   ·simpa[e1] using this
theorem FRel.mono {ι':Inj} {fr:Fr} {a:Act} (h:FRel ι fr a) (hi:ι.le ι'):FRel ι' fr a:=⟨h.n,fun t=>(h.t t).mono hi⟩
theorem FRel.know {fr:Fr} {a:Act} {d:Nat} {v:Value} (h:FRel ι fr a) (hv:a.tmps.getD d undef=v):FRel ι (fset fr d (.lit v)) a:=by
 refine⟨by rw[fset_n];exact h.n,fun t=>?_⟩
 rw[fget_fset]
 split
 ·rename_i e
  rw[e.1,hv]
  exact .lit
 ·exact h.t t
theorem FRel.more {fr:Fr} {a:Act} {d:Nat} {v:AVal} (h:FRel ι fr a) (hv:Den ι v (a.tmps.getD d undef)):FRel ι (fset fr d v) a:=by
 refine⟨by rw[fset_n];exact h.n,fun t=>?_⟩
 rw[fget_fset]
 split
 ·rename_i e
  rw[e.1]
  exact hv
 ·exact h.t t
structure D1 (ι:Inj) (g:Nat) (as:List AVal) (d:Deferred):Prop where
 ex:∃cap,d.target=.fn (.func g) cap/\DenL ι as (d.args.toList++cap.toList)
theorem D1.mono {ι ι':Inj} (hi:ι.le ι') {g:Nat} {as:List AVal} {d:Deferred} (h:D1 ι g as d):D1 ι' g as d:=by
 obtain⟨cap,h1,h2⟩:=h.ex
 exact⟨cap,h1,h2.mono hi⟩
inductive DFam (ι:Inj) (g:Nat) (f:Nat->List AVal):Nat->List Deferred->Prop
 |zero:DFam ι g f 0 []
 |succ {n:Nat} {d:Deferred} {ds:List Deferred} (h:D1 ι g (f n) d) (hs:DFam ι g f n ds):DFam ι g f (n+1) (d::ds)
theorem DFam.mono {ι ι':Inj} (hi:ι.le ι') {g:Nat} {f:Nat->List AVal}:∀{n ds},DFam ι g f n ds->DFam ι' g f n ds
 |_,_,.zero=>.zero
 |_,_,.succ h hs=>.succ (h.mono hi) (DFam.mono hi hs)
inductive DRel (ι:Inj):List DItem->List Deferred->Prop
 |nil:DRel ι [] []
 |one {g:Nat} {as:List AVal} {d:Deferred} {r:List DItem} {ds:List Deferred} (h1:D1 ι g as d) (h:DRel ι r ds):DRel ι (.one g as::r) (d::ds)
 |fam {g:Nat} {f:Nat->List AVal} {n:Nat} {dn:List Deferred} {r:List DItem} {ds:List Deferred} (h1:DFam ι g f n dn) (h:DRel ι r ds):DRel ι (.fam g f n::r) (dn++ds)
theorem DRel.mono {ι ι':Inj} (hi:ι.le ι'):∀{r ds},DRel ι r ds->DRel ι' r ds
 |_,_,.nil=>.nil
 |_,_,.one h1 h=>.one (h1.mono hi) (DRel.mono hi h)
 |_,_,.fam h1 h=>.fam (h1.mono hi) (DRel.mono hi h)
def PostF (w0:World) (F0:Fp) (ι:Inj) (K:Fr->AHeap->Prop) (a:Act) (w:World):Prop:=
 ∃fr H ι',K fr H/\ι.le ι'/\FRel ι' fr a/\DRel ι' H.defs a.defers/\Inv w0 F0 ι' H w
theorem PostF.le {ι':Inj} {K:Fr->AHeap->Prop} {a:Act} (h:PostF w0 F0 ι' K a w) (hi:ι.le ι'):PostF w0 F0 ι K a w:=
 let ⟨fr,H,ι2,hK,hle,hf,hd,hinv⟩:=h
 ⟨fr,H,ι2,hK,Inj.le_trans hi hle,hf,hd,hinv⟩
theorem put_defers (a:Act) (d:Option Tmp) (x:Value):(a.put d x).defers=a.defers:=by cases d<;>rfl
theorem upon_of_next {o:Oper} {a:Act} {next:Act->World->Prop} {Q:Exit->Act->World->Prop} {K:AVal->AHeap->Prop} {r:Result Next} (h:NextOk P w0 F0 ι K r)
 (hn:∀v x H' ι' w',K x H'->Den ι' x v->ι.le ι'->Inv w0 F0 ι' H' w'->next (a.put o.dst v) w'):o.upon P a next Q r:=by
 cases r with
 |halt x w'=>exact h.elim
 |ok n w'=>
  cases n<;>first
   |exact h.elim
   |(obtain⟨x,H',ι',hK,hd,hle,hinv⟩:=h
     exact hn _ x H' ι' w' hK hd hle hinv)
   |(refine Calls.mono h fun e w'' he=>?_
     cases e<;>first
      |exact he.elim
      |(obtain⟨x,H',ι',hK,hd,hle,hinv⟩:=he
        exact hn _ x H' ι' w'' hK hd hle hinv))
theorem wantA_out {all:List Oper} {o:Oper} {fr:Fr} {yes no:Fr->Prop} {a:Act} (h:wantA all o fr yes no) (hf:FRel ι fr a):
 (∃fr',FRel ι fr' a/\Region.wanted o (yielded all.toArray a.tmps)=true/\yes fr')\/(∃fr',FRel ι fr' a/\Region.wanted o (yielded all.toArray a.tmps)=false/\no fr'):=by
 unfold wantA at h
 split at h
 ·rename_i hg
  exact .inl ⟨fr,hf,by simp[Region.wanted,hg],h⟩
 ·rename_i j want hg
  split at h
  ·rename_i d hd'
   rw[nthA_eq] at hd'
   split at h
   ·rename_i b hb
    have hvd:=hf.t d
    rw[hb] at hvd
    generalize hgd:a.tmps.getD d undef=v at hvd
    cases hvd with
    |lit=>
    have hv':a.tmps[d]?=some (.bool b):=by
     rw[Array.getD_eq_getD_getElem?] at hgd
     cases he:a.tmps[d]? with
     |none=>rw[he] at hgd;cases hgd
     |some y=>rw[he] at hgd;exact congrArg some hgd
    have hy:yielded all.toArray a.tmps j=some b:=by simp[yielded,hd',hv']
    have hset:∀c,c=b->FRel ι (fset fr d (.lit (.bool c))) a:=fun c hc=>by
     subst hc
     exact hf.know hgd
    rcases br_out h with⟨rfl,h⟩|⟨rfl,h⟩
    ·cases want with
     |true=>exact .inl ⟨_,hset true rfl,by simp[Region.wanted,hg,hy],h⟩
     |false=>exact .inr ⟨_,hset true rfl,by simp[Region.wanted,hg,hy],h⟩
    ·cases want with
     |true=>exact .inr ⟨_,hset false rfl,by simp[Region.wanted,hg,hy],h⟩
     |false=>exact .inl ⟨_,hset false rfl,by simp[Region.wanted,hg,hy],h⟩
   ·rename_i cs hb
    have hvd:=hf.t d
    rw[hb] at hvd
    generalize hgd:a.tmps.getD d undef=v at hvd
    cases hvd with
    |tup hcs=>
    have hy:yielded all.toArray a.tmps j=none:=by
     rw[Array.getD_eq_getD_getElem?] at hgd
     cases he:a.tmps[d]? with
     |none=>simp[yielded,hd',he]
     |some y=>
      rw[he] at hgd
      simp at hgd
      subst hgd
      simp[yielded,hd',he]
    exact .inr ⟨fr,hf,by simp[Region.wanted,hg,hy],h⟩
   ·exact h.elim
  ·exact h.elim
theorem do_ok {cx:CallX} (hcx:CxOk P cx) {o:Oper} {fr:Fr} {a:Act} {K:Fr->AHeap->Prop} {next:Act->World->Prop} {Q:Exit->Act->World->Prop} (h:doA P cx o fr H K) (hi:Inv w0 F0 ι H w) (hf:FRel ι fr a) (hd:DRel ι H.defs a.defers)
 (hn:∀a' fr' H' ι' w',K fr' H'->ι.le ι'->FRel ι' fr' a'->DRel ι' H'.defs a'.defers->Inv w0 F0 ι' H' w'->next a' w'):o.wp P a w next Q:=by
 unfold doA at h
 unfold Oper.wp
 split at h
 ·rename_i c hop
  split at h
  ·rename_i f hc
   split at h
   ·rename_i g x y hv
    have hfv:=hf.eval f
    rw[hv] at hfv
    have hrun:∃d cap,(execOp a.eval o).run P w=.ok (.defer d) w/\d.target=.fn (.func g) cap/\DenL ι (x++c.args.toList.map (eva fr)++y) (d.args.toList++cap.toList):=by
     generalize hsf:a.eval f=fv at hfv
     cases hfv with
     |fn ha hb=>
     rename_i vs ws
     refine⟨⟨.fn (.func g) ws.toArray,vs.toArray++c.args.map a.eval⟩,ws.toArray,?_,rfl,?_⟩
     rotate_left
     ·show DenL ι _ ((vs.toArray++c.args.map a.eval).toList++ws.toArray.toList)
      simpa using(ha.append (map_den (fun x=>hf.eval x) c.args.toList)).append hb
     ·simp only[execOp,hop,resolve,hc,hsf,Deferred.ofValue,Sem.run_bind,Sem.run_pure,Result.andThen_ok]
    obtain⟨d,cap,hrun,ht,hden⟩:=hrun
    rw[hrun,Oper.upon_defer]
    refine hn _ _ _ ι _ h (Inj.le_refl _) ?_ ?_ (hi.withD _)
    ·have:FRel ι fr {a with defers:=d::a.defers}:=⟨hf.n,hf.t⟩
     exact this.put (.tup .nil) _
    ·rw[put_defers]
     exact .one ⟨cap,ht,hden⟩ hd
   ·exact h.elim
  ·exact h.elim
 ·rename_i t hop
  have hrun:(execOp a.eval o).run P w=.ok (.value (a.tmps.getD t undef)) w:=by simp only[execOp,hop];rfl
  have go:∀{v:AVal} {fr':Fr},FRel ι fr' a->Den ι v (a.tmps.getD t undef)->K (putA fr' o.dst v) H->o.upon P a next Q ((execOp a.eval o).run P w):=fun hf' hv hK=>by
   rw[hrun]
   exact hn _ _ _ ι _ hK (Inj.le_refl _) (hf'.put hv _) (by rw[put_defers];exact hd) hi
  have ht:=hf.t t
  split at h
  ·rename_i c x y he
   rw[he] at ht
   cases ht with
   |ite h1 h2=>
   rcases br_out h with⟨hc,h⟩|⟨hc,h⟩
   ·exact go (hf.more (h1 hc)) (h1 hc) h
   ·exact go (hf.more (h2 hc)) (h2 hc) h
  ·exact go hf ht h
 ·rename_i op hop
  refine upon_of_next (op_ok (o:=o) hcx h (hi.withD []) (fun x=>hf.eval x)) fun v x H' ι' w' hK hx hle hinv=>?_
  refine hn _ _ _ ι' _ hK hle ((hf.mono hle).put hx _) ?_ (hinv.withD _)
  rw[put_defers]
  exact hd.mono hle
theorem reg_ok {cx:CallX} (hcx:CxOk P cx) {all:List Oper} {Q:Exit->Act->World->Prop} {K:Fr->AHeap->Prop}:
 ∀(l:List Oper) {ι:Inj} {fr:Fr} {H:AHeap} {a:Act} {w:World},regA P cx all l fr H K->Inv w0 F0 ι H w->FRel ι fr a->DRel ι H.defs a.defers->(∀a' w',PostF w0 F0 ι K a' w'->Q .normal a' w')->wpList P all.toArray Q l a w:=by
 intro l
 induction l with
 |nil=>intro ι fr H a w h hi hf hd hQ;exact hQ a w ⟨fr,H,ι,h,Inj.le_refl _,hf,hd,hi⟩
 |cons o r ih=>
  intro ι fr H a w h hi hf hd hQ
  simp only[regA] at h
  rcases wantA_out h hf with⟨fr',hf',hw,h⟩|⟨fr',hf',hw,h⟩
  ·simp only[wpList,hw,if_true]
   refine .inl (do_ok hcx h hi hf' hd fun a' fr2 H2 ι' w' hK hle hf2 hd2 hinv=>?_)
   exact ih hK hinv hf2 hd2 (fun a' w' hp=>hQ a' w' (hp.le hle))
  ·simp only[wpList,hw,Bool.false_eq_true,if_false]
   exact ih h hi (hf'.put (.tup .nil) _) (by rw[put_defers];exact hd) hQ
end
end Go.Sx
