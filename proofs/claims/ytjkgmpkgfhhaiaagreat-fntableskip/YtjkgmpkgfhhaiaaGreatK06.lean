/- Lemmas of this claim; the last text says what is proved. -/
import Derived.Test.YtjkgmpkgfhhaiaaGreatK05
set_option linter.all false
namespace Go.Sx
open Go
variable [Syms]
section
variable {P:Program} {w0 w:World} {F0:Fp} {ι:Inj} {H:AHeap}
theorem Inv.rebind (h:Inv w0 F0 ι H w) {id r:Nat} {b b':ABlk} {o':Obj} (hg:H.get id=some b) (hr:ι id=some r) (hro:H.isRo id=false)
 {w':World} (hb:∀ι':Inj,ι.le ι'->BDen ι' b' o') (hw:w'.heap[r]?=some o') (hoth:∀k,k≠r->w'.heap[k]?=w.heap[k]?) (hsz:w'.heap.size=w.heap.size) (ht:w'.tape=w.tape) (hos:w'.os=w.os) (hout:w'.output=w.output):
 ∃ι',ι.le ι'/\ι' H.next=some r/\Inv w0 F0 ι' ((H.del id).new b') w':=by
 have hn:ι H.next=none:=h.fresh _ (Nat.le_refl _)
 let ι':Inj:=⟨fun i=>if i=H.next then some r else ι i,ι.m,ι.ad⟩
 have hle:ι.le ι':=⟨fun i x hi=>by
  by_cases e:i=H.next
  ·subst e;rw[hn] at hi;cases hi
  ·simp[ι',e,hi],fun _ _ h=>h,fun _ _ h=>h⟩
 have hnm:ι.m r=none:=h.fz.nofz id b r hg hr
 obtain⟨r0,o0,hr0,ho0,_,hf0⟩:=h.blk id b hg
 rw[hr] at hr0;cases hr0
 have hnx:(H.del id).next=H.next:=rfl
 have old:∀k c,k≠H.next->((H.del id).new b').get k=some c->k≠id/\H.get k=some c:=by
  intro k c hk hgk
  rw[AHeap.get_new,hnx,if_neg hk,AHeap.get_del] at hgk
  by_cases e:k=id
  ·simp[e] at hgk
  ·rw[if_neg e] at hgk;exact⟨e,hgk⟩
 have hf1:F0.w r\/w0.heap.size<=r:=by
  rcases hf0 with h1|h1|h1
  ·exact .inl h1
  ·exact .inr h1
  ·rw[hro] at h1;cases h1.2
 refine⟨ι',hle,by simp[ι'],?_,?_,?_,?_,by rw[hsz];exact h.size,ht.trans h.tape,hos.trans h.os,hout.trans h.output,h.glob,⟨fun k o hm=>?_,fun k c x hk hx=>?_,fun x c r hx hr=>?_,h.fz.stinj,h.fz.stad⟩⟩
 rotate_left 4
 ·obtain⟨h1,h2⟩:=h.fz.frz k o hm
  refine⟨?_,h2⟩
  rw[hoth k (fun e=>by rw[e,hnm] at hm;cases hm)]
  exact h1
 ·by_cases e:k=H.next
  ·have:r=x:=by rw[e] at hx;simpa[ι'] using hx
   rw[←this];exact hnm
  ·obtain⟨_,hgk⟩:=old k c e hk
   exact h.fz.nofz k c x hgk (by simpa[ι',e] using hx)
 ·obtain⟨o,h1,h2⟩:=h.fz.st x c r hx hr
  exact⟨o,h1,h2.mono (Inj.bare_mono hle 0)⟩
 ·intro k c hc
  by_cases e:k=H.next
  ·subst e
   rw[AHeap.get_new,hnx,if_pos rfl] at hc
   cases hc
   exact⟨r,o',by simp[ι'],hw,hb ι' hle,hf1.elim .inl fun h=>.inr (.inl h)⟩
  ·obtain⟨hne,hgk⟩:=old k c e hc
   obtain⟨r1,o1,hr1,ho1,hb1,hf1⟩:=h.blk k c hgk
   have hrr:r1≠r:=fun e'=>hne (h.inj k id c b r hgk hg (e'▸hr1) hr)
   exact⟨r1,o1,hle _ _ hr1,by rw[hoth r1 hrr];exact ho1,hb1.mono hle,hf1⟩
 ·intro i j bi bj x hi hj hri hrj
  by_cases ei:i=H.next<;>by_cases ej:j=H.next
  ·rw[ei,ej]
  ·obtain⟨hne,hgj⟩:=old j bj ej hj
   have h1:x=r:=by rw[ei] at hri;simpa[ι'] using hri.symm
   have h2:ι j=some x:=by simpa[ι',ej] using hrj
   exact(hne (h.inj j id bj b r hgj hg (h1▸h2) hr)).elim
  ·obtain⟨hne,hgi⟩:=old i bi ei hi
   have h1:x=r:=by rw[ej] at hrj;simpa[ι'] using hrj.symm
   have h2:ι i=some x:=by simpa[ι',ei] using hri
   exact(hne (h.inj i id bi b r hgi hg (h1▸h2) hr)).elim
  ·obtain⟨_,hgi⟩:=old i bi ei hi
   obtain⟨_,hgj⟩:=old j bj ej hj
   exact h.inj i j bi bj x hgi hgj (by simpa[ι',ei] using hri) (by simpa[ι',ej] using hrj)
 ·intro k hk
  have:k≠H.next:=fun e=>by subst e;simp[AHeap.new,AHeap.del] at hk;omega
  simp only[ι',if_neg this]
  exact h.fresh k (by simp[AHeap.new,AHeap.del] at hk;omega)
 ·intro k hk hf
  have hne:k≠r:=fun e=>by
   subst e
   rcases hf1 with hf0|hf0
   ·exact hf hf0
   ·omega
  rw[hoth k hne]
  exact h.frame k hk hf
def ifaceA (P:Program) (t:TypeId) (x:AVal) (K:AVal->Prop):Prop:=
 match P.underlying t with
 |some (.interface _)=>False
 |some _=>K (.ifc t x)
 |none=>False
theorem iface_ok {t:TypeId} {x:AVal} {a:Value} {K:AVal->AHeap->Prop} (h:ifaceA P t x (fun v=>K v H)) (hi:Inv w0 F0 ι H w) (hx:Den ι x a):Ok w0 F0 ι K ((Instr.makeInterface t a).run P w):=by
 unfold ifaceA at h
 split at h
 ·exact h.elim
 ·rename_i d hd hu
  have:(Instr.makeInterface t a).run P w=.ok (.iface t a) w:=by
   simp only[Instr.makeInterface,Sem.run_bind,run_underlying hu,Result.andThen_ok]
   cases d<;>first|rfl|exact(hd _ hu).elim
  rw[this]
  exact⟨_,_,ι,h,.ifc hx,Inj.le_refl _,hi⟩
 ·exact h.elim
def tupL:AVal->Option (List AVal)
 | .tup cs=>some cs
 | .lit (.tuple c)=>some (c.toList.map (ofValue 2))
 |_=>none
theorem tupL_ok {a:AVal} {v:Value} {cs:List AVal} (h:tupL a=some cs) (hd:Den ι a v):∃c:Array Value,v=.tuple c/\DenL ι cs c.toList:=by
 cases hd with
 |tup hs=>simp[tupL] at h;subst h;exact⟨_,rfl,hs⟩
 |lit=>cases v<;>simp[tupL] at h;subst h;exact⟨_,rfl,DenL.map_of (ofValue_den 2) _⟩
 |_=>simp[tupL] at h
def extractA (x:AVal) (i:Nat) (K:AVal->Prop):Prop:=
 match tupL x with
 |some cs=>match nthA cs i with
  |some v=>K v
  |none=>False
 |none=>False
theorem extract_ok {x:AVal} {a:Value} {i:Nat} {K:AVal->AHeap->Prop} (h:extractA x i (fun v=>K v H)) (hi:Inv w0 F0 ι H w) (hx:Den ι x a):Ok w0 F0 ι K ((Instr.extract a i).run P w):=by
 unfold extractA at h
 split at h
 ·rename_i cs hcs
  obtain⟨c,rfl,hc⟩:=tupL_ok hcs hx
  split at h
  ·rename_i v hv
   rw[nthA_eq] at hv
   obtain⟨y,hy,hden⟩:=hc.get i hv
   have hy':c[i]?=some y:=by simpa using hy
   simp only[Instr.extract,hy',Sem.run_pure]
   exact⟨_,_,ι,h,hden,Inj.le_refl _,hi⟩
  ·exact h.elim
 ·exact h.elim
def assertA (P:Program) (x:AVal) (t:TypeId) (ok:Bool) (K:AVal->Prop):Prop:=
 match P.underlying t with
 |some (.interface want)=>match x with
  | .lit .nilIface=>match ok,zeroA P t with
    |true,some z=>K (.tup [ofValue 1 z,.lit (.bool false)])
    |_,_=>False
  | .ifc d v=>match P.info? d with
    |some i=>match Instr.missingMethod want i.methods with
     |none=>K (cond ok (.tup [.ifc d v,.lit (.bool true)]) (.ifc d v))
     |some _=>match ok,zeroA P t with
      |true,some z=>K (.tup [ofValue 1 z,.lit (.bool false)])
      |_,_=>False
    |none=>False
  |_=>False
 |some _=>match x with
  | .lit .nilIface=>match ok,zeroA P t with
    |true,some z=>K (.tup [ofValue 1 z,.lit (.bool false)])
    |_,_=>False
  | .ifc d v=>cond (Nat.beq d t) (K (cond ok (.tup [v,.lit (.bool true)]) v)) (match ok,zeroA P t with
    |true,some z=>K (.tup [ofValue 1 z,.lit (.bool false)])
    |_,_=>False)
  |_=>False
 |none=>False
theorem den_pair {a b:AVal} {x y:Value} (h:Den ι a x) (h':Den ι b y):Den ι (.tup [a,b]) (.tuple #[x,y]):=.tup (.cons h (.cons h' .nil))
theorem assert_ok {x:AVal} {a:Value} {s t:TypeId} {ok:Bool} {K:AVal->AHeap->Prop} (h:assertA P x t ok (fun v=>K v H)) (hi:Inv w0 F0 ι H w) (hx:Den ι x a):Ok w0 F0 ι K ((Instr.typeAssert a s t ok).run P w):=by
 have fin:∀{v:Value} {z:AVal},K z H->Den ι z v->(Instr.typeAssert a s t ok).run P w=.ok v w->Ok w0 F0 ι K ((Instr.typeAssert a s t ok).run P w):=by
  intro v z hK hz hr
  rw[hr]
  exact⟨_,_,ι,hK,hz,Inj.le_refl _,hi⟩
 unfold assertA at h
 split at h
 ·rename_i want hu
  split at h
  ·cases hx
   split at h
   ·rename_i z hz
    exact fin h (den_pair (ofValue_den 1 z) .lit) (by simp[Instr.typeAssert,run_underlying hu,run_zero hz])
   ·exact h.elim
  ·rename_i d v
   cases hx with
   |ifc hx=>
   split at h
   ·rename_i i hinf
    split at h
    ·rename_i hm
     cases ok
     ·exact fin h (.ifc hx) (by simp[Instr.typeAssert,run_underlying hu,run_typeInfo hinf,hm])
     ·exact fin h (den_pair (.ifc hx) .lit) (by simp[Instr.typeAssert,run_underlying hu,run_typeInfo hinf,hm])
    ·rename_i m hm
     split at h
     ·rename_i z hz
      exact fin h (den_pair (ofValue_den 1 z) .lit) (by simp[Instr.typeAssert,run_underlying hu,run_typeInfo hinf,hm,run_zero hz])
     ·exact h.elim
   ·exact h.elim
  ·exact h.elim
 ·rename_i d0 hnot hu
  have hd0:∀want,d0≠ .interface want:=fun want e=>hnot want e
  split at h
  ·cases hx
   split at h
   ·rename_i z hz
    refine fin h (den_pair (ofValue_den 1 z) .lit) ?_
    simp only[Instr.typeAssert,Sem.run_bind,run_underlying hu,Result.andThen_ok]
    cases d0<;>first|exact(hd0 _ rfl).elim|simp[run_zero hz]
   ·exact h.elim
  ·rename_i d v
   cases hx with
   |ifc hx=>
   rename_i y
   by_cases hdt:d=t
   ·subst hdt
    rw[beq_self] at h
    simp only[cond_true] at h
    cases ok
    ·refine fin h hx ?_
     simp only[Instr.typeAssert,Sem.run_bind,run_underlying hu,Result.andThen_ok]
     cases d0<;>first|exact(hd0 _ rfl).elim|simp
    ·refine fin h (den_pair hx .lit) ?_
     simp only[Instr.typeAssert,Sem.run_bind,run_underlying hu,Result.andThen_ok]
     cases d0<;>first|exact(hd0 _ rfl).elim|simp
   ·rw[beq_false hdt] at h
    simp only[cond_false] at h
    split at h
    ·rename_i z hz
     refine fin h (den_pair (ofValue_den 1 z) .lit) ?_
     simp only[Instr.typeAssert,Sem.run_bind,run_underlying hu,Result.andThen_ok]
     cases d0<;>first|exact(hd0 _ rfl).elim|simp[hdt,run_zero hz]
    ·exact h.elim
  ·exact h.elim
 ·exact h.elim
def mapNewA (H:AHeap) (K:AVal->AHeap->Prop):Prop:=K (.map H.next) (H.new (.map [] 0))
theorem mapNew_ok {t:TypeId} {K:AVal->AHeap->Prop} (h:mapNewA H K) (hi:Inv w0 F0 ι H w):Ok w0 F0 ι K ((Instr.makeMap t none).run P w):=by
 obtain⟨ι',hle,hn,hinv⟩:=hi.new (b:=.map [] 0) (o:=.map #[] 0) ⟨#[],rfl,trivial⟩
 simp only[Instr.makeMap,Sem.run_bind,run_newObj,Result.andThen_ok,Sem.run_pure]
 exact⟨_,_,ι',h,.map hn,hle,hinv⟩
def keyEq:AVal->AVal->Option Bool
 | .str a,.str b=>some (eqL a b)
 | .lit (.int k a),.lit (.int k' b)=>cond (decide (k=k')) (some (a==b)) none
 |_,_=>none
def plainKey (P:Program) (t:TypeId) (k:AVal):Bool:=
 match P.underlying t,k with
 |some .string,.str _=>true
 |some (.int _),.lit (.int _ _)=>true
 |_,_=>false
def findA (k:AVal):List (AVal×AVal×Nat)->Nat->Option (Option (Nat×AVal))
 |[],_=>some none
 |(k',v,_)::r,i=>match keyEq k k' with
  |some true=>some (some (i,v))
  |some false=>findA k r (i+1)
  |none=>none
def updA (k v:AVal):List (AVal×AVal×Nat)->Nat->List (AVal×AVal×Nat)
 |[],_=>[]
 |(_,_,n)::r,0=>(k,v,n)::r
 |e::r,i+1=>e::updA k v r i
theorem keyEq_ok {t:TypeId} {k k':AVal} {a a':Value} {b:Bool} {d:TypeDesc} (hp:plainKey P t k=true) (hu:P.underlying t=some d) (h:keyEq k k'=some b) (hk:Den ι k a) (hk':Den ι k' a'):Instr.sameNow d a a'=some b/\(b=true->Instr.sameBits 10000 a' a=true):=by
 unfold plainKey at hp
 split at hp
 ·rename_i l hus
  rw[hu] at hus;cases hus
  cases k'<;>simp[keyEq] at h
  cases hk;cases hk'
  subst h
  refine⟨by simp[Instr.sameNow,eqL_eq,beq_str],fun hb=>?_⟩
  rw[eqL_eq] at hb
  have:=(eq_of_beq hb)
  subst this
  simp[Instr.sameBits,beq_str]
 ·rename_i kk n nn hus
  rw[hu] at hus;cases hus
  cases k'<;>simp only[keyEq] at h<;>try cases h
  rename_i v
  cases v<;>simp only[] at h<;>try cases h
  rename_i k2 n2
  cases hk;cases hk'
  by_cases e:n=k2
  ·subst e
   simp at h
   subst h
   exact⟨by simp[Instr.sameNow],fun hb=>by simp at hb;subst hb;simp[Instr.sameBits]⟩
  ·simp[e] at h
 ·cases hp
theorem findA_ok {t:TypeId} {k:AVal} {a:Value} {d:TypeDesc} (hp:plainKey P t k=true) (hu:P.underlying t=some d) (hk:Den ι k a):
 ∀{es:List (AVal×AVal×Nat)} {l:List MapEntry} (_:EDen ι es l) (i:Nat) {r:Option (Nat×AVal)},findA k es i=some r->
  (r=none->Instr.findNow d a l i=some none)/\(∀j v,r=some (j,v)->i<=j/\∃x e,Instr.findNow d a l i=some (some (j,x))/\Den ι v x/\l[j-i]?=some e/\e.val=x/\Instr.sameBits 10000 e.key a=true)
 |[],[],_,i,r,h=>by simp[findA] at h;subst h;exact⟨fun _=>rfl,fun j v hh=>by cases hh⟩
 |(k',v',n)::es,e::l,he,i,r,h=>by
  obtain⟨h1,h2,h3,h4⟩:=he
  simp only[findA] at h
  cases hq:keyEq k k' with
  |none=>rw[hq] at h;cases h
  |some b=>
   rw[hq] at h
   obtain⟨hs,hbits⟩:=keyEq_ok hp hu hq hk h1
   cases b with
   |true=>
    simp at h;subst h
    refine⟨fun hh=>(by cases hh),fun j v hh=>?_⟩
    cases hh
    exact⟨Nat.le_refl _,e.val,e,by simp[Instr.findNow,hs],h2,by simp,rfl,hbits rfl⟩
   |false=>
    simp at h
    obtain⟨g1,g2⟩:=findA_ok hp hu hk h4 (i+1) h
    refine⟨fun hh=>by simpa[Instr.findNow,hs] using g1 hh,fun j v hh=>?_⟩
    obtain⟨hle,x,e',hf,hden,hget,hval,hb⟩:=g2 j v hh
    refine⟨by omega,x,e',by simpa[Instr.findNow,hs] using hf,hden,?_,hval,hb⟩
    have:j-i=(j-(i+1))+1:=by omega
    rw[this]
    simpa using hget
 |[],_::_,he,_,_,_=>by cases he
 |_::_,[],he,_,_,_=>by obtain⟨_,_,_⟩:= ‹AVal×AVal×Nat›;cases he
theorem updA_ok {k v:AVal} {a x:Value} (hk:Den ι k a) (hv:Den ι v x):∀{es:List (AVal×AVal×Nat)} {l:List MapEntry} (_:EDen ι es l) (i:Nat),EDen ι (updA k v es i) (l.modify i fun e=>{e with key:=a,val:=x})
 |[],[],h,i=>by cases i<;>exact h
 |(_,_,_)::_,_::_,h,0=>⟨hk,hv,h.2.2.1,h.2.2.2⟩
 |(_,_,_)::_,_::_,h,i+1=>by rw[List.modify_succ_cons];exact⟨h.1,h.2.1,h.2.2.1,updA_ok hk hv h.2.2.2 i⟩
 |[],_::_,h,_=>by cases h
 |(_,_,_)::_,[],h,_=>by cases h
theorem EDen.snoc {k v:AVal} {e:MapEntry} {n:Nat} (hk:Den ι k e.key) (hv:Den ι v e.val) (hn:e.born=n):∀{es:List (AVal×AVal×Nat)} {l:List MapEntry} (_:EDen ι es l),EDen ι (es++[(k,v,n)]) (l++[e])
 |[],[],_=>⟨hk,hv,hn,trivial⟩
 |(_,_,_)::_,_::_,h=>⟨h.1,h.2.1,h.2.2.1,EDen.snoc hk hv hn h.2.2.2⟩
 |[],_::_,h=>by cases h
 |(_,_,_)::_,[],h=>by cases h
def updateA (P:Program) (t:TypeId) (m k v:AVal) (H:AHeap) (K:AHeap->Prop):Prop:=
 match P.underlying t,m with
 |some (.map kt _),.map id=>gd (plainKey P kt k&& !H.isRo id) (match H.get id with
  |some (.map es clock)=>match findA k es 0 with
   |some (some (i,_))=>K (H.set id (.map (updA k v es i) clock))
   |some none=>K (H.set id (.map (es++[(k,v,clock)]) (clock+1)))
   |none=>False
  |_=>False)
 |_,_=>False
theorem run_checkKey {b:Bool} {n:Nat} {t:TypeId} {k:AVal} {a:Value} (hp:plainKey P t k=true) (hk:Den ι k a):(Instr.checkKey b (n+1) t a).run P w=.ok () w:=by
 unfold plainKey at hp
 split at hp
 ·rename_i l hus
  cases hk
  simp[Instr.checkKey,run_underlying hus]
 ·rename_i kk n' kk' hus
  cases hk
  simp[Instr.checkKey,run_underlying hus]
 ·cases hp
theorem plainKey_und {t:TypeId} {k:AVal} (hp:plainKey P t k=true):∃d,P.underlying t=some d:=by
 unfold plainKey at hp
 split at hp
 ·exact⟨_,by assumption⟩
 ·exact⟨_,by assumption⟩
 ·cases hp
theorem run_getObj {r:Nat} {es:Array MapEntry} {c:Nat} (h:w.heap[r]?=some (.map es c)):(getObj r).run P w=.ok (.map es c) w:=by
 simp[getObj,Sem.run,h]
theorem run_setObj {r:Nat} {es:Array MapEntry} {c:Nat} {o:Obj} (h:w.heap[r]?=some (.map es c)):(setObj r o).run P w=.ok () (setBlk w r o):=by
 simp[setObj,Sem.run,h,setBlk]
theorem update_ok {t:TypeId} {m k v:AVal} {mv kv vv:Value} {K:AHeap->Prop} (h:updateA P t m k v H K) (hi:Inv w0 F0 ι H w) (hm:Den ι m mv) (hk:Den ι k kv) (hv:Den ι v vv):OkU w0 F0 ι K ((Instr.mapUpdate t mv kv vv).run P w):=by
 unfold updateA at h
 split at h
 ·rename_i kt e id hu
  obtain⟨hp,h⟩:=gd_out h
  simp only[Bool.and_eq_true,Bool.not_eq_true'] at hp
  obtain⟨hp,hro⟩:=hp
  cases hm with
  |map hr=>
  rename_i r
  split at h
  ·rename_i es clock hg
   obtain⟨r',o,hr',ho,hb,hf⟩:=hi.blk _ _ hg
   rw[hr] at hr';cases hr'
   obtain⟨ent,rfl,hE⟩:=hb
   obtain⟨d,hd⟩:=plainKey_und hp
   have hck:=run_checkKey (P:=P) (w:=w) (b:=false) (n:=9999) hp hk
   split at h
   ·rename_i i v0 hfind
    obtain⟨_,g⟩:=findA_ok hp hd hk hE 0 hfind
    obtain⟨_,x,e',hfn,_,hget,_,hbits⟩:=g i v0 rfl
    have hget':ent[i]?=some e':=by simpa using hget
    have hrun:(Instr.mapUpdate t (.map (some r)) kv vv).run P w=.ok () (setBlk w r (.map (ent.modify i fun e=>{e with key:=kv,val:=vv}) clock)):=by
     simp only[Instr.mapUpdate,Sem.run_bind,run_underlying hu,Result.andThen_ok,run_getObj ho,hck,Instr.findKey,run_underlying hd,hfn,Sem.run_pure,hget',Option.map_some,Option.getD_some,Instr.keyThatStays,hbits,if_true,run_setObj ho]
    rw[hrun]
    refine⟨_,ι,h,Inj.le_refl _,hi.set hg hr hro ?_ (setBlk_get ho) (fun k hk=>setBlk_other hk) setBlk_size rfl rfl rfl⟩
    exact⟨_,rfl,by simpa using updA_ok hk hv hE i⟩
   ·rename_i hfind
    obtain⟨g,_⟩:=findA_ok hp hd hk hE 0 hfind
    have hfn:=g rfl
    have hrun:(Instr.mapUpdate t (.map (some r)) kv vv).run P w=.ok () (setBlk w r (.map (ent.push {key:=kv,val:=vv,born:=clock}) (clock+1))):=by
     simp only[Instr.mapUpdate,Sem.run_bind,run_underlying hu,Result.andThen_ok,run_getObj ho,hck,Instr.findKey,run_underlying hd,hfn,Sem.run_pure,run_setObj ho]
    rw[hrun]
    refine⟨_,ι,h,Inj.le_refl _,hi.set hg hr hro ?_ (setBlk_get ho) (fun k hk=>setBlk_other hk) setBlk_size rfl rfl rfl⟩
    exact⟨_,rfl,by simpa using EDen.snoc (e:={key:=kv,val:=vv,born:=clock}) hk hv rfl hE⟩
   ·exact h.elim
  ·exact h.elim
 ·exact h.elim
def lookV (z:AVal):Option (Nat×AVal)->AVal
 |some (_,v)=>v
 |none=>z
def lookB:Option (Nat×AVal)->Bool
 |some _=>true
 |none=>false
def allI (k:IntKind):List (AVal×AVal×Nat)->Bool
 |[]=>true
 |(.lit (.int k' _),_,_)::r=>decide (k=k')&&allI k r
 |_=>false
def memI (n:Int):List (AVal×AVal×Nat)->Bool
 |[]=>false
 |(.lit (.int _ m),_,_)::r=>(n==m)||memI n r
 |_=>false
theorem findA_int {k:IntKind} {n:Int}:∀{es:List (AVal×AVal×Nat)} (i:Nat),allI k es=true->∃r,findA (.lit (.int k n)) es i=some r/\lookB r=memI n es
 |[],i,_=>⟨none,rfl,rfl⟩
 |(a,v,b)::r,i,h=>by
  unfold allI at h
  split at h
  ·rename_i e;cases e
  ·rename_i k' m v' b' r' e
   cases e
   simp only[Bool.and_eq_true,decide_eq_true_eq] at h
   obtain⟨rfl,h⟩:=h
   obtain⟨x,hx,hb⟩:=findA_int (i+1) h
   simp only[findA,keyEq,decide_true,cond_true,memI]
   cases hn:(n==m) with
   |true=>exact⟨_,rfl,by simp[lookB]⟩
   |false=>exact⟨x,hx,by simp[hb]⟩
  ·cases h
def lookI (P:Program) (kt:TypeId) (es:List (AVal×AVal×Nat)) (z:Value) (k:AVal) (ok:Bool) (K:AVal->Prop):Prop:=
 gd (plainKey P kt k) (match ok,k with
     |true,.lit (.int kk n)=>gd (allI kk es) (K (.tup [.top,.lit (.bool (memI n es))]))
     |_,_=>match findA k es 0 with
      |some r=>K (cond ok (.tup [lookV (ofValue 1 z) r,.lit (.bool (lookB r))]) (lookV (ofValue 1 z) r))
      |none=>False)
def lookupA (P:Program) (t:TypeId) (m k:AVal) (ok:Bool) (H:AHeap) (K:AVal->Prop):Prop:=
 match P.underlying t with
 |some (.map kt et)=>match zeroA P et with
  |some z=>match m with
   | .map id=>match H.get id with
     |some (.map es _)=>lookI P kt es z k ok K
     |_=>False
   | .smp x=>match H.st x with
     |some (.map es _)=>lookI P kt es z k ok K
     |_=>False
   |_=>False
  |none=>False
 |_=>False
theorem lookI_ok {t kt et:TypeId} {es:List (AVal×AVal×Nat)} {ent:Array MapEntry} {z:Value} {clock r:Nat} {k:AVal} {kv:Value} {ok:Bool} {K:AVal->Prop} (h:lookI P kt es z k ok K) (hu:P.underlying t=some (.map kt et)) (hz:zeroA P et=some z) (hE:EDen ι es ent.toList) (hk:Den ι k kv):
 ∃x v,(∀w':World,w'.heap[r]?=some (.map ent clock)->(Instr.lookup t (.map (some r)) kv ok).run P w'=.ok v w')/\Den ι x v/\K x:=by
 obtain⟨hp,h⟩:=gd_out h
 obtain⟨d,hd⟩:=plainKey_und hp
 have go:∀(res:Option (Nat×AVal)),findA k es 0=some res->∃v,(∀w':World,w'.heap[r]?=some (.map ent clock)->(Instr.lookup t (.map (some r)) kv ok).run P w'=.ok v w')/\Den ι (cond ok (.tup [lookV (ofValue 1 z) res,.lit (.bool (lookB res))]) (lookV (ofValue 1 z) res)) v:=by
  intro res hfind
  obtain⟨g1,g2⟩:=findA_ok hp hd hk hE 0 hfind
  cases res with
  |none=>
   have hfn:=g1 rfl
   have hrun:∀w':World,w'.heap[r]?=some (.map ent clock)->(Instr.lookup t (.map (some r)) kv ok).run P w'=.ok (if ok then .tuple #[z,.bool false] else z) w':=by
    intro w' ho
    have hck:=run_checkKey (P:=P) (w:=w') (b:=ent.isEmpty) (n:=9999) hp hk
    simp only[Instr.lookup,Sem.run_bind,run_underlying hu,Result.andThen_ok,run_getObj ho,Sem.run_pure,hck,Instr.findKey,run_underlying hd,hfn,run_zero hz]
   cases ok
   ·exact⟨_,hrun,ofValue_den 1 z⟩
   ·exact⟨_,hrun,den_pair (ofValue_den 1 z) .lit⟩
  |some jv=>
   obtain⟨j,v⟩:=jv
   obtain⟨_,x,e',hfn,hden,_,_,_⟩:=g2 j v rfl
   have hrun:∀w':World,w'.heap[r]?=some (.map ent clock)->(Instr.lookup t (.map (some r)) kv ok).run P w'=.ok (if ok then .tuple #[x,.bool true] else x) w':=by
    intro w' ho
    have hck:=run_checkKey (P:=P) (w:=w') (b:=ent.isEmpty) (n:=9999) hp hk
    simp only[Instr.lookup,Sem.run_bind,run_underlying hu,Result.andThen_ok,run_getObj ho,Sem.run_pure,hck,Instr.findKey,run_underlying hd,hfn]
   cases ok
   ·exact⟨_,hrun,hden⟩
   ·exact⟨_,hrun,den_pair hden .lit⟩
 split at h
 ·rename_i kk n _
  obtain⟨hall,h⟩:=gd_out h
  obtain⟨res,hfind,hb⟩:=findA_int (n:=n) 0 hall
  obtain⟨v,hrun,hden⟩:=go res hfind
  refine⟨_,_,hrun,?_,h⟩
  rw[cond_true] at hden
  rw[hb] at hden
  cases hden with
  |tup hden=>
  cases hden with
  |cons h1 h2=>exact .tup (.cons .top h2)
 ·split at h
  ·rename_i res hfind
   obtain⟨v,hrun,hden⟩:=go res hfind
   exact⟨_,_,hrun,hden,h⟩
  ·exact h.elim
theorem lookup_at {t:TypeId} {id:Nat} {k:AVal} {mv kv:Value} {ok:Bool} {K:AVal->AHeap->Prop} (h:lookupA P t (.map id) k ok H (fun v=>K v H)) (hi:Inv w0 F0 ι H w) (hm:Den ι (.map id) mv) (hk:Den ι k kv):
 ∃x v r o b,ι id=some r/\H.get id=some b/\w.heap[r]?=some o/\(∀w':World,w'.heap[r]?=some o->(Instr.lookup t mv kv ok).run P w'=.ok v w')/\Den ι x v/\K x H:=by
 unfold lookupA at h
 split at h
 ·rename_i kt et hu
  split at h
  ·rename_i z hz
   cases hm with
   |map hr=>
   simp only at h
   split at h
   ·rename_i es clock hg
    obtain⟨r',o,hr',ho,hb,hf⟩:=hi.blk _ _ hg
    rw[hr] at hr';cases hr'
    obtain⟨ent,rfl,hE⟩:=hb
    obtain⟨x,v,h1,h2,h3⟩:=lookI_ok h hu hz hE hk
    exact⟨x,v,_,_,_,hr,hg,ho,h1,h2,h3⟩
   ·exact h.elim
  ·exact h.elim
 ·exact h.elim
theorem lookup_st {t:TypeId} {sx:SId} {k:AVal} {mv kv:Value} {ok:Bool} {K:AVal->AHeap->Prop} (h:lookupA P t (.smp sx) k ok H (fun v=>K v H)) (hi:Inv w0 F0 ι H w) (hm:Den ι (.smp sx) mv) (hk:Den ι k kv):
 ∃x v r o,ι.m r=some o/\w.heap[r]?=some o/\(∀w':World,w'.heap[r]?=some o->(Instr.lookup t mv kv ok).run P w'=.ok v w')/\Den ι x v/\K x H:=by
 unfold lookupA at h
 split at h
 ·rename_i kt et hu
  split at h
  ·rename_i z hz
   cases hm with
   |smp had=>
   simp only at h
   split at h
   ·rename_i es clock hg
    obtain⟨o,hmm,ho,hb⟩:=hi.stat hg had
    obtain⟨ent,rfl,hE⟩:=hb
    obtain⟨x,v,h1,h2,h3⟩:=lookI_ok h hu hz hE hk
    exact⟨x,v,_,_,hmm,ho,h1,h2,h3⟩
   ·exact h.elim
  ·exact h.elim
 ·exact h.elim
theorem lookup_ok {t:TypeId} {m k:AVal} {mv kv:Value} {ok:Bool} {K:AVal->AHeap->Prop} (h:lookupA P t m k ok H (fun v=>K v H)) (hi:Inv w0 F0 ι H w) (hm:Den ι m mv) (hk:Den ι k kv):Ok w0 F0 ι K ((Instr.lookup t mv kv ok).run P w):=by
 cases m with
 |map id=>
  obtain⟨x,v,r,o,b,hr,hg,ho,hrun,hd,hK⟩:=lookup_at h hi hm hk
  rw[hrun w ho]
  exact⟨_,_,ι,hK,hd,Inj.le_refl _,hi⟩
 |smp sx=>
  obtain⟨x,v,r,o,_,ho,hrun,hd,hK⟩:=lookup_st h hi hm hk
  rw[hrun w ho]
  exact⟨_,_,ι,hK,hd,Inj.le_refl _,hi⟩
 |_=>
  unfold lookupA at h
  split at h
  ·split at h
   ·exact h.elim
   ·exact h.elim
  ·exact h.elim
end
end Go.Sx
namespace Go.Sx
open Go
variable [Syms]
section
variable {P:Program} {w0 w:World} {F0:Fp} {ι:Inj} {H:AHeap}
def repL (n:Nat) (cs:List AVal):List AVal:=match n with
 |0=>[]
 |n+1=>cs++repL n cs
def zeroB:Value->Bool
 | .int .u8 n=>n==0
 |_=>false
theorem zeroB_ok {z:Value} (h:zeroB z=true):z=byteV 0:=by
 unfold zeroB at h
 split at h
 ·simp at h;subst h;rfl
 ·cases h
def makeA (P:Program) (t:TypeId) (l c:AVal) (H:AHeap) (K:AVal->AHeap->Prop):Prop:=
 match P.underlying t,l,c with
 |some (.slice e),.lit (.int _ n),.lit (.int _ m)=>match bytesA P e,szA P e,zeroA P e with
  |some b,some (sz+1),some z=>
   gd (decide (0<=n)&&(decide (n<=m)&&(decide (m<=281474976710656)&&(decide ((b:Int)*m<=281474976710656)&&Nat.beq z.cells.size (sz+1)))))
    (cond (isU8 P e) (gd (zeroB z) (K (.slc H.next 0 n.toNat (.n m.toNat)) (H.new (.bytes (List.replicate n.toNat 0) e (.n m.toNat)))))
     (cond (Nat.ble 4 sz) (K (.slc H.next 0 n.toNat (.n m.toNat)) (H.new (.famw (fun _=>(AVal.lit z).cells) (sz+1) n.toNat [] e (.n (m.toNat*(sz+1))))))
      (K (.slc H.next 0 n.toNat (.n m.toNat)) (H.new (.row (repL n.toNat (AVal.lit z).cells) e (.n (m.toNat*(sz+1))))))))
  |_,_,_=>False
 |_,_,_=>False
theorem wrap64_id {n:Int} (h0:0<=n) (h1:n<=281474976710656):IntKind.i64.wrap n=n:=by
 simp only[IntKind.wrap,IntKind.bits,IntKind.signed]
 have:n % 2 ^ 64=n:=Int.emod_eq_of_lt h0 (by omega)
 simp only[this]
 rw[if_neg]
 simp
 omega
theorem zeros_cells (z:Value) (sz:Nat) (hz:z.cells.size=sz+1):∀n,((List.range (n*(sz+1))).map (fun i=>z.cells[i % z.cells.size]!))=(List.replicate n z.cells.toList).flatten:=by
 intro n
 induction n with
 |zero=>simp
 |succ n ih=>
  rw[List.replicate_succ',List.flatten_append,←ih]
  have e:(n+1)*(sz+1)=n*(sz+1)+(sz+1):=by rw[Nat.succ_mul]
  rw[e,List.range_add,List.map_append]
  congr 1
  simp only[List.flatten_cons,List.flatten_nil,List.append_nil,List.map_map]
  apply List.ext_getElem?
  intro i
  by_cases hi:i<sz+1
  ·have h1:(n*(sz+1)+i) % (sz+1)=i:=by
    rw[Nat.mul_comm,Nat.mul_add_mod];exact Nat.mod_eq_of_lt hi
   have hi':i<z.cells.size:=by omega
   simp[hi,h1,hz,hi',getElem!_pos z.cells i hi']
  ·have hi':z.cells.size<=i:=by omega
   simp[hi,hi']
theorem repL_den {cs:List AVal} {vs:List Value} (h:DenL ι cs vs):∀n,DenL ι (repL n cs) (List.replicate n vs).flatten
 |0=>.nil
 |n+1=>by simpa[repL,List.replicate_succ] using h.append (repL_den h n)
theorem flat_drop {α:Type} {l:List α}:∀{n k:Nat},k<n->(((List.replicate n l).flatten.drop (k*l.length)).take l.length)=l
 |0,_,h=>by omega
 |n+1,0,_=>by simp[List.replicate_succ]
 |n+1,k+1,h=>by
  have ih:=flat_drop (l:=l) (n:=n) (k:=k) (by omega)
  have e:(k+1)*l.length=l.length+k*l.length:=by rw[Nat.succ_mul];omega
  rw[List.replicate_succ,List.flatten_cons,e,←List.drop_drop,List.drop_left]
  exact ih
theorem flat_len (n:Nat) (vs:List Value):(List.replicate n vs).flatten.length=n*vs.length:=by simp[List.length_flatten]
theorem make_ok {t:TypeId} {l c:AVal} {lv cv:Value} {K:AVal->AHeap->Prop} (h:makeA P t l c H K) (hi:Inv w0 F0 ι H w) (hl:Den ι l lv) (hc:Den ι c cv):Ok w0 F0 ι K ((Instr.makeSlice t lv cv).run P w):=by
 unfold makeA at h
 split at h
 ·rename_i e k n k' m hu
  cases hl;cases hc
  split at h
  ·rename_i b sz z hb hs hz
   obtain⟨hcond,h⟩:=gd_out h
   simp only[Bool.and_eq_true,decide_eq_true_eq] at hcond
   obtain⟨h0,h1,h2,h3,h4⟩:=hcond
   have h4:=Nat.eq_of_beq_eq_true h4
   have hm0:0<=m:=by omega
   have hn1:n<=281474976710656:=by omega
   have hinfo:∃i,P.info? e=some i/\i.bytes=b:=by
    unfold bytesA at hb
    cases hi':P.info? e with
    |none=>rw[hi'] at hb;cases hb
    |some i=>rw[hi'] at hb;simp at hb;exact⟨i,rfl,hb⟩
   obtain⟨inf,hinf,hbytes⟩:=hinfo
   have hnm:(Instr.makeSlice t (.int k n) (.int k' m)).run P w=.ok (.slice (some ⟨w.heap.size,0,none⟩) n.toNat m.toNat) {w with heap:=w.heap.push (.cells (List.replicate m.toNat z.cells.toList).flatten.toArray e)}:=by
    simp only[Instr.makeSlice,Sem.run_bind,run_underlying hu,Result.andThen_ok,asInt,asIntOf,Sem.run_pure,run_typeInfo hinf,wrap64_id h0 hn1,wrap64_id hm0 h2,hbytes]
    have c1:(decide (m<0)||decide ((b:Int)*m>2 ^ 48)||decide (n<0)||decide (n>m))=false:=by
     simp only[Bool.or_eq_false_iff,decide_eq_false_iff_not]
     refine⟨⟨⟨by omega,?_⟩,by omega⟩,by omega⟩
     have:(2:Int) ^ 48=281474976710656:=by decide
     omega
    rw[if_neg (by rw[c1];simp)]
    simp only[Sem.run_bind,Result.andThen_ok,run_askRoom,run_sizeOf hs]
    have hrow:((Array.range (m.toNat*(sz+1))).map (fun i=>z.cells[i % z.cells.size]!))=(List.replicate m.toNat z.cells.toList).flatten.toArray:=by
     rw[←zeros_cells z sz h4]
     simp[←Array.toList_inj]
    by_cases hm:m.toNat=0
    ·have:m.toNat*(sz+1)=0:=by rw[hm];simp
     have hr0:Array.range 0=#[]:=rfl
     simp[hm,run_newRow,hr0]
    ·have:¬m.toNat*(sz+1)=0:=Nat.mul_ne_zero hm (by omega)
     rw[if_neg this]
     simp only[Sem.run_bind,run_zero hz,Result.andThen_ok,Sem.run_pure,hrow,run_newRow]
   have hsplit:(List.replicate m.toNat z.cells.toList).flatten=(List.replicate n.toNat z.cells.toList).flatten++(List.replicate (m.toNat-n.toNat) z.cells.toList).flatten:=by
    rw[←List.flatten_append,List.replicate_append_replicate]
    congr 2
    omega
   rw[hnm]
   cases hu8:isU8 P e with
   |true=>
    rw[hu8] at h
    simp only[cond_true] at h
    obtain⟨hzb,h⟩:=gd_out h
    have hzb:=zeroB_ok hzb
    subst hzb
    have hflat:∀k,(List.replicate k (byteV 0).cells.toList).flatten=(List.replicate k (0:UInt8)).map byteV:=by
     intro k
     have:(byteV 0).cells.toList=[byteV 0]:=rfl
     rw[this]
     induction k with
     |zero=>rfl
     |succ k ih=>simp[List.replicate_succ,ih]
    obtain⟨ι',hle,hn,hinv⟩:=hi.new (b:=.bytes (List.replicate n.toNat 0) e (.n m.toNat)) (o:=.cells (List.replicate m.toNat (byteV 0).cells.toList).flatten.toArray e (0,0))
     ⟨(List.replicate (m.toNat-n.toNat) (byteV 0).cells.toList).flatten,(0,0),by rw[hsplit,hflat n.toNat],by
       show _<=_
       rw[hflat];simp;omega,fun k _ hh=>by simp at hh⟩
    exact⟨_,_,ι',h,.slc hn (by omega) (.inl rfl) rfl,hle,hinv⟩
   |false=>
    rw[hu8] at h
    simp only[cond_false] at h
    cases h5:Nat.ble 4 sz with
    |true=>
     rw[h5,cond_true] at h
     have hzl:z.cells.toList.length=sz+1:=by simpa using h4
     obtain⟨ι',hle,hn,hinv⟩:=hi.new (b:=.famw (fun _=>(AVal.lit z).cells) (sz+1) n.toNat [] e (.n (m.toNat*(sz+1)))) (o:=.cells (List.replicate m.toNat z.cells.toList).flatten.toArray e (0,0))
      ⟨(List.replicate n.toNat z.cells.toList).flatten,[],(List.replicate (m.toNat-n.toNat) z.cells.toList).flatten,by rw[hsplit,List.append_nil],by rw[flat_len,hzl],fun k hk=>by
        have:=flat_drop (l:=z.cells.toList) hk
        rw[hzl] at this
        rw[this]
        exact Den.cells .lit rfl,.nil,by
        refine Nat.le_of_eq ?_
        rw[flat_len,flat_len,hzl,List.length_nil,Nat.add_zero (n.toNat*(sz+1)),←Nat.add_mul]
        congr 1;omega⟩
     exact⟨_,_,ι',h,.slc hn (by omega) (.inl rfl) rfl,hle,hinv⟩
    |false=>
    rw[h5,cond_false] at h
    obtain⟨ι',hle,hn,hinv⟩:=hi.new (b:=.row (repL n.toNat (AVal.lit z).cells) e (.n (m.toNat*(sz+1)))) (o:=.cells (List.replicate m.toNat z.cells.toList).flatten.toArray e (0,0))
     ⟨_,(List.replicate (m.toNat-n.toNat) z.cells.toList).flatten,by rw[hsplit],repL_den (Den.cells .lit rfl) _,by
       refine Nat.le_of_eq ?_
       rw[flat_len,flat_len,←Nat.add_mul]
       have:z.cells.toList.length=sz+1:=by simpa using h4
       rw[this];congr 1;omega⟩
    exact⟨_,_,ι',h,.slc hn (by omega) (.inl rfl) rfl,hle,hinv⟩
  ·exact h.elim
 ·exact h.elim
def lenA (P:Program) (t:TypeId) (x:AVal) (H:AHeap) (K:AVal->Prop):Prop:=
 match P.underlying t,x with
 |some .string,.str l=>K (.lit (.int .i64 l.length))
 |some (.slice _),.slc _ _ n _=>K (.lit (.int .i64 n))
 |some .string,.rope r=>K (.lenr r)
 |some (.slice _),.rsl _ _ mid _=>K (.lenr mid)
 |some (.slice _),.lit (.slice none n _)=>K (.lit (.int .i64 n))
 |some (.map _ _),.map id=>match H.get id with
  |some (.map es _)=>K (.lit (.int .i64 es.length))
  |_=>False
 |some (.slice _),.ssl _ _ n=>K (.lit (.int .i64 n))
 |some (.slice _),.by_ l=>K (.lit (.int .i64 l.length))
 |some (.slice _),.fam _ n=>K (.lit (.int .i64 n))
 |some (.slice _),.famx _ n=>K (.lit (.int .i64 n))
 |some (.slice _),.fmw _ _ n=>K (.lit (.int .i64 n))
 |some (.slice _),.e0=>K (.lit (.int .i64 0))
 |_,_=>False
def capA (P:Program) (t:TypeId) (x:AVal) (K:AVal->Prop):Prop:=
 match P.underlying t,x with
 |some (.slice _),.slc _ _ _ (.n c)=>K (.lit (.int .i64 c))
 |some (.slice _),.lit (.slice none _ c)=>K (.lit (.int .i64 c))
 |_,_=>False
theorem EDen.len:∀{es:List (AVal×AVal×Nat)} {l:List MapEntry},EDen ι es l->es.length=l.length
 |[],[],_=>rfl
 |(_,_,_)::_,_::_,h=>by simp[EDen.len h.2.2.2]
 |[],_::_,h=>by cases h
 |(_,_,_)::_,[],h=>by cases h
theorem len_ok {t u:TypeId} {ts:Array TypeId} {x:AVal} {a:Value} {K:AVal->AHeap->Prop} (h:lenA P t x H (fun v=>K v H)) (hi:Inv w0 F0 ι H w) (hx:Den ι x a) (ht:ts[0]?=some t):Ok w0 F0 ι K ((Builtin.len_ ts u #[a]).run P w):=by
 have fin:∀{v:Value} {z:AVal},K z H->Den ι z v->(Builtin.len_ ts u #[a]).run P w=.ok v w->Ok w0 F0 ι K ((Builtin.len_ ts u #[a]).run P w):=by
  intro v z hK hz hr
  rw[hr]
  exact⟨_,_,ι,hK,hz,Inj.le_refl _,hi⟩
 unfold lenA at h
 split at h
 ·rename_i l hu
  cases hx
  refine fin h .lit ?_
  have h0:(#[Value.string ⟨l.toArray⟩]:Array Value)[0]?=some (.string ⟨l.toArray⟩):=rfl
  have hs:(⟨l.toArray⟩:ByteArray).size=l.length:=by simp[ByteArray.size]
  simp only[Builtin.len_,ht,h0,Sem.run_bind,run_underlying hu,Result.andThen_ok,Sem.run_pure,goInt,hs]
 ·rename_i hu
  cases hx<;>exact fin h .lit (by simp[Builtin.len_,ht,run_underlying hu,goInt])
 ·rename_i r hu
  cases hx
  refine fin h .lenr ?_
  have h0:(#[Value.string ⟨(flat r).toArray⟩]:Array Value)[0]?=some (.string ⟨(flat r).toArray⟩):=rfl
  have hs:(⟨(flat r).toArray⟩:ByteArray).size=(flat r).length:=by simp[ByteArray.size]
  simp only[Builtin.len_,ht,h0,Sem.run_bind,run_underlying hu,Result.andThen_ok,Sem.run_pure,goInt,hs]
 ·rename_i hu
  cases hx
  exact fin h .lenr (by simp[Builtin.len_,ht,run_underlying hu,goInt])
 ·rename_i hu
  cases hx<;>exact fin h .lit (by simp[Builtin.len_,ht,run_underlying hu,goInt])
 ·rename_i id hu
  cases hx with
  |map hr=>
  rename_i r
  split at h
  ·rename_i es c hg
   obtain⟨r',o,hr',ho,hb,_⟩:=hi.blk _ _ hg
   rw[hr] at hr';cases hr'
   obtain⟨ent,rfl,hE⟩:=hb
   refine fin h .lit ?_
   have h0:(#[Value.map (some r)]:Array Value)[0]?=some (.map (some r)):=rfl
   simp only[Builtin.len_,ht,h0,Sem.run_bind,run_underlying hu,Result.andThen_ok,run_getObj ho,Sem.run_pure,goInt]
   rw[hE.len,Array.length_toList]
  ·exact h.elim
 ·rename_i hu
  cases hx<;>exact fin h .lit (by simp[Builtin.len_,ht,run_underlying hu,goInt])
 ·rename_i hu
  cases hx<;>exact fin h .lit (by simp[Builtin.len_,ht,run_underlying hu,goInt])
 ·rename_i hu
  cases hx<;>exact fin h .lit (by simp[Builtin.len_,ht,run_underlying hu,goInt])
 ·rename_i hu
  cases hx<;>exact fin h .lit (by simp[Builtin.len_,ht,run_underlying hu,goInt])
 ·rename_i hu
  cases hx<;>exact fin h .lit (by simp[Builtin.len_,ht,run_underlying hu,goInt])
 ·rename_i hu
  cases hx<;>exact fin h .lit (by simp[Builtin.len_,ht,run_underlying hu,goInt])
 ·exact h.elim
theorem cap_ok {t u:TypeId} {ts:Array TypeId} {x:AVal} {a:Value} {K:AVal->AHeap->Prop} (h:capA P t x (fun v=>K v H)) (hi:Inv w0 F0 ι H w) (hx:Den ι x a) (ht:ts[0]?=some t):Ok w0 F0 ι K ((Builtin.cap_ ts u #[a]).run P w):=by
 have fin:∀{v:Value} {z:AVal},K z H->Den ι z v->(Builtin.cap_ ts u #[a]).run P w=.ok v w->Ok w0 F0 ι K ((Builtin.cap_ ts u #[a]).run P w):=by
  intro v z hK hz hr
  rw[hr]
  exact⟨_,_,ι,hK,hz,Inj.le_refl _,hi⟩
 unfold capA at h
 split at h
 ·rename_i hu
  cases hx with
  |slc hr hl ho hcap=>
  cases hcap
  exact fin h .lit (by simp[Builtin.cap_,ht,run_underlying hu,goInt])
 ·rename_i hu
  cases hx
  exact fin h .lit (by simp[Builtin.cap_,ht,run_underlying hu,goInt])
 ·exact h.elim
end
end Go.Sx
