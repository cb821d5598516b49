/- Lemmas of this claim; the last text says what is proved. -/
import Derived.Test.YtjkgmpkgfhhaiaaGreatK09
set_option linter.all false
namespace Go.Sx
open Go
variable [Syms]
def isStill:Op->Bool
 | .move _=>true
 | .assign _=>true
 | .nilCheck _=>true
 | .fieldAddr .. =>true
 | .indexAddr .. =>true
 | .makeFunc .. =>true
 | .load .. =>true
 | .lookup .. =>true
 |_=>false
def stillA (P:Program) (o:Op) (ρ:Operand->AVal) (H:AHeap) (K:AVal->List Nat->Prop):Prop:=
 match o with
 | .move x=>K (ρ x) []
 | .assign x=>K (ρ x) []
 | .nilCheck x=>nilA P (ρ x) (fun v=>K v [])
 | .fieldAddr s x f=>fieldAddrA P s (ρ x) f (fun v=>K v [])
 | .indexAddr t x i=>indexAddrA P t (ρ x) (ρ i) (fun v=>K v [])
 | .makeFunc f a b=>K (.fn f (a.toList.map ρ) (b.toList.map ρ)) []
 | .load t a=>match ρ a with
   | .ptr id off=>loadA P t (.ptr id off) H (fun v _=>K v [id])
   |x=>gd (fzA x) (loadA P t x H (fun v _=>K v []))
 | .lookup t m k ok=>match ρ m with
   | .map id=>lookupA P t (.map id) (ρ k) ok H (fun v=>K v [id])
   | .smp x=>lookupA P t (.smp x) (ρ k) ok H (fun v=>K v [])
   |_=>False
 |_=>False
def dedupN:List Nat->List Nat
 |[]=>[]
 |x::r=>cond (hasN (dedupN r) x) (dedupN r) (x::dedupN r)
theorem hasN_mem:∀{l:List Nat} {i:Nat},hasN l i=true->i∈l
 |[],_,h=>by cases h
 |x::r,i,h=>by
  simp only[hasN] at h
  cases hb:Nat.beq x i with
  |true=>rw[Nat.eq_of_beq_eq_true hb];exact List.mem_cons_self ..
  |false=>rw[hb,cond_false] at h;exact List.mem_cons_of_mem _ (hasN_mem h)
theorem mem_dedupN:∀{l:List Nat} {i:Nat},i∈l->i∈dedupN l
 |x::r,i,h=>by
  simp only[dedupN]
  rcases List.mem_cons.1 h with rfl|h
  ·cases hb:hasN (dedupN r) i with
   |true=>exact hasN_mem hb
   |false=>exact List.mem_cons_self ..
  ·have:=mem_dedupN h
   cases hb:hasN (dedupN r) x with
   |true=>exact this
   |false=>exact List.mem_cons_of_mem _ this
def heldFor (ops:Array Oper) (j:Nat) (T:List (Nat×Nat)):List Nat:=dedupN ((T.filter fun x=> !(afterOf ops j).contains x.1).map (·.2))
def pastT (ops:Array Oper) (j:Nat) (T:List (Nat×Nat)):List (Nat×Nat):=T.filter fun x=> !(afterOf ops j).contains x.1
def pickA (ops:Array Oper) (listed:Array Bool):List Nat->Option (Nat×Oper)
 |[]=>none
 |i::r=>match ops[i]? with
  |some o=>cond (isStill o.op&&Region.free .any ops listed i) (some (i,o)) (pickA ops listed r)
  |none=>pickA ops listed r
def allA:List Nat->(Nat->Prop)->Prop
 |[],_=>True
 |[j],f=>f j
 |j::r,f=>f j/\allA r f
def drawA (P:Program) (cx:CallX) (ops:Array Oper):Nat->Array Bool->List (Nat×Nat)->Fr->AHeap->(Fr->AHeap->Prop)->Prop
 |0,listed,_,fr,H,K=>match Region.ready .any ops listed with
  |[]=>K fr H
  |_::_=>False
 |n+1,listed,T,fr,H,K=>match Region.ready .any ops listed with
  |[]=>K fr H
  |r::rs=>match pickA ops listed (r::rs) with
   |some (i,o)=>wantA ops.toList o fr
    (fun fr=>stillA P o.op (eva fr) H (fun v ids=>drawA P cx ops n (listed.setIfInBounds i true) (ids.map (fun id=>(i,id))++T) (putA fr o.dst v) H K))
    (fun fr=>drawA P cx ops n (listed.setIfInBounds i true) T (putA fr o.dst undefA) H K)
   |none=>allA (r::rs) (fun j=>match ops[j]? with
    |some o=>wantA ops.toList o fr
     (fun fr=>opA P cx o.op (eva fr) ((delAll (heldFor ops j T) H).withD []) (fun v H'=>gd (eqN H'.ros H.ros) (drawA P cx ops n (listed.setIfInBounds j true) (pastT ops j T) (putA fr o.dst v) (joinH H (heldFor ops j T) H') K)))
     (fun fr=>drawA P cx ops n (listed.setIfInBounds j true) (pastT ops j T) (putA fr o.dst undefA) H K)
    |none=>False)
section
variable {P:Program} {w0 w:World} {F0:Fp} {ι:Inj} {H:AHeap}
theorem allA_out:∀{l:List Nat} {f:Nat->Prop},allA l f->∀j∈l,f j
 |[],_,_,j,hj=>by cases hj
 |[i],f,h,j,hj=>by
  rw[List.mem_singleton] at hj
  subst hj;exact h
 |i::k::r,f,h,j,hj=>by
  rcases List.mem_cons.1 hj with rfl|hj
  ·exact h.1
  ·exact allA_out h.2 j hj
theorem pickA_out {ops:Array Oper} {listed:Array Bool} {i:Nat} {o:Oper}:∀{l:List Nat},pickA ops listed l=some (i,o)->i∈l/\ops[i]?=some o/\Region.free .any ops listed i=true
 |[],h=>by cases h
 |k::r,h=>by
  simp only[pickA] at h
  split at h
  ·rename_i o' ho
   cases hc:(isStill o'.op&&Region.free .any ops listed k) with
   |true=>
    rw[hc,cond_true] at h
    cases h
    simp only[Bool.and_eq_true] at hc
    exact⟨List.mem_cons_self ..,ho,hc.2⟩
   |false=>
    rw[hc,cond_false] at h
    obtain⟨h1,h2⟩:=pickA_out h
    exact⟨List.mem_cons_of_mem _ h1,h2⟩
  ·obtain⟨h1,h2⟩:=pickA_out h
   exact⟨List.mem_cons_of_mem _ h1,h2⟩
def TOk (ι:Inj) (H:AHeap) (w:World) (T:List (Nat×Nat)) (L:Held):Prop:=
 ∀x∈L,(∀w',x.2 w')\/(∃r o,ι.m r=some o/\∀w':World,w'.heap[r]?=some o->x.2 w')\/∃id r o b,(x.1,id)∈T/\ι id=some r/\H.get id=some b/\w.heap[r]?=some o/\∀w':World,w'.heap[r]?=some o->x.2 w'
theorem TOk.now {T:List (Nat×Nat)} {L:Held} (hi:Inv w0 F0 ι H w) (h:TOk ι H w T L):∀x∈L,x.2 w:=fun x hx=>by
 rcases h x hx with h|⟨r,o,hm,h⟩|⟨id,r,o,b,_,_,_,ho,h⟩
 ·exact h w
 ·exact h w (hi.fz.frz r o hm).1
 ·exact h w ho
theorem still_ok {o:Oper} {ρ:Operand->AVal} {σ:Operand->Value} {K:AVal->List Nat->Prop} (h:stillA P o.op ρ H K) (hi:Inv w0 F0 ι H w) (hd:∀x,Den ι (ρ x) (σ x)):
 ∃x v ids,∃S:World->Prop,Den ι x v/\K x ids/\S w/\(∀w',S w'->(execOp σ o).run P w'=.ok (.value v) w')/\
  ((∀w',S w')\/(∃r ob,ids=[]/\ι.m r=some ob/\∀w':World,w'.heap[r]?=some ob->S w')\/∃id r ob b,ids=[id]/\ι id=some r/\H.get id=some b/\w.heap[r]?=some ob/\∀w':World,w'.heap[r]?=some ob->S w'):=by
 have quiet:∀{x:AVal} {v:Value},Den ι x v->K x []->(∀w':World,(execOp σ o).run P w'=.ok (.value v) w')->_:=fun{x v} hx hK hr=>
  (⟨x,v,[],fun _=>True,hx,hK,trivial,fun w' _=>hr w',.inl fun _=>trivial⟩:∃x v ids,∃S:World->Prop,Den ι x v/\K x ids/\S w/\(∀w',S w'->(execOp σ o).run P w'=.ok (.value v) w')/\
    ((∀w',S w')\/(∃r ob,ids=[]/\ι.m r=some ob/\∀w':World,w'.heap[r]?=some ob->S w')\/∃id r ob b,ids=[id]/\ι id=some r/\H.get id=some b/\w.heap[r]?=some ob/\∀w':World,w'.heap[r]?=some ob->S w'))
 have vof:∀{s:Sem Value} {v:Value} {w':World},s.run P w'=.ok v w'->(do pure (.value (←s)):Sem Next).run P w'=.ok (.value v) w':=fun hs=>by
  simp only[Sem.run_bind,hs,Result.andThen_ok,Sem.run_pure]
 obtain⟨dst,op,type,pos,after,guard⟩:=o
 cases op<;>simp only[stillA] at h
 case move x=>exact quiet (hd x) h (fun _=>rfl)
 case assign x=>exact quiet (hd x) h (fun _=>rfl)
 case nilCheck x=>
  obtain⟨y,hrun,hy,hK⟩:=nil_st h (hd x)
  exact quiet hy hK hrun
 case fieldAddr s x f=>
  obtain⟨y,v,hrun,hy,hK⟩:=fieldAddrA_st h (hd x)
  exact quiet hy hK (fun w'=>vof (hrun w'))
 case indexAddr t x i=>
  obtain⟨y,v,hrun,hy,hK⟩:=indexAddrA_st h (hd x) (hd i)
  exact quiet hy hK (fun w'=>vof (hrun w'))
 case makeFunc f a b=>
  have e1:a.map σ=(a.toList.map σ).toArray:=by rw[←Array.toList_inj];simp
  have e2:b.map σ=(b.toList.map σ).toArray:=by rw[←Array.toList_inj];simp
  refine quiet (v:=.func f (a.map σ) (b.map σ)) ?_ h (fun w'=>rfl)
  rw[e1,e2]
  exact .fn (map_den hd _) (map_den hd _)
 case load t a=>
  split at h
  ·rename_i id off ha
   have hda:=hd a
   rw[ha] at hda
   obtain⟨x,y,r,ob,b,hr,hg,ho,hrun,hx,hK⟩:=loadA_at h hi hda
   exact⟨x,y,[id],fun w'=>w'.heap[r]?=some ob,hx,hK,ho,fun w' hw'=>vof (hrun w' hw'),.inr (.inr ⟨id,r,ob,b,rfl,hr,hg,ho,fun _ h=>h⟩)⟩
  ·obtain⟨hz,h⟩:=gd_out h
   obtain⟨x,y,r,ob,hm,ho,hrun,hx,hK⟩:=loadA_fz h hi (hd a) hz
   exact⟨x,y,[],fun w'=>w'.heap[r]?=some ob,hx,hK,ho,fun w' hw'=>vof (hrun w' hw'),.inr (.inl ⟨r,ob,rfl,hm,fun _ h=>h⟩)⟩
 case lookup t m k ok=>
  split at h
  ·rename_i id hm
   have hdm:=hd m
   rw[hm] at hdm
   obtain⟨x,y,r,ob,b,hr,hg,ho,hrun,hx,hK⟩:=lookup_at (K:=fun v _=>K v [id]) h hi hdm (hd k)
   exact⟨x,y,[id],fun w'=>w'.heap[r]?=some ob,hx,hK,ho,fun w' hw'=>vof (hrun w' hw'),.inr (.inr ⟨id,r,ob,b,rfl,hr,hg,ho,fun _ h=>h⟩)⟩
  ·rename_i sx hm
   have hdm:=hd m
   rw[hm] at hdm
   obtain⟨x,y,r,ob,hr,ho,hrun,hx,hK⟩:=lookup_st (K:=fun v _=>K v []) h hi hdm (hd k)
   exact⟨x,y,[],fun w'=>w'.heap[r]?=some ob,hx,hK,ho,fun w' hw'=>vof (hrun w' hw'),.inr (.inl ⟨r,ob,rfl,hr,fun _ h=>h⟩)⟩
  ·exact h.elim
 all_goals exact h.elim
theorem drawA_ok {cx:CallX} (hcx:CxOk P cx) {ops:Array Oper} {Q:Exit->Act->World->Prop} {K:Fr->AHeap->Prop} (hs:Region.noSelect ops=true) (hQp:∀c a w,¬Q (.panic c) a w):
 ∀(n:Nat) {ι:Inj} {listed:Array Bool} {T:List (Nat×Nat)} {L:Held} {fr:Fr} {H:AHeap} {a:Act} {w:World},drawA P cx ops n listed T fr H K->Inv w0 F0 ι H w->FRel ι fr a->DRel ι H.defs a.defers->TOk ι H w T L->
  (∀a' w',PostF w0 F0 ι K a' w'->Q .normal a' w')->wpW P ops Q n listed L a w:=by
 have oparr:ops=ops.toList.toArray:=by simp
 intro n
 induction n with
 |zero=>
  intro ι listed T L fr H a w h hi hf hd hT hQ
  simp only[drawA] at h
  split at h
  ·rename_i hr
   exact⟨hr,hQ a w ⟨fr,H,ι,h,Inj.le_refl _,hf,hd,hi⟩⟩
  ·exact h.elim
 |succ n ih=>
  intro ι listed T L fr H a w h hi hf hd hT hQ
  simp only[drawA] at h
  split at h
  ·rename_i hr
   exact⟨fun _=>hQ a w ⟨fr,H,ι,h,Inj.le_refl _,hf,hd,hi⟩,by rw[hr];simp⟩
  ·rename_i r rs hr
   split at h
   ·rename_i i o hp
    obtain⟨hmem,ho,hfree⟩:=pickA_out hp
    rw[←hr] at hmem
    have hout:=wantA_out h hf
    rw[←oparr] at hout
    rcases hout with⟨fr',hf',hw,h⟩|⟨fr',hf',hw,h⟩
    ·obtain⟨x,v,ids,S,hx,hK,hS,hrun,hids⟩:=still_ok h hi (fun x=>hf'.eval x)
     refine wpW_first (S:=S) (v:=v) ho (Region.noSelect_spec hs) (fun c a w hq=>(hQp c _ w hq).elim) n listed L a w (Region.free_spec ho hfree) hmem (.inl ⟨hw,hrun⟩) hS (hT.now hi) ?_
     refine ih hK hi (hf'.put hx _) (by rw[put_defers];exact hd) ?_ hQ
     intro y hy
     rcases List.mem_cons.1 hy with rfl|hy
     ·rcases hids with hids|⟨r,ob,rfl,hr,hall⟩|⟨id,r,ob,b,rfl,hr,hg,ho,hall⟩
      ·exact .inl hids
      ·exact .inr (.inl ⟨r,ob,hr,hall⟩)
      ·exact .inr (.inr ⟨id,r,ob,b,by simp,hr,hg,ho,hall⟩)
     ·rcases hT y hy with h1|h1|⟨id,r,ob,b,hm,h1⟩
      ·exact .inl h1
      ·exact .inr (.inl h1)
      ·exact .inr (.inr ⟨id,r,ob,b,List.mem_append_right _ hm,h1⟩)
    ·refine wpW_first (S:=fun _=>True) (v:=undef) ho (Region.noSelect_spec hs) (fun c a w hq=>(hQp c _ w hq).elim) n listed L a w (Region.free_spec ho hfree) hmem (.inr ⟨hw,rfl⟩) trivial (hT.now hi) ?_
     refine ih h hi (hf'.put (.tup .nil) _) (by rw[put_defers];exact hd) ?_ hQ
     intro y hy
     rcases List.mem_cons.1 hy with rfl|hy
     ·exact .inl fun _=>trivial
     ·exact hT y hy
   ·refine⟨fun h0=>(by rw[hr] at h0;cases h0),fun j hj=>?_⟩
    rw[hr] at hj
    have hj:=allA_out h j hj
    split at hj
    ·rename_i o ho
     have hout:=wantA_out hj hf
     rw[←oparr] at hout
     unfold wpOp
     simp only[ho]
     rcases hout with⟨fr',hf',hw,h⟩|⟨fr',hf',hw,h⟩
     ·rw[if_pos hw]
      refine .inl ?_
      unfold Oper.wp
      have hnx:=op_ok hcx h ((hi.cut (heldFor ops j T)).withD []) (fun x=>hf'.eval x)
      refine upon_of_next hnx fun v x H' ι' w' hK hx hle hinv=>?_
      obtain⟨hros,hK⟩:=gd_out hK
      have hros:=eqN_eq hros
      have hlay:=hi.lay (heldFor ops j T) hle hinv hros
      have hkeep:TOk ι' (joinH H (heldFor ops j T) H') w' (pastT ops j T) (L.past ops j):=by
       intro y hy
       simp only[Held.past,List.mem_filter] at hy
       rcases hT y hy.1 with h1|⟨r,ob,hm,hall⟩|⟨id,r,ob,b,hm,h1,hg,hob,hall⟩
       ·exact .inl h1
       ·exact .inr (.inl ⟨r,ob,hle.m _ _ hm,hall⟩)
       ·have hmT:(y.1,id)∈pastT ops j T:=by
         simp only[pastT,List.mem_filter]
         exact⟨hm,hy.2⟩
        have hid:id∈heldFor ops j T:=mem_dedupN (List.mem_map.2 ⟨_,hmT,rfl⟩)
        refine .inr (.inr ⟨id,r,ob,b,hmT,hle _ _ h1,by rw[joinH_get,if_pos hid];exact hg,?_,hall⟩)
        have hlt:r<w.heap.size:=by
         rcases Nat.lt_or_ge r w.heap.size with h'|h'
         ·exact h'
         ·rw[Array.getElem?_eq_none h'] at hob;cases hob
        rw[hinv.frame r hlt ?_]
        ·exact hob
        ·rintro⟨k,c,hk,hkr,_⟩
         rw[delAll_get] at hk
         split at hk
         ·cases hk
         ·rename_i hn
          have:=hi.inj id k b c r hg hk h1 hkr
          subst this
          exact hn hid
      exact⟨hkeep.now hlay,ih hK hlay ((hf'.mono hle).put hx _) (by rw[put_defers];exact hd.mono hle) hkeep (fun a' w' hp=>hQ a' w' (hp.le hle))⟩
     ·rw[if_neg (by rw[hw];simp)]
      have hkeep:TOk ι H w (pastT ops j T) (L.past ops j):=by
       intro y hy
       simp only[Held.past,List.mem_filter] at hy
       rcases hT y hy.1 with h1|h1|⟨id,r,ob,b,hm,h1⟩
       ·exact .inl h1
       ·exact .inr (.inl h1)
       ·exact .inr (.inr ⟨id,r,ob,b,by simp only[pastT,List.mem_filter];exact⟨hm,hy.2⟩,h1⟩)
      exact⟨hkeep.now hi,ih h hi (hf'.put (.tup .nil) _) (by rw[put_defers];exact hd) hkeep hQ⟩
    ·exact hj.elim
def regD (P:Program) (cx:CallX) (ops:Array Oper) (fr:Fr) (H:AHeap) (K:Fr->AHeap->Prop):Prop:=
 gd (P.follows .mixedOrders&&Region.noSelect ops) (drawA P cx ops ops.size (Array.replicate ops.size false) [] fr H K)
theorem regD_ok {cx:CallX} (hcx:CxOk P cx) {ops:Array Oper} {id:Nat} {Q:Exit->Act->World->Prop} {K:Fr->AHeap->Prop} {fr:Fr} {a:Act} (hQp:∀c a w,¬Q (.panic c) a w)
 (h:regD P cx ops fr H K) (hi:Inv w0 F0 ι H w) (hf:FRel ι fr a) (hd:DRel ι H.defs a.defers) (hQ:∀a' w',PostF w0 F0 ι K a' w'->Q .normal a' w'):(Code.region id ops true).wp P Q a w:=by
 obtain⟨hc,h⟩:=gd_out h
 simp only[Bool.and_eq_true] at hc
 refine wp_region_W hc.1 ?_
 exact drawA_ok hcx hc.2 hQp ops.size h (hi.drew _) hf hd (fun x hx=>by cases hx) hQ
end
end Go.Sx
namespace Go.Sx
open Go
variable [Syms]
section
variable {P:Program} {w0 w:World} {F0:Fp} {ι:Inj} {H:AHeap}
def PostE (w0:World) (F0:Fp) (ι:Inj) (K:AExit->Fr->AHeap->Prop):Exit->Act->World->Prop
 | .normal,a,w=>PostF w0 F0 ι (K .normal) a w
 | .exit i,a,w=>PostF w0 F0 ι (K (.exit i)) a w
 | .ret,a,w=>PostF w0 F0 ι (K .ret) a w
 |_,_,_=>False
def WPc (P:Program) (c:Code) (fr:Fr) (H:AHeap) (K:AExit->Fr->AHeap->Prop):Prop:=
 ∀(w0:World) (F0:Fp) (ι:Inj) (w:World) (a:Act),Inv w0 F0 ι H w->FRel ι fr a->DRel ι H.defs a.defers->c.wp P (PostE w0 F0 ι K) a w
def kid:Code->Nat->Code
 | .seq a _,0=>a
 | .seq _ b,_+1=>b
 | .cond _ a _,0=>a
 | .cond _ _ b,_+1=>b
 | .block _ b,_=>b
 | .loop b,_=>b
 | .scope b,_=>b
 |c,_=>c
def sub (root:Code):List Nat->Code
 |[]=>root
 |i::p=>kid (sub root p) i
def AtA (P:Program) (root:Code) (p:List Nat) (fr:Fr) (H:AHeap) (K:AExit->Fr->AHeap->Prop):Prop:=WPc P (sub root p) fr H K
abbrev Spec:=List AVal->AHeap->(AVal->AHeap->Prop)->Prop
def fillT:List AVal->Nat->Tr AVal->Tr AVal
 |[],_,T=>T
 |v::r,i,T=>fillT r (Nat.succ i) (T.set i (some v))
def mkFr (n:Nat) (args:List AVal):Fr:=⟨args.length+(n-args.length),fillT args 0 .nil⟩
def oneOf:List AVal->AVal
 |[v]=>v
 |l=>.tup l
def readA (P:Program) (fr:Fr) (H:AHeap):List ResultVar->(List AVal->Prop)->Prop
 |[],K=>K []
 | .tmp t::r,K=>readA P fr H r (fun l=>K (fget fr t::l))
 | .cell a t::r,K=>loadA P t (fget fr a) H (fun v _=>readA P fr H r (fun l=>K (v::l)))
def runD (dx:CallX):List DItem->AHeap->(AHeap->Prop)->Prop
 |[],H,K=>K H
 | .one g as::r,H,K=>dx g as H (fun _ H'=>runD dx r (H'.withD []) K)
 | .fam g f n::r,H,K=>(∀k,k<n->dx g (f k) H (fun _ H'=>H'.withD []=H))/\runD dx r H K
def finA (P:Program) (dx:CallX) (fn:Func) (K:AVal->AHeap->Prop):AExit->Fr->AHeap->Prop
 | .exit _,_,_=>False
 |_,fr,H=>runD dx H.defs (H.withD []) (fun H'=>readA P fr H' fn.results.toList (fun l=>K (oneOf l) H'))
structure Tabs where
 c:FuncId->Option Spec
 d:FuncId->Option Spec
def callX (ft:FuncId->Option Func) (tab:FuncId->Option Spec) (run:Func->Code->Fr->AHeap->(AVal->AHeap->Prop)->Prop):CallX:=fun f args H K=>match tab f with
 |some s=>s args H K
 |none=>match ft f with
  |some fn=>match fn.body with
   |some b=>run fn b (mkFr fn.ntmps args) (H.withD []) K
   |none=>False
  |none=>False
structure Lvl where
 ex:Bool->Code->List Nat->Code->Fr->AHeap->(AExit->Fr->AHeap->Prop)->Prop
 dx:CallX
def runF (P:Program) (L:Lvl) (fn:Func) (b:Code) (fr:Fr) (H:AHeap) (K:AVal->AHeap->Prop):Prop:=L.ex true b [] b fr H (finA P L.dx fn K)
def exC (P:Program) (ft:FuncId->Option Func) (T:Tabs) (L:Lvl) (u:Bool) (root:Code) (p:List Nat) (c:Code) (fr:Fr) (H:AHeap) (K:AExit->Fr->AHeap->Prop):Prop:=
    match c with
    | .skip=>K .normal fr H
    | .region _ ops false=>regA P (callX ft T.c (runF P L)) ops.toList ops.toList fr H (fun fr H=>K .normal fr H)
    | .region _ ops true=>regD P (callX ft T.c (runF P L)) ops fr H (fun fr H=>K .normal fr H)
    | .seq a b=>L.ex u root (0::p) a fr H (fun e fr H=>match e with
     | .normal=>L.ex u root (1::p) b fr H K
     |e=>K e fr H)
    | .cond c a b=>match eva fr c with
      | .lit (.bool t)=>br t (L.ex u root (0::p) a (knowA fr c true) H K) (L.ex u root (1::p) b (knowA fr c false) H K)
      |_=>False
    | .block id b=>L.ex u root (0::p) b fr H (fun e fr H=>match e with
     | .exit i=>cond (Nat.beq i id) (K .normal fr H) (K (.exit i) fr H)
     |e=>K e fr H)
    | .loop b=>cond u (L.ex u root (0::p) b fr H (fun e fr H=>match e with
     | .normal=>L.ex u root p (.loop b) fr H K
     |e=>K e fr H)) (AtA P root p fr H K)
    | .exit i=>K (.exit i) fr H
    | .ret=>K .ret fr H
    | .label _=>K .normal fr H
    | .scope b=>L.ex u root (0::p) b fr H K
    |_=>False
def lvl (P:Program) (ft:FuncId->Option Func) (T:Tabs):Nat->Lvl
 |0=>⟨fun _ _ _ _ _ _ _=>False,fun _ _ _ _=>False⟩
 |n+1=>⟨exC P ft T (lvl P ft T n),callX ft T.d (runF P (lvl P ft T n))⟩
def ex (P:Program) (ft:FuncId->Option Func) (T:Tabs) (n:Nat):Bool->Code->List Nat->Code->Fr->AHeap->(AExit->Fr->AHeap->Prop)->Prop:=(lvl P ft T n).ex
def FtOk (P:Program) (ft:FuncId->Option Func):Prop:=∀f fn,ft f=some fn->P.funcs[f]?=some fn/\(fn.name== "runtime.NumGoroutine")=false
def ACallsD (P:Program) (f:FuncId) (args:List AVal) (H:AHeap) (K:AVal->AHeap->Prop):Prop:=
 ∀(w0:World) (F0:Fp) (ι:Inj) (w:World) (vs:List Value),Inv w0 F0 ι H w->DenL ι args vs->CallsD P f vs.toArray .returning w (fun e u' w'=>u'=.returning/\PostV w0 F0 ι K e w')
def DxOk (P:Program) (dx:CallX):Prop:=∀f args H K,dx f args H K->FunOk P f/\ACallsD P f args H K
def SpecOk (P:Program) (f:FuncId) (s:Spec):Prop:=∀args H K,s args H K->ANext P f args H K
def SpecOkD (P:Program) (f:FuncId) (s:Spec):Prop:=FunOk P f/\∀args H K,s args H K->ACallsD P f args H K
structure TabOk (P:Program) (T:Tabs):Prop where
 c:∀f s,T.c f=some s->SpecOk P f s
 d:∀f s,T.d f=some s->SpecOkD P f s
theorem read_ok {fr:Fr} {tmps:Array Value} (hf:∀t,Den ι (fget fr t) (tmps.getD t undef)) (hi:Inv w0 F0 ι H w):∀(l:List ResultVar) {K:List AVal->Prop},readA P fr H l K->
 ∃as vs,(l.mapM (fun| .tmp t=>pure (tmps.getD t undef)| .cell a t=>do loadVar t (←asAddr (tmps.getD a undef)):ResultVar->Sem Value)).run P w=.ok vs w/\DenL ι as vs/\K as:=by
 have hev:=hf
 intro l
 induction l with
 |nil=>intro K h;exact⟨[],[],rfl,.nil,h⟩
 |cons x r ih=>
  intro K h
  cases x with
  |tmp t=>
   obtain⟨as,vs,hrun,hd,hK⟩:=ih h
   exact⟨_,_,by simp only[List.mapM_cons,Sem.run_bind,Sem.run_pure,Result.andThen_ok,hrun],.cons (hev t) hd,hK⟩
  |cell a t=>
   simp only[readA] at h
   obtain⟨x,y,hrun,hden,hK⟩:=loadA_ro (P:=P) h hi (hev a)
   obtain⟨as,vs,hrun',hd,hK⟩:=ih hK
   have hl:=hrun w rfl
   have hl':(do loadVar t (←asAddr (tmps.getD a undef)):Sem Value).run P w=.ok y w:=by
    generalize tmps.getD a undef=v at hl
    cases v with
    |pointer o=>
     cases o with
     |some ad=>simpa[Instr.loadAt,Instr.sureAddr,asAddr] using hl
     |none=>simp[Instr.loadAt,Instr.sureAddr] at hl
    |_=>simp[Instr.loadAt,Instr.sureAddr] at hl
   refine⟨_,_,?_,.cons hden hd,hK⟩
   simp only[List.mapM_cons,Sem.run_bind] at hl'⊢
   rw[hl']
   simp only[Result.andThen_ok,hrun',Sem.run_pure]
theorem leaves_ok {dx:CallX} (hdx:DxOk P dx) {fn:Func} {tmps:Array Value} {K:AVal->AHeap->Prop} {fr:Fr}:
 ∀(r:List DItem) {ds:List Deferred} {ι0 ι:Inj} {H:AHeap} {w:World},runD dx r H (fun H'=>readA P fr H' fn.results.toList (fun l=>K (oneOf l) H'))->DRel ι r ds->ι0.le ι->(∀t,Den ι (fget fr t) (tmps.getD t undef))->Inv w0 F0 ι H w->
  Leaves P fn tmps (PostV w0 F0 ι0 K) ds .returning w
 |[],_,ι0,ι,H,w,h,.nil,hle,hf,hinv=>by
  obtain⟨as,vs,hrun,hden,hK⟩:=read_ok (P:=P) hf hinv _ h
  refine⟨if h:vs.toArray.size=1 then vs.toArray[0] else .tuple vs.toArray,?_,?_⟩
  ·have:(fn.results.mapM (fun| .tmp t=>pure (tmps.getD t undef)| .cell b t=>do loadVar t (←asAddr (tmps.getD b undef)):ResultVar->Sem Value)).run P w=.ok vs.toArray w:=by
    rw[Array.mapM_eq_mapM_toList]
    simp only[Sem.run_map,hrun,Result.andThen_ok]
   simp only[results,Sem.run_bind]
   refine(congrArg (fun r=>Result.andThen r _) this).trans ?_
   simp only[Result.andThen_ok,Sem.run_pure]
  ·refine⟨oneOf as,H,ι,hK,?_,hle,hinv⟩
   cases hden with
   |nil=>exact .tup .nil
   |cons h1 h2=>
    cases h2 with
    |nil=>exact h1
    |cons h2 h3=>
     rw[dif_neg (by simp)]
     exact .tup (.cons h1 (.cons h2 h3))
 | .one g as::r,_,ι0,ι,H,w,h,.one (d:=d) h1 hr,hle,hf,hinv=>by
   obtain⟨cap,ht,hd⟩:=h1.ex
   obtain⟨hfun,hc⟩:=hdx g as H _ h
   refine⟨by simp,_,_,_,_,ht,?_,CallsD.mono (hc w0 F0 ι w _ hinv hd) fun e u' w' he=>?_⟩
   ·rw[ht]
    simp only[invoke]
    rw[run_callFunc hfun]
    simp
   ·obtain⟨rfl,he⟩:=he
    cases e with
    |returned v=>
     obtain⟨a,H',ι',hK,_,hle',hinv'⟩:=he
     exact leaves_ok hdx r hK (hr.mono hle') (Inj.le_trans hle hle') (fun t=>(hf t).mono hle') (hinv'.withD _)
    |panicked c=>exact he.elim
    |outgrown=>exact he.elim
 | .fam g f n::r,_,ι0,ι,H,w,h,.fam (dn:=dn) h1 hr,hle,hf,hinv=>by
   obtain⟨hall,hrest⟩:=h
   have key:∀(n:Nat) (dn:List Deferred) {ι:Inj} {w:World},(∀k,k<n->dx g (f k) H (fun _ H'=>H'.withD []=H))->DFam ι g f n dn->ι0.le ι->(∀t,Den ι (fget fr t) (tmps.getD t undef))->Inv w0 F0 ι H w->∀{ds:List Deferred},DRel ι r ds->Leaves P fn tmps (PostV w0 F0 ι0 K) (dn++ds) .returning w:=by
    intro n
    induction n with
    |zero=>
     intro dn ι w _ hd hle hf hinv ds hr
     cases hd
     exact leaves_ok hdx r hrest hr hle hf hinv
    |succ n ih=>
     intro dn ι w hall hd hle hf hinv ds hr
     cases hd with
     |@succ _ d ds' h1 hs=>
     obtain⟨cap,ht,hd⟩:=h1.ex
     obtain⟨hfun,hc⟩:=hdx g (f n) H _ (hall n (Nat.lt_succ_self n))
     refine⟨by simp,_,_,_,_,ht,?_,CallsD.mono (hc w0 F0 ι w _ hinv hd) fun e u' w' he=>?_⟩
     ·rw[ht]
      simp only[invoke]
      rw[run_callFunc hfun]
      simp
     ·obtain⟨rfl,he⟩:=he
      cases e with
      |returned v=>
       obtain⟨a,H',ι',hK,_,hle',hinv'⟩:=he
       have hinv2:=hinv'.withD []
       rw[hK] at hinv2
       exact ih ds' (fun k hk=>hall k (Nat.lt_succ_of_lt hk)) (hs.mono hle') (Inj.le_trans hle hle') (fun t=>(hf t).mono hle') hinv2 (hr.mono hle')
      |panicked c=>exact he.elim
      |outgrown=>exact he.elim
   exact key n dn hall h1 hle hf hinv hr
theorem fin_ok {dx:CallX} (hdx:DxOk P dx) {fn:Func} {K:AVal->AHeap->Prop} {e:Exit} {a:Act} (h:PostE w0 F0 ι (finA P dx fn K) e a w):bodyPostD P fn (PostV w0 F0 ι K) e a w:=by
 cases e with
 |normal=>
  obtain⟨fr,H,ι',hK,hle,hf,hd,hinv⟩:=h
  exact leaves_ok hdx _ hK hd hle hf.t (hinv.withD _)
 |ret=>
  obtain⟨fr,H,ι',hK,hle,hf,hd,hinv⟩:=h
  exact leaves_ok hdx _ hK hd hle hf.t (hinv.withD _)
 |exit i=>
  obtain⟨fr,H,ι',hK,_⟩:=h
  exact hK.elim
 |goto l=>exact h.elim
 |panic c=>exact h.elim
 |outgrown=>exact h.elim
theorem leavesD_steps {fn:Func} {tmps:Array Value} {R:Ending->World->Prop}:∀(ds:List Deferred) (u:FrameMode) (w:World) (fr:Frame)
 (cs:List Frame),fr.mode=u->fr.defers=ds->fr.tmps=tmps->P.funcs[fr.fn]?=some fn->fr.kind=.deferred->Leaves P fn tmps R ds u w->
 ∃e w' fr',R e w'/\Comes P (lone fr cs w) (lone fr' cs w') e/\fr'.kind=.deferred/\fr'.going P w' e:=by
 intro ds
 induction ds with
 |nil=>
  intro u w fr cs hu hd ht hf hk h
  cases u with
  |run=>exact h.elim
  |returning=>
   obtain⟨v,hr,hR⟩:=h
   exact⟨.returned v,w,fr,hR,Steps.refl P _,hk,hu,hd,fn,hf,ht▸hr⟩
  |panicking chain=>exact⟨.panicked chain,w,fr,h,Steps.refl P _,hk,hu,hd,fn,hf⟩
 |cons d ds ih=>
  intro u w fr cs hu hd ht hf hk h
  obtain⟨hrun,fv,cap,f,args,htar,hinv,hcall⟩:=h
  have h1:=step_defer (cs:=cs) (hu▸hrun) hd htar hinv
  obtain⟨e,u',w',frX,hR,hsteps,hkX,hgo⟩:=hcall {fr with defers:=ds} cs hu
  cases e with
  |returned v=>
   have h2:=step_going_returned (c:={{fr with defers:=ds} with mode:=u'}) (cs:=cs) hkX hgo
   obtain⟨e',w'',fr',hR',hs',hk',hl'⟩:=ih (settle u') w' {{{fr with defers:=ds} with mode:=u'} with mode:=settle u'} cs rfl rfl ht hf hk hR
   exact⟨e',w'',fr',hR',Comes.of_steps (.head h1 (Steps.trans hsteps (.one h2))) hs',hk',hl'⟩
  |panicked chain=>
   have h2:=step_going_panicked (c:={{fr with defers:=ds} with mode:=u'}) (cs:=cs) hgo
   obtain⟨e',w'',fr',hR',hs',hk',hl'⟩:=ih (raised u' chain) w' {{{fr with defers:=ds} with mode:=u'} with mode:=raised u' chain} cs rfl rfl ht hf hk hR
   exact⟨e',w'',fr',hR',Comes.of_steps (.head h1 (Steps.trans hsteps (.one h2))) hs',hk',hl'⟩
  |outgrown=>exact⟨.outgrown,w',fr,hR,Outgrown.of_steps (.one h1) hsteps,hk,trivial⟩
theorem callsD_of_wp_defers {f:FuncId} {fn:Func} {c:Code} {args:Array Value} {u:FrameMode} {w:World} {R:Ending->World->Prop}
 (hf:P.funcs[f]?=some fn) (hb:fn.body=some c)
 (h:c.wp P (bodyPostD P fn R) {tmps:=args++Array.replicate (fn.ntmps-args.size) undef,defers:=[]} w):
 CallsD P f args u w fun e u' w'=>u'=u/\R e w':=by
 intro c₀ cs hu
 let b:Frame:={(default:Frame) with fn:=f,kind:=.deferred}
 have henter:Frame.enter P f args .deferred=
  b.at {tmps:=args++Array.replicate (fn.ntmps-args.size) undef,defers:=[]} [.code c]:=by
  simp[Frame.enter,Frame.at,hf,hb,b]
 have hc:({c₀ with mode:=u}:Frame)=c₀:=by subst hu;rfl
 obtain⟨e,a',w',hq,harr⟩:=h b [] (c₀::cs)
 rw[←henter] at harr
 cases e with
 |normal=>
  obtain⟨e',w'',fr',hR,hs,hk,hl⟩:=leavesD_steps a'.defers .returning w' {b.at a' [] with mode:=.returning} (c₀::cs) rfl rfl rfl hf rfl hq
  exact⟨e',u,w'',fr',⟨rfl,hR⟩,(by rw[hc];exact Comes.of_steps (Steps.trans harr (.one step_end)) hs),hk,hl⟩
 |ret=>
  obtain⟨todo,hs₀⟩:=harr
  obtain⟨e',w'',fr',hR,hs,hk,hl⟩:=leavesD_steps a'.defers .returning w' {b.at a' todo with mode:=.returning} (c₀::cs) rfl rfl rfl hf rfl hq
  exact⟨e',u,w'',fr',⟨rfl,hR⟩,(by rw[hc];exact Comes.of_steps hs₀ hs),hk,hl⟩
 |panic chain=>
  obtain⟨todo,hs₀⟩:=harr
  obtain⟨e',w'',fr',hR,hs,hk,hl⟩:=leavesD_steps a'.defers (.panicking chain) w' {b.at a' todo with mode:=.panicking chain} (c₀::cs) rfl rfl rfl hf rfl hq
  exact⟨e',u,w'',fr',⟨rfl,hR⟩,(by rw[hc];exact Comes.of_steps hs₀ hs),hk,hl⟩
 |exit id=>exact hq.elim
 |goto l=>exact hq.elim
 |outgrown=>exact⟨.outgrown,u,w',b,⟨rfl,hq⟩,harr.resolve_left (by simp[b]),rfl,trivial⟩
theorem fillT_get:∀(l:List AVal) (i:Nat) (T:Tr AVal) (j:Nat),(fillT l i T).get j=if i<=j/\j<i+l.length then l[j-i]? else T.get j
 |[],i,T,j=>by
  simp only[fillT,List.length_nil,Nat.add_zero]
  rw[if_neg (by omega)]
 |v::r,i,T,j=>by
  simp only[fillT,fillT_get r (Nat.succ i),Tr.get_set,List.length_cons]
  by_cases e:j=i
  ·subst e
   rw[if_neg (by omega),if_pos rfl,if_pos (by omega)]
   simp
  ·by_cases h:Nat.succ i<=j/\j<Nat.succ i+r.length
   ·rw[if_pos h,if_pos (by omega)]
    have:j-i=(j-Nat.succ i)+1:=by omega
    rw[this]
    simp
   ·rw[if_neg h,if_neg e,if_neg (by omega)]
theorem enter_rel {args:List AVal} {vs:List Value} {n:Nat} (hd:DenL ι args vs):
 FRel ι (mkFr n args) {tmps:=vs.toArray++Array.replicate (n-vs.toArray.size) undef,defers:=[]}:=by
 have hl:=hd.length
 refine⟨by simp[mkFr,hl],fun t=>?_⟩
 simp only[mkFr,fget,fillT_get,Tr.get_nil,Nat.zero_le,true_and,Nat.zero_add,Nat.sub_zero,Array.getD_eq_getD_getElem?]
 by_cases h:t<args.length
 ·rw[if_pos h]
  obtain⟨x,hx⟩:∃x,args[t]?=some x:=⟨args[t],List.getElem?_eq_getElem h⟩
  obtain⟨y,hy,hxy⟩:=DenL.get hd t hx
  have:(vs.toArray++Array.replicate (n-vs.toArray.size) undef)[t]?=some y:=by
   rw[Array.getElem?_append_left (by simp;omega)]
   simpa using hy
  rw[hx,this]
  exact hxy
 ·rw[if_neg h]
  have:(vs.toArray++Array.replicate (n-vs.toArray.size) undef)[t]?.getD undef=undef:=by
   rw[Array.getElem?_append_right (by simp;omega),Array.getElem?_replicate]
   split<;>rfl
  rw[this]
  exact .top
theorem acalls_of_body {dx:CallX} (hdx:DxOk P dx) {f:FuncId} {fn:Func} {b:Code} {args:List AVal} {K:AVal->AHeap->Prop} (hf:P.funcs[f]?=some fn) (hb:fn.body=some b) (hH:H.defs=[])
 (h:WPc P b (mkFr fn.ntmps args) H (finA P dx fn K)):ACalls P f args H K:=by
 intro w0 F0 ι w vs hi hd
 exact calls_of_wp_defers hf hb (Code.wp_mono (fun e a w hp=>fin_ok hdx hp) (h w0 F0 ι w _ hi (enter_rel hd) (by rw[hH];exact .nil)))
theorem acallsD_of_body {dx:CallX} (hdx:DxOk P dx) {f:FuncId} {fn:Func} {b:Code} {args:List AVal} {K:AVal->AHeap->Prop} (hf:P.funcs[f]?=some fn) (hb:fn.body=some b) (hH:H.defs=[])
 (h:WPc P b (mkFr fn.ntmps args) H (finA P dx fn K)):ACallsD P f args H K:=by
 intro w0 F0 ι w vs hi hd
 exact callsD_of_wp_defers hf hb (Code.wp_mono (fun e a w hp=>fin_ok hdx hp) (h w0 F0 ι w _ hi (enter_rel hd) (by rw[hH];exact .nil)))
def LvlOk (P:Program) (L:Lvl):Prop:=
 (∀{u:Bool} {root:Code} {p:List Nat} {c:Code} {fr:Fr} {H:AHeap} {K:AExit->Fr->AHeap->Prop},L.ex u root p c fr H K->c=sub root p->WPc P c fr H K)/\DxOk P L.dx
def WPin (P:Program) (x:Code) (fr:Fr) (H:AHeap) (K:AExit->Fr->AHeap->Prop):Prop:=
 ∀(w0:World) (F0:Fp) (ι:Inj) (w:World) (a:Act),Inv w0 F0 ι H w->FRel ι fr a->DRel ι H.defs a.defers->∀(b:Frame) (k:List Item) (cs:List Frame),
  ∃e a' w',PostE w0 F0 ι K e a' w'/\Arrives P (lone (b.at a (.code x:: .inLoop x::k)) cs w) b k cs e a' w'
theorem PostE.le {ι':Inj} {K:AExit->Fr->AHeap->Prop} {e:Exit} {a:Act} (h:PostE w0 F0 ι' K e a w) (hi:ι.le ι'):PostE w0 F0 ι K e a w:=by
 cases e<;>first|exact PostF.le h hi|exact h
theorem loop_key {ft:FuncId->Option Func} {T:Tabs} {root:Code} {p:List Nat} {x:Code} {K:AExit->Fr->AHeap->Prop} (n:Nat) (hn:∀m,m<=n->LvlOk P (lvl P ft T m)):
 ∀{fr:Fr} {H:AHeap},(lvl P ft T (n+1)).ex true root p (.loop x) fr H K->.loop x=sub root p->WPin P x fr H K:=by
 induction n with
 |zero=>intro fr H h hc;exact h.elim
 |succ n ih=>
  intro fr H h hc w0 F0 ι w a hi hf hd b k cs
  rw[lvl] at h
  simp only[exC,cond_true] at h
  obtain⟨e,a',w',hq,harr⟩:=(hn (n+1) (Nat.le_refl _)).1 h (by simp only[sub,←hc,kid]) w0 F0 ι w a hi hf hd b (.inLoop x::k) cs
  cases e with
  |normal=>
   obtain⟨fr',H',ι',hK,hle,hf',hd',hi'⟩:=hq
   obtain⟨e2,a2,w2,hq2,harr2⟩:=ih (fun m hm=>hn m (by omega)) hK hc w0 F0 ι' w' a' hi' hf' hd' b k cs
   exact⟨e2,a2,w2,hq2.le hle,.of_steps (Steps.trans harr (.one step_inLoop)) harr2⟩
  |exit i=>exact⟨.exit i,a',w',hq,.pass (x:=.inLoop x) rfl (fun _ _=>.inl (by simp)) harr⟩
  |ret=>exact⟨.ret,a',w',hq,.pass (x:=.inLoop x) rfl (fun _ _=>.inl (by simp)) harr⟩
  |goto l=>exact hq.elim
  |panic ch=>exact hq.elim
  |outgrown=>exact hq.elim
theorem callX_ok {ft:FuncId->Option Func} (hft:FtOk P ft) {L:Lvl} (hL:LvlOk P L) {f:FuncId} {args:List AVal} {H:AHeap} {K:AVal->AHeap->Prop} {fn:Func} {b:Code} (hfn:ft f=some fn) (hb:fn.body=some b)
 (h:runF P L fn b (mkFr fn.ntmps args) (H.withD []) K):FunOk P f/\ACalls P f args H K/\ACallsD P f args H K:=by
 obtain⟨h1,h2⟩:=hft f fn hfn
 have hw:=hL.1 h rfl
 refine⟨⟨fn,h1,by rw[hb];rfl,h2⟩,fun w0 F0 ι w vs hi hd=>acalls_of_body hL.2 h1 hb rfl hw w0 F0 ι w vs (hi.withD []) hd,fun w0 F0 ι w vs hi hd=>acallsD_of_body hL.2 h1 hb rfl hw w0 F0 ι w vs (hi.withD []) hd⟩
theorem lvl_ok {ft:FuncId->Option Func} {T:Tabs} (hft:FtOk P ft) (htab:TabOk P T):∀(n:Nat),LvlOk P (lvl P ft T n):=by
 intro n
 induction n using Nat.strongRecOn with
 |ind n ih0=>
 cases n with
 |zero=>exact⟨fun h=>h.elim,fun _ _ _ _ h=>h.elim⟩
 |succ n=>
  have hL:=ih0 n (Nat.lt_succ_self n)
  have ih:∀{u:Bool} {root:Code} {p:List Nat} {c:Code} {fr:Fr} {H:AHeap} {K:AExit->Fr->AHeap->Prop},(lvl P ft T n).ex u root p c fr H K->c=sub root p->WPc P c fr H K:=fun h hc=>hL.1 h hc
  replace ih0:∀m,m<=n->LvlOk P (lvl P ft T m):=fun m hm=>ih0 m (by omega)
  have hcx:CxOk P (callX ft T.c (runF P (lvl P ft T n))):=by
   intro f args H K hx
   unfold callX at hx
   split at hx
   ·rename_i s hs
    exact htab.c f s hs _ _ _ hx
   ·split at hx
    ·rename_i fn hfn
     split at hx
     ·rename_i b hb
      obtain⟨h1,h2,_⟩:=callX_ok hft hL hfn hb hx
      exact anext_of_calls h1 h2
     ·exact hx.elim
    ·exact hx.elim
  have hdx:DxOk P (callX ft T.d (runF P (lvl P ft T n))):=by
   intro f args H K hx
   unfold callX at hx
   split at hx
   ·rename_i s hs
    obtain⟨h1,h2⟩:=htab.d f s hs
    exact⟨h1,h2 _ _ _ hx⟩
   ·split at hx
    ·rename_i fn hfn
     split at hx
     ·rename_i b hb
      obtain⟨h1,_,h2⟩:=callX_ok hft hL hfn hb hx
      exact⟨h1,h2⟩
     ·exact hx.elim
    ·exact hx.elim
  refine⟨?_,hdx⟩
  intro u root p c fr H K h hc
  have h':exC P ft T (lvl P ft T n) u root p c fr H K:=h
  unfold exC at h'
  split at h'
  ·intro w0 F0 ι w a hi hf hd
   exact wp_skip ⟨fr,H,ι,h',Inj.le_refl _,hf,hd,hi⟩
  ·rename_i id ops
   intro w0 F0 ι w a hi hf hd
   refine wp_region_list ?_
   have hops:ops=ops.toList.toArray:=by simp
   rw[hops]
   exact reg_ok (K:=fun fr H=>K .normal fr H) hcx _ h' hi hf hd (fun a' w' hp=>hp)
  ·rename_i id ops
   intro w0 F0 ι w a hi hf hd
   exact regD_ok hcx (fun c a w hq=>hq) h' hi hf hd (fun a' w' hp=>hp)
  ·rename_i x y
   have hx:x=sub root (0::p):=by simp only[sub,←hc,kid]
   have hy:y=sub root (1::p):=by simp only[sub,←hc,kid]
   intro w0 F0 ι w a hi hf hd
   refine wp_seq (Code.wp_mono (fun e a' w' hp=>?_) (ih h' hx w0 F0 ι w a hi hf hd))
   cases e with
   |normal=>
    obtain⟨fr',H',ι',hK,hle,hf',hd',hi'⟩:=hp
    exact Code.wp_mono (fun e a w hp=>hp.le hle) (ih hK hy w0 F0 ι' w' a' hi' hf' hd')
   |exit i=>exact hp
   |ret=>exact hp
   |goto l=>exact hp
   |panic ch=>exact hp
   |outgrown=>exact hp
  ·rename_i c0 x y
   split at h'
   ·rename_i t ht
    intro w0 F0 ι w a hi hf hd
    have hev:=hf.eval c0
    rw[ht] at hev
    generalize hv:a.eval c0=v at hev
    cases hev with
    |lit=>
    have know:∀b,b=t->FRel ι (knowA fr c0 b) a:=by
     intro b hb
     subst hb
     cases c0 with
     |tmp d=>exact hf.know hv
     |const _=>exact hf
     |global _=>exact hf
     |func _=>exact hf
    rcases br_out h' with⟨rfl,h'⟩|⟨rfl,h'⟩
    ·exact wp_cond_true hv (ih h' (by simp only[sub,←hc,kid]) w0 F0 ι w a hi (know true rfl) hd)
    ·exact wp_cond_false hv (ih h' (by simp only[sub,←hc,kid]) w0 F0 ι w a hi (know false rfl) hd)
   ·exact h'.elim
  ·rename_i id x
   intro w0 F0 ι w a hi hf hd
   refine wp_block (Code.wp_mono (fun e a' w' hp=>?_) (ih h' (by simp only[sub,←hc,kid]) w0 F0 ι w a hi hf hd))
   cases e with
   |normal=>exact hp
   |exit i=>
    obtain⟨fr',H',ι',hK,hle,hf',hd',hi'⟩:=hp
    simp only[Exit.inBlock]
    by_cases hid:i=id
    ·subst hid
     rw[if_pos rfl]
     simp only[beq_self,cond_true] at hK
     exact⟨fr',H',ι',hK,hle,hf',hd',hi'⟩
    ·rw[if_neg hid]
     simp only[beq_false hid,cond_false] at hK
     exact⟨fr',H',ι',hK,hle,hf',hd',hi'⟩
   |ret=>exact hp
   |goto l=>exact hp
   |panic ch=>exact hp
   |outgrown=>exact hp
  ·rename_i x
   cases u with
   |false=>rw[hc];exact h'
   |true=>
    have hin:=loop_key n ih0 h hc
    intro w0 F0 ι w a hi hf hd b k cs
    obtain⟨e,a',w',hq,harr⟩:=hin w0 F0 ι w a hi hf hd b k cs
    exact⟨e,a',w',hq,.of_steps (.one step_loop) harr⟩
  ·intro w0 F0 ι w a hi hf hd
   exact wp_exit ⟨fr,H,ι,h',Inj.le_refl _,hf,hd,hi⟩
  ·intro w0 F0 ι w a hi hf hd
   exact wp_ret ⟨fr,H,ι,h',Inj.le_refl _,hf,hd,hi⟩
  ·intro w0 F0 ι w a hi hf hd
   exact wp_label ⟨fr,H,ι,h',Inj.le_refl _,hf,hd,hi⟩
  ·rename_i x
   intro w0 F0 ι w a hi hf hd
   refine wp_scope_straight (Code.wp_mono (fun e a' w' hp=>?_) (ih h' (by simp only[sub,←hc,kid]) w0 F0 ι w a hi hf hd))
   cases e<;>first|exact hp|exact hp.elim
  ·exact h'.elim
def runFn (P:Program) (ft:FuncId->Option Func) (T:Tabs) (n:Nat) (f:FuncId) (args:List AVal) (H:AHeap) (K:AVal->AHeap->Prop):Prop:=
 callX ft (fun _=>none) (runF P (lvl P ft T n)) f args H K
theorem runFn_ok {ft:FuncId->Option Func} {T:Tabs} (hft:FtOk P ft) (htab:TabOk P T) {n:Nat} {f:FuncId} {args:List AVal} {K:AVal->AHeap->Prop} (h:runFn P ft T n f args H K):ACalls P f args H K:=by
 unfold runFn callX at h
 simp only at h
 split at h
 ·rename_i fn hfn
  split at h
  ·rename_i b hb
   exact(callX_ok hft (lvl_ok hft htab n) hfn hb h).2.1
  ·exact h.elim
 ·exact h.elim
end
end Go.Sx
