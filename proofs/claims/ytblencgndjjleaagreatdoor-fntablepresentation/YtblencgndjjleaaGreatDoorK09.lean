/- Lemmas of this claim; the last text says what is proved. -/
import Derived.Test.YtblencgndjjleaaGreatDoorK08
import Derived.KernelRfl
import Derived.Recover
set_option linter.all false
namespace Go.Sx
open Go
variable [Syms]
section
variable {P:Program} {w0 w:World} {F0:Fp} {ι:Inj} {H:AHeap}
def PostE(w0:World)(F0:Fp)(ι:Inj)(K:AExit->Fr->AHeap->Prop):Exit->Act->World->Prop
 | .normal,a,w=>PostF w0 F0 ι (K .normal) a w
 | .exit i,a,w=>PostF w0 F0 ι (K (.exit i)) a w
 | .ret,a,w=>PostF w0 F0 ι (K .ret) a w
 |_,_,_=>False
def WPc(P:Program)(c:Code)(fr:Fr)(H:AHeap)(K:AExit->Fr->AHeap->Prop):Prop:=
 ∀(w0:World) (F0:Fp) (ι:Inj) (w:World) (a:Act),Inv w0 F0 ι H w->FRel ι fr a->DRel ι H.defs a.defers->c.wp P (PostE w0 F0 ι K) a w
def kid:Code->Nat->Code
 | .seq a _,0=>a
 | .seq _ b,_+1=>b
 | .cond _ a _,0=>a
 | .cond _ _ b,_+1=>b
 | .block _ b,_=>b
 | .loop b,_=>b
 | .scope b,_=>b
 |c,_=>c
def sub(root:Code):List Nat->Code
 |[]=>root
 |i::p=>kid (sub root p) i
def AtA(P:Program)(root:Code)(p:List Nat)(fr:Fr)(H:AHeap)(K:AExit->Fr->AHeap->Prop):Prop:=WPc P (sub root p) fr H K
abbrev Spec:=List AVal->AHeap->(AVal->AHeap->Prop)->Prop
def m_f:List AVal->Nat->Tr AVal->Tr AVal
 |[],_,T=>T
 |v::r,i,T=>m_f r (Nat.succ i) (T.set i (some v))
def p_Z(n:Nat)(args:List AVal):Fr:=⟨args.length+(n-args.length),m_f args 0 .nil⟩
def r_M:List AVal->AVal
 |[v]=>v
 |l=>.tup l
def k_v(P:Program)(fr:Fr)(H:AHeap):List ResultVar->(List AVal->Prop)->Prop
 |[],K=>K []
 | .tmp t::r,K=>k_v P fr H r (fun l=>K (i_U fr t::l))
 | .cell a t::r,K=>c_B P t (i_U fr a) H (fun v _=>k_v P fr H r (fun l=>K (v::l)))
def x_r(dx:b_5):List DItem->AHeap->(AHeap->Prop)->Prop
 |[],H,K=>K H
 | .one g as::r,H,K=>dx g as H (fun _ H'=>x_r dx r (H'.withD []) K)
 | .fam g f n::r,H,K=>(∀k,k<n->dx g (f k) H (fun _ H'=>H'.withD []=H))/\x_r dx r H K
def t_G(P:Program)(dx:b_5)(fn:Func)(K:AVal->AHeap->Prop):AExit->Fr->AHeap->Prop
 | .exit _,_,_=>False
 |_,fr,H=>x_r dx H.defs (H.withD []) (fun H'=>k_v P fr H' fn.results.toList (fun l=>K (r_M l) H'))
structure Tabs where
 c:FuncId->Option Spec
 d:FuncId->Option Spec
def f_e(ft:FuncId->Option Func)(tab:FuncId->Option Spec)(run:Func->Code->Fr->AHeap->(AVal->AHeap->Prop)->Prop):b_5:=fun f args H K=>match tab f with
 |some s=>s args H K
 |none=>match ft f with
  |some fn=>match fn.body with
   |some b=>run fn b (p_Z fn.ntmps args) (H.withD []) K
   |none=>False
  |none=>False
structure Lvl where
 ex:Bool->Code->List Nat->Code->Fr->AHeap->(AExit->Fr->AHeap->Prop)->Prop
 dx:b_5
def o_4(P:Program)(L:Lvl)(fn:Func)(b:Code)(fr:Fr)(H:AHeap)(K:AVal->AHeap->Prop):Prop:=L.ex true b [] b fr H (t_G P L.dx fn K)
def exC(P:Program)(ft:FuncId->Option Func)(T:Tabs)(L:Lvl)(u:Bool)(root:Code)(p:List Nat)(c:Code)(fr:Fr)(H:AHeap)(K:AExit->Fr->AHeap->Prop):Prop:=
    match c with
    | .skip=>K .normal fr H
    | .region _ ops false=>t_o P (f_e ft T.c (o_4 P L)) ops.toList ops.toList fr H (fun fr H=>K .normal fr H)
    | .region _ ops true=>x_U P (f_e ft T.c (o_4 P L)) ops fr H (fun fr H=>K .normal fr H)
    | .seq a b=>L.ex u root (0::p) a fr H (fun e fr H=>match e with
     | .normal=>L.ex u root (1::p) b fr H K
     |e=>K e fr H)
    | .cond c a b=>match eva fr c with
      | .lit (.bool t)=>br t (L.ex u root (0::p) a (k_u fr c true) H K) (L.ex u root (1::p) b (k_u fr c false) H K)
      |_=>False
    | .block id b=>L.ex u root (0::p) b fr H (fun e fr H=>match e with
     | .exit i=>cond (Nat.beq i id) (K .normal fr H) (K (.exit i) fr H)
     |e=>K e fr H)
    | .loop b=>cond u (L.ex u root (0::p) b fr H (fun e fr H=>match e with
     | .normal=>L.ex u root p (.loop b) fr H K
     |e=>K e fr H)) (AtA P root p fr H K)
    | .exit i=>K (.exit i) fr H
    | .ret=>K .ret fr H
    | .label _=>K .normal fr H
    | .scope b=>L.ex u root (0::p) b fr H K
    |_=>False
def lvl(P:Program)(ft:FuncId->Option Func)(T:Tabs):Nat->Lvl
 |0=>⟨fun _ _ _ _ _ _ _=>False,fun _ _ _ _=>False⟩
 |n+1=>⟨exC P ft T (lvl P ft T n),f_e ft T.d (o_4 P (lvl P ft T n))⟩
def ex(P:Program)(ft:FuncId->Option Func)(T:Tabs)(n:Nat):Bool->Code->List Nat->Code->Fr->AHeap->(AExit->Fr->AHeap->Prop)->Prop:=(lvl P ft T n).ex
def o_5(P:Program)(ft:FuncId->Option Func):Prop:=∀f fn,ft f=some fn->P.funcs[f]?=some fn/\(fn.name== "runtime.NumGoroutine")=false
def g_8(P:Program)(f:FuncId)(args:List AVal)(H:AHeap)(K:AVal->AHeap->Prop):Prop:=
 ∀(w0:World) (F0:Fp) (ι:Inj) (w:World) (vs:List Value),Inv w0 F0 ι H w->DenL ι args vs->CallsD P f vs.toArray .returning w (fun e u' w'=>u'=.returning/\d_M w0 F0 ι K e w')
def t_p(P:Program)(dx:b_5):Prop:=∀f args H K,dx f args H K->a_t P f/\g_8 P f args H K
def b_q(P:Program)(f:FuncId)(s:Spec):Prop:=∀args H K,s args H K->r_K P f args H K
def e_m(P:Program)(f:FuncId)(s:Spec):Prop:=a_t P f/\∀args H K,s args H K->g_8 P f args H K
structure TabOk (P:Program) (T:Tabs):Prop where
 c:∀f s,T.c f=some s->b_q P f s
 d:∀f s,T.d f=some s->e_m P f s
theorem r_N{fr:Fr}{tmps:Array Value}(hf:∀t,Den ι (i_U fr t) (tmps.getD t undef))(hi:Inv w0 F0 ι H w):∀(l:List ResultVar) {K:List AVal->Prop},k_v P fr H l K->
 ∃as vs,(l.mapM (fun| .tmp t=>pure (tmps.getD t undef)| .cell a t=>do loadVar t (←asAddr (tmps.getD a undef)):ResultVar->Sem Value)).run P w=.ok vs w/\DenL ι as vs/\K as:=by
 have hev:=hf
 intro l
 induction l with
 |nil=>intro K h;exact⟨[],[],rfl,.nil,h⟩
 |cons x r ih=>
  intro K h
  cases x with
  |tmp t=>
   obtain⟨as,vs,hrun,hd,hK⟩:=ih h
   exact⟨_,_,by simp only[List.mapM_cons,Sem.run_bind,Sem.run_pure,Result.andThen_ok,hrun],.cons (hev t) hd,hK⟩
  |cell a t=>
   simp only[k_v] at h
   obtain⟨x,y,hrun,hden,hK⟩:=c_M (P:=P) h hi (hev a)
   obtain⟨as,vs,hrun',hd,hK⟩:=ih hK
   have hl:=hrun w rfl
   have hl':(do loadVar t (←asAddr (tmps.getD a undef)):Sem Value).run P w=.ok y w:=by
    generalize tmps.getD a undef=v at hl
    cases v with
    |pointer o=>
     cases o with
     |some ad=>simpa[Instr.loadAt,Instr.sureAddr,asAddr] using hl
     |none=>simp[Instr.loadAt,Instr.sureAddr] at hl
    |_=>simp[Instr.loadAt,Instr.sureAddr] at hl
   refine⟨_,_,?_,.cons hden hd,hK⟩
   simp only[List.mapM_cons,Sem.run_bind] at hl'⊢
   rw[hl']
   simp only[Result.andThen_ok,hrun',Sem.run_pure]
theorem d_P{dx:b_5}(hdx:t_p P dx){fn:Func}{tmps:Array Value}{K:AVal->AHeap->Prop}{fr:Fr}:
 ∀(r:List DItem) {ds:List Deferred} {ι0 ι:Inj} {H:AHeap} {w:World},x_r dx r H (fun H'=>k_v P fr H' fn.results.toList (fun l=>K (r_M l) H'))->DRel ι r ds->ι0.le ι->(∀t,Den ι (i_U fr t) (tmps.getD t undef))->Inv w0 F0 ι H w->
  Leaves P fn tmps (d_M w0 F0 ι0 K) ds .returning w
 |[],_,ι0,ι,H,w,h,.nil,hle,hf,hinv=>by
  obtain⟨as,vs,hrun,hden,hK⟩:=r_N (P:=P) hf hinv _ h
  refine⟨if h:vs.toArray.size=1 then vs.toArray[0] else .tuple vs.toArray,?_,?_⟩
  ·have:(fn.results.mapM (fun| .tmp t=>pure (tmps.getD t undef)| .cell b t=>do loadVar t (←asAddr (tmps.getD b undef)):ResultVar->Sem Value)).run P w=.ok vs.toArray w:=by
    rw[Array.mapM_eq_mapM_toList]
    simp only[Sem.run_map,hrun,Result.andThen_ok]
   simp only[results,Sem.run_bind]
   refine(congrArg (fun r=>Result.andThen r _) this).trans ?_
   simp only[Result.andThen_ok,Sem.run_pure]
  ·refine⟨r_M as,H,ι,hK,?_,hle,hinv⟩
   cases hden with
   |nil=>exact .tup .nil
   |cons h1 h2=>
    cases h2 with
    |nil=>exact h1
    |cons h2 h3=>
     rw[dif_neg an]
     exact .tup (.cons h1 (.cons h2 h3))
 | .one g as::r,_,ι0,ι,H,w,h,.one (d:=d) h1 hr,hle,hf,hinv=>by
   obtain⟨cap,ht,hd⟩:=h1.ex
   obtain⟨hfun,hc⟩:=hdx g as H _ h
   refine⟨an,_,_,_,_,ht,?_,CallsD.mono (hc w0 F0 ι w _ hinv hd) fun e u' w' he=>?_⟩
   ·rw[ht]
    simp only[invoke]
    rw[c_6 hfun]
    simp
   ·obtain⟨rfl,he⟩:=he
    cases e with
    |returned v=>
     obtain⟨a,H',ι',hK,_,hle',hinv'⟩:=he
     exact d_P hdx r hK (hr.mono hle') (Inj.le_trans hle hle') (fun t=>(hf t).mono hle') (hinv'.withD _)
    |panicked c=>exact he.elim
    |outgrown=>exact he.elim
 | .fam g f n::r,_,ι0,ι,H,w,h,.fam (dn:=dn) h1 hr,hle,hf,hinv=>by
   obtain⟨hall,hrest⟩:=h
   have key:∀(n:Nat) (dn:List Deferred) {ι:Inj} {w:World},(∀k,k<n->dx g (f k) H (fun _ H'=>H'.withD []=H))->DFam ι g f n dn->ι0.le ι->(∀t,Den ι (i_U fr t) (tmps.getD t undef))->Inv w0 F0 ι H w->∀{ds:List Deferred},DRel ι r ds->Leaves P fn tmps (d_M w0 F0 ι0 K) (dn++ds) .returning w:=by
    intro n
    induction n with
    |zero=>
     intro dn ι w _ hd hle hf hinv ds hr
     cases hd
     exact d_P hdx r hrest hr hle hf hinv
    |succ n ih=>
     intro dn ι w hall hd hle hf hinv ds hr
     cases hd with
     |@succ _ d ds' h1 hs=>
     obtain⟨cap,ht,hd⟩:=h1.ex
     obtain⟨hfun,hc⟩:=hdx g (f n) H _ (hall n (Nat.lt_succ_self n))
     refine⟨an,_,_,_,_,ht,?_,CallsD.mono (hc w0 F0 ι w _ hinv hd) fun e u' w' he=>?_⟩
     ·rw[ht]
      simp only[invoke]
      rw[c_6 hfun]
      simp
     ·obtain⟨rfl,he⟩:=he
      cases e with
      |returned v=>
       obtain⟨a,H',ι',hK,_,hle',hinv'⟩:=he
       have hinv2:=hinv'.withD []
       rw[hK] at hinv2
       exact ih ds' (fun k hk=>hall k (Nat.lt_succ_of_lt hk)) (hs.mono hle') (Inj.le_trans hle hle') (fun t=>(hf t).mono hle') hinv2 (hr.mono hle')
      |panicked c=>exact he.elim
      |outgrown=>exact he.elim
   exact key n dn hall h1 hle hf hinv hr
theorem j_H{dx:b_5}(hdx:t_p P dx){fn:Func}{K:AVal->AHeap->Prop}{e:Exit}{a:Act}(h:PostE w0 F0 ι (t_G P dx fn K) e a w):bodyPostD P fn (d_M w0 F0 ι K) e a w:=by
 cases e with
 |normal=>
  obtain⟨fr,H,ι',hK,hle,hf,hd,hinv⟩:=h
  exact d_P hdx _ hK hd hle hf.t (hinv.withD _)
 |ret=>
  obtain⟨fr,H,ι',hK,hle,hf,hd,hinv⟩:=h
  exact d_P hdx _ hK hd hle hf.t (hinv.withD _)
 |exit i=>
  obtain⟨fr,H,ι',hK,_⟩:=h
  exact hK.elim
 |goto l=>exact h.elim
 |panic c=>exact h.elim
 |outgrown=>exact h.elim
theorem c_R{fn:Func}{tmps:Array Value}{R:Ending->World->Prop}:∀(ds:List Deferred) (u:FrameMode) (w:World) (fr:Frame)
 (cs:List Frame),fr.mode=u->fr.defers=ds->fr.tmps=tmps->P.funcs[fr.fn]?=some fn->fr.kind=.deferred->Leaves P fn tmps R ds u w->
 ∃e w' fr',R e w'/\Comes P (lone fr cs w) (lone fr' cs w') e/\fr'.kind=.deferred/\fr'.going P w' e:=by
 intro ds
 induction ds with
 |nil=>
  intro u w fr cs hu hd ht hf hk h
  cases u with
  |run=>exact h.elim
  |returning=>
   obtain⟨v,hr,hR⟩:=h
   exact⟨.returned v,w,fr,hR,Steps.refl P _,hk,hu,hd,fn,hf,ht▸hr⟩
  |panicking chain=>exact⟨.panicked chain,w,fr,h,Steps.refl P _,hk,hu,hd,fn,hf⟩
 |cons d ds ih=>
  intro u w fr cs hu hd ht hf hk h
  obtain⟨hrun,fv,cap,f,args,htar,hinv,hcall⟩:=h
  have h1:=step_defer (cs:=cs) (hu▸hrun) hd htar hinv
  obtain⟨e,u',w',frX,hR,hsteps,hkX,hgo⟩:=hcall {fr with defers:=ds} cs hu
  cases e with
  |returned v=>
   have h2:=step_going_returned (c:={{fr with defers:=ds} with mode:=u'}) (cs:=cs) hkX hgo
   obtain⟨e',w'',fr',hR',hs',hk',hl'⟩:=ih (settle u') w' {{{fr with defers:=ds} with mode:=u'} with mode:=settle u'} cs rfl rfl ht hf hk hR
   exact⟨e',w'',fr',hR',Comes.of_steps (.head h1 (Steps.trans hsteps (.one h2))) hs',hk',hl'⟩
  |panicked chain=>
   have h2:=step_going_panicked (c:={{fr with defers:=ds} with mode:=u'}) (cs:=cs) hgo
   obtain⟨e',w'',fr',hR',hs',hk',hl'⟩:=ih (raised u' chain) w' {{{fr with defers:=ds} with mode:=u'} with mode:=raised u' chain} cs rfl rfl ht hf hk hR
   exact⟨e',w'',fr',hR',Comes.of_steps (.head h1 (Steps.trans hsteps (.one h2))) hs',hk',hl'⟩
  |outgrown=>exact⟨.outgrown,w',fr,hR,Outgrown.of_steps (.one h1) hsteps,hk,trivial⟩
theorem c_a{f:FuncId}{fn:Func}{c:Code}{args:Array Value}{u:FrameMode}{w:World}{R:Ending->World->Prop}
 (hf:P.funcs[f]?=some fn) (hb:fn.body=some c)
 (h:c.wp P (bodyPostD P fn R) {tmps:=args++Array.replicate (fn.ntmps-args.size) undef,defers:=[]} w):
 CallsD P f args u w fun e u' w'=>u'=u/\R e w':=by
 intro c₀ cs hu
 let b:Frame:={(default:Frame) with fn:=f,kind:=.deferred}
 have henter:Frame.enter P f args .deferred=
  b.at {tmps:=args++Array.replicate (fn.ntmps-args.size) undef,defers:=[]} [.code c]:=by
  simp[Frame.enter,Frame.at,hf,hb,b]
 have hc:({c₀ with mode:=u}:Frame)=c₀:=by subst hu;rfl
 obtain⟨e,a',w',hq,harr⟩:=h b [] (c₀::cs)
 rw[←henter] at harr
 cases e with
 |normal=>
  obtain⟨e',w'',fr',hR,hs,hk,hl⟩:=c_R a'.defers .returning w' {b.at a' [] with mode:=.returning} (c₀::cs) rfl rfl rfl hf rfl hq
  exact⟨e',u,w'',fr',⟨rfl,hR⟩,(by rw[hc];exact Comes.of_steps (Steps.trans harr (.one step_end)) hs),hk,hl⟩
 |ret=>
  obtain⟨todo,hs₀⟩:=harr
  obtain⟨e',w'',fr',hR,hs,hk,hl⟩:=c_R a'.defers .returning w' {b.at a' todo with mode:=.returning} (c₀::cs) rfl rfl rfl hf rfl hq
  exact⟨e',u,w'',fr',⟨rfl,hR⟩,(by rw[hc];exact Comes.of_steps hs₀ hs),hk,hl⟩
 |panic chain=>
  obtain⟨todo,hs₀⟩:=harr
  obtain⟨e',w'',fr',hR,hs,hk,hl⟩:=c_R a'.defers (.panicking chain) w' {b.at a' todo with mode:=.panicking chain} (c₀::cs) rfl rfl rfl hf rfl hq
  exact⟨e',u,w'',fr',⟨rfl,hR⟩,(by rw[hc];exact Comes.of_steps hs₀ hs),hk,hl⟩
 |exit id=>exact hq.elim
 |goto l=>exact hq.elim
 |outgrown=>exact⟨.outgrown,u,w',b,⟨rfl,hq⟩,harr.resolve_left (by simp[b]),rfl,trivial⟩
theorem i_d:∀(l:List AVal) (i:Nat) (T:Tr AVal) (j:Nat),(m_f l i T).get j=if i<=j/\j<i+l.length then l[j-i]? else T.get j
 |[],i,T,j=>by
  simp only[m_f,List.length_nil,Nat.add_zero]
  rw[if_neg ac]
 |v::r,i,T,j=>by
  simp only[m_f,i_d r (Nat.succ i),Tr.get_set,List.length_cons]
  by_cases e:j=i
  ·subst e
   rw[if_neg ac,if_pos rfl,if_pos ac]
   simp
  ·by_cases h:Nat.succ i<=j/\j<Nat.succ i+r.length
   ·rw[if_pos h,if_pos ac]
    have:j-i=(j-Nat.succ i)+1:=ac
    rw[this]
    simp
   ·rw[if_neg h,if_neg e,if_neg ac]
theorem d_Q{args:List AVal}{vs:List Value}{n:Nat}(hd:DenL ι args vs):
 FRel ι (p_Z n args) {tmps:=vs.toArray++Array.replicate (n-vs.toArray.size) undef,defers:=[]}:=by
 have hl:=hd.length
 refine⟨by simp[p_Z,hl],fun t=>?_⟩
 simp only[p_Z,i_U,i_d,Tr.get_nil,Nat.zero_le,true_and,Nat.zero_add,Nat.sub_zero,Array.getD_eq_getD_getElem?]
 by_cases h:t<args.length
 ·rw[if_pos h]
  obtain⟨x,hx⟩:∃x,args[t]?=some x:=⟨args[t],List.getElem?_eq_getElem h⟩
  obtain⟨y,hy,hxy⟩:=DenL.get hd t hx
  have:(vs.toArray++Array.replicate (n-vs.toArray.size) undef)[t]?=some y:=by
   rw[Array.getElem?_append_left af]
   simpa using hy
  rw[hx,this]
  exact hxy
 ·rw[if_neg h]
  have:(vs.toArray++Array.replicate (n-vs.toArray.size) undef)[t]?.getD undef=undef:=by
   rw[Array.getElem?_append_right af,Array.getElem?_replicate]
   split<;>rfl
  rw[this]
  exact .top
theorem f_U{dx:b_5}(hdx:t_p P dx){f:FuncId}{fn:Func}{b:Code}{args:List AVal}{K:AVal->AHeap->Prop}(hf:P.funcs[f]?=some fn)(hb:fn.body=some b)(hH:H.defs=[])
 (h:WPc P b (p_Z fn.ntmps args) H (t_G P dx fn K)):l_7 P f args H K:=by
 intro w0 F0 ι w vs hi hd
 exact calls_of_wp_defers hf hb (Code.wp_mono (fun e a w hp=>j_H hdx hp) (h w0 F0 ι w _ hi (d_Q hd) (by rw[hH];exact .nil)))
theorem f_f{dx:b_5}(hdx:t_p P dx){f:FuncId}{fn:Func}{b:Code}{args:List AVal}{K:AVal->AHeap->Prop}(hf:P.funcs[f]?=some fn)(hb:fn.body=some b)(hH:H.defs=[])
 (h:WPc P b (p_Z fn.ntmps args) H (t_G P dx fn K)):g_8 P f args H K:=by
 intro w0 F0 ι w vs hi hd
 exact c_a hf hb (Code.wp_mono (fun e a w hp=>j_H hdx hp) (h w0 F0 ι w _ hi (d_Q hd) (by rw[hH];exact .nil)))
def o_6(P:Program)(L:Lvl):Prop:=
 (∀{u:Bool} {root:Code} {p:List Nat} {c:Code} {fr:Fr} {H:AHeap} {K:AExit->Fr->AHeap->Prop},L.ex u root p c fr H K->c=sub root p->WPc P c fr H K)/\t_p P L.dx
def G_V(P:Program)(x:Code)(fr:Fr)(H:AHeap)(K:AExit->Fr->AHeap->Prop):Prop:=
 ∀(w0:World) (F0:Fp) (ι:Inj) (w:World) (a:Act),Inv w0 F0 ι H w->FRel ι fr a->DRel ι H.defs a.defers->∀(b:Frame) (k:List Item) (cs:List Frame),
  ∃e a' w',PostE w0 F0 ι K e a' w'/\Arrives P (lone (b.at a (.code x:: .inLoop x::k)) cs w) b k cs e a' w'
theorem PostE.le{ι':Inj}{K:AExit->Fr->AHeap->Prop}{e:Exit}{a:Act}(h:PostE w0 F0 ι' K e a w)(hi:ι.le ι'):PostE w0 F0 ι K e a w:=by
 cases e<;>first|exact PostF.le h hi|exact h
theorem o_7{ft:FuncId->Option Func}{T:Tabs}{root:Code}{p:List Nat}{x:Code}{K:AExit->Fr->AHeap->Prop}(n:Nat)(hn:∀m,m<=n->o_6 P (lvl P ft T m)):
 ∀{fr:Fr} {H:AHeap},(lvl P ft T (n+1)).ex true root p (.loop x) fr H K->.loop x=sub root p->G_V P x fr H K:=by
 induction n with
 |zero=>intro fr H h hc;exact h.elim
 |succ n ih=>
  intro fr H h hc w0 F0 ι w a hi hf hd b k cs
  rw[lvl] at h
  simp only[exC,cond_true] at h
  obtain⟨e,a',w',hq,harr⟩:=(hn (n+1) (Nat.le_refl _)).1 h ax w0 F0 ι w a hi hf hd b (.inLoop x::k) cs
  cases e with
  |normal=>
   obtain⟨fr',H',ι',hK,hle,hf',hd',hi'⟩:=hq
   obtain⟨e2,a2,w2,hq2,harr2⟩:=ih (fun m hm=>hn m ac) hK hc w0 F0 ι' w' a' hi' hf' hd' b k cs
   exact⟨e2,a2,w2,hq2.le hle,.of_steps (Steps.trans harr (.one step_inLoop)) harr2⟩
  |exit i=>exact⟨.exit i,a',w',hq,.pass (x:=.inLoop x) rfl (fun _ _=>.inl an) harr⟩
  |ret=>exact⟨.ret,a',w',hq,.pass (x:=.inLoop x) rfl (fun _ _=>.inl an) harr⟩
  |goto l=>exact hq.elim
  |panic ch=>exact hq.elim
  |outgrown=>exact hq.elim
theorem g_9{ft:FuncId->Option Func}(hft:o_5 P ft){L:Lvl}(hL:o_6 P L){f:FuncId}{args:List AVal}{H:AHeap}{K:AVal->AHeap->Prop}{fn:Func}{b:Code}(hfn:ft f=some fn)(hb:fn.body=some b)
 (h:o_4 P L fn b (p_Z fn.ntmps args) (H.withD []) K):a_t P f/\l_7 P f args H K/\g_8 P f args H K:=by
 obtain⟨h1,h2⟩:=hft f fn hfn
 have hw:=hL.1 h rfl
 refine⟨⟨fn,h1,by rw[hb];rfl,h2⟩,fun w0 F0 ι w vs hi hd=>f_U hL.2 h1 hb rfl hw w0 F0 ι w vs (hi.withD []) hd,fun w0 F0 ι w vs hi hd=>f_f hL.2 h1 hb rfl hw w0 F0 ι w vs (hi.withD []) hd⟩
theorem m_g{ft:FuncId->Option Func}{T:Tabs}(hft:o_5 P ft)(htab:TabOk P T):∀(n:Nat),o_6 P (lvl P ft T n):=by
 intro n
 induction n using Nat.strongRecOn with
 |ind n ih0=>
 cases n with
 |zero=>exact⟨fun h=>h.elim,fun _ _ _ _ h=>h.elim⟩
 |succ n=>
  have hL:=ih0 n (Nat.lt_succ_self n)
  have ih:∀{u:Bool} {root:Code} {p:List Nat} {c:Code} {fr:Fr} {H:AHeap} {K:AExit->Fr->AHeap->Prop},(lvl P ft T n).ex u root p c fr H K->c=sub root p->WPc P c fr H K:=fun h hc=>hL.1 h hc
  replace ih0:∀m,m<=n->o_6 P (lvl P ft T m):=fun m hm=>ih0 m ac
  have hcx:o_G P (f_e ft T.c (o_4 P (lvl P ft T n))):=by
   intro f args H K hx
   unfold f_e at hx
   split at hx
   ·rename_i s hs
    exact htab.c f s hs _ _ _ hx
   ·split at hx
    ·rename_i fn hfn
     split at hx
     ·rename_i b hb
      obtain⟨h1,h2,_⟩:=g_9 hft hL hfn hb hx
      exact b_p h1 h2
     ·exact hx.elim
    ·exact hx.elim
  have hdx:t_p P (f_e ft T.d (o_4 P (lvl P ft T n))):=by
   intro f args H K hx
   unfold f_e at hx
   split at hx
   ·rename_i s hs
    obtain⟨h1,h2⟩:=htab.d f s hs
    exact⟨h1,h2 _ _ _ hx⟩
   ·split at hx
    ·rename_i fn hfn
     split at hx
     ·rename_i b hb
      obtain⟨h1,_,h2⟩:=g_9 hft hL hfn hb hx
      exact⟨h1,h2⟩
     ·exact hx.elim
    ·exact hx.elim
  refine⟨?_,hdx⟩
  intro u root p c fr H K h hc
  have h':exC P ft T (lvl P ft T n) u root p c fr H K:=h
  unfold exC at h'
  split at h'
  ·intro w0 F0 ι w a hi hf hd
   exact wp_skip ⟨fr,H,ι,h',Inj.le_refl _,hf,hd,hi⟩
  ·rename_i id ops
   intro w0 F0 ι w a hi hf hd
   refine wp_region_list ?_
   have hops:ops=ops.toList.toArray:=an
   rw[hops]
   exact p_Y (K:=fun fr H=>K .normal fr H) hcx _ h' hi hf hd (fun a' w' hp=>hp)
  ·rename_i id ops
   intro w0 F0 ι w a hi hf hd
   exact m_e hcx (fun c a w hq=>hq) h' hi hf hd (fun a' w' hp=>hp)
  ·rename_i x y
   have hx:x=sub root (0::p):=ax
   have hy:y=sub root (1::p):=ax
   intro w0 F0 ι w a hi hf hd
   refine wp_seq (Code.wp_mono (fun e a' w' hp=>?_) (ih h' hx w0 F0 ι w a hi hf hd))
   cases e with
   |normal=>
    obtain⟨fr',H',ι',hK,hle,hf',hd',hi'⟩:=hp
    exact Code.wp_mono (fun e a w hp=>hp.le hle) (ih hK hy w0 F0 ι' w' a' hi' hf' hd')
   |exit i=>exact hp
   |ret=>exact hp
   |goto l=>exact hp
   |panic ch=>exact hp
   |outgrown=>exact hp
  ·rename_i c0 x y
   split at h'
   ·rename_i t ht
    intro w0 F0 ι w a hi hf hd
    have hev:=hf.eval c0
    rw[ht] at hev
    generalize hv:a.eval c0=v at hev
    cases hev with
    |lit=>
    have know:∀b,b=t->FRel ι (k_u fr c0 b) a:=by
     intro b hb
     subst hb
     cases c0 with
     |tmp d=>exact hf.know hv
     |const _=>exact hf
     |global _=>exact hf
     |func _=>exact hf
    rcases a_4 h' with⟨rfl,h'⟩|⟨rfl,h'⟩
    ·exact wp_cond_true hv (ih h' ax w0 F0 ι w a hi (know true rfl) hd)
    ·exact wp_cond_false hv (ih h' ax w0 F0 ι w a hi (know false rfl) hd)
   ·exact h'.elim
  ·rename_i id x
   intro w0 F0 ι w a hi hf hd
   refine wp_block (Code.wp_mono (fun e a' w' hp=>?_) (ih h' ax w0 F0 ι w a hi hf hd))
   cases e with
   |normal=>exact hp
   |exit i=>
    obtain⟨fr',H',ι',hK,hle,hf',hd',hi'⟩:=hp
    simp only[Exit.inBlock]
    by_cases hid:i=id
    ·subst hid
     rw[if_pos rfl]
     simp only[beq_self,cond_true] at hK
     exact⟨fr',H',ι',hK,hle,hf',hd',hi'⟩
    ·rw[if_neg hid]
     simp only[b_b hid,cond_false] at hK
     exact⟨fr',H',ι',hK,hle,hf',hd',hi'⟩
   |ret=>exact hp
   |goto l=>exact hp
   |panic ch=>exact hp
   |outgrown=>exact hp
  ·rename_i x
   cases u with
   |false=>rw[hc];exact h'
   |true=>
    have hin:=o_7 n ih0 h hc
    intro w0 F0 ι w a hi hf hd b k cs
    obtain⟨e,a',w',hq,harr⟩:=hin w0 F0 ι w a hi hf hd b k cs
    exact⟨e,a',w',hq,.of_steps (.one step_loop) harr⟩
  ·intro w0 F0 ι w a hi hf hd
   exact wp_exit ⟨fr,H,ι,h',Inj.le_refl _,hf,hd,hi⟩
  ·intro w0 F0 ι w a hi hf hd
   exact wp_ret ⟨fr,H,ι,h',Inj.le_refl _,hf,hd,hi⟩
  ·intro w0 F0 ι w a hi hf hd
   exact wp_label ⟨fr,H,ι,h',Inj.le_refl _,hf,hd,hi⟩
  ·rename_i x
   intro w0 F0 ι w a hi hf hd
   refine wp_scope_straight (Code.wp_mono (fun e a' w' hp=>?_) (ih h' ax w0 F0 ι w a hi hf hd))
   cases e<;>first|exact hp|exact hp.elim
  ·exact h'.elim
end
end Go.Sx
namespace Go.Sx
open Go
variable [Syms]
section
variable {P:Program} {w0 w:World} {F0:Fp} {ι:Inj} {H:AHeap}
structure ExtOk (P:Program) (f:FuncId) (e:Array Value->Sem Value):Prop where
 ex:∃fn,P.funcs[f]?=some fn/\fn.body.isNone=true/\(fn.name== "runtime.NumGoroutine")=false/\Extern.findNext fn=none/\Extern.find fn=some e
theorem d_f{f:FuncId}{e:Array Value->Sem Value}(h:ExtOk P f e)(args:Array Value):(callFunc f args).run P w=(do pure (.value (←e args)):Sem Next).run P w:=by
 obtain⟨fn,hf,hb,hn,h1,h2⟩:=h.ex
 simp only[callFunc,Sem.run_bind,run_program,Result.andThen_ok,hf]
 rw[if_neg (by rw[hn];simp),if_pos hb]
 simp only[h1,h2,Sem.run_bind,mark]
 rfl
theorem d_R{t:TypeId}{d:TypeDesc}(h:P.underlying t=some d):∃u i,(Extern.Rtype.under t).run P w=.ok (u,i) w/\i.desc=d:=by
 unfold Program.underlying at h
 cases hi:P.info? t with
 |none=>rw[hi] at h;cases h
 |some i=>
  rw[hi] at h
  obtain⟨desc,str,size,bytes,hp,al,fal,zero,cmp,ms⟩:=i
  cases desc
  case named n u=>
   simp only[Option.map_eq_some_iff] at h
   obtain⟨j,hj,hd⟩:=h
   refine⟨u,j,?_,hd⟩
   simp only[Extern.Rtype.under,Sem.run_bind,a_u hi,Result.andThen_ok,a_u hj,Sem.run_pure]
  all_goals
   cases h
   refine⟨t,_,?_,rfl⟩
   simp only[Extern.Rtype.under,Sem.run_bind,a_u hi,Result.andThen_ok,Sem.run_pure]
theorem f_V{t e:TypeId}(h:P.underlying t=some (.slice e)):(Extern.Rtype.kind t).run P w=.ok 23 w:=by
 obtain⟨u,i,hr,hd⟩:=d_R (w:=w) h
 simp only[Extern.Rtype.kind,Sem.run_bind,hr,Result.andThen_ok,hd,Sem.run_pure]
theorem f_g{t:TypeId}{fs:Array Field}(h:P.underlying t=some (.struct fs)):(Extern.Rtype.kind t).run P w=.ok 25 w:=by
 obtain⟨u,i,hr,hd⟩:=d_R (w:=w) h
 simp only[Extern.Rtype.kind,Sem.run_bind,hr,Result.andThen_ok,hd,Sem.run_pure]
theorem o_8{t e:TypeId}(h:P.underlying t=some (.slice e)):(Extern.Rtype.elem? t).run P w=.ok (some e) w:=by
 obtain⟨u,i,hr,hd⟩:=d_R (w:=w) h
 simp only[Extern.Rtype.elem?,Sem.run_bind,hr,Result.andThen_ok,hd,Sem.run_pure]
def e_J:Array Value->Sem Value:=fun args=>Extern.ReflectliteValue.unpack (args.getD 0 (.tuple #[]))
def e_K(P:Program):Spec:=fun args H K=>match args with
 |[.ifc t v]=>match P.underlying t with
  |some (.slice _)=>gd (nt v) (K (.agg [.lit (typeHandle P t),.ptr H.next 0,.lit (.int .u64 (Int.ofNat 151))]) (H.new (.row v.cells t (.n v.cells.length))))
  |_=>False
 |_=>False
theorem k_w{f:FuncId}(h:ExtOk P f e_J):b_q P f (e_K P):=by
 intro args H K hs w0 F0 ι w vs hi hd
 unfold e_K at hs
 split at hs
 ·rename_i t v
  cases hd with
  |cons h1 h2=>
  cases h2
  cases h1 with
  |@ifc _ _ x hx=>
  split at hs
  ·rename_i e hu
   obtain⟨hnt,hs⟩:=a_h hs
   rw[d_f h]
   obtain⟨ι',hle,hn,hinv⟩:=hi.new (b:=.row v.cells t (.n v.cells.length)) (o:=.cells x.cells t (0,0)) (row_den (by simpa using hx.cells hnt))
   have hrun:(e_J [Value.iface t x].toArray).run P w=.ok (.agg #[typeHandle P t,.pointer (some ⟨w.heap.size,0,none⟩),.int .u64 (Int.ofNat 151)]) {w with heap:=w.heap.push (.cells x.cells t (0,0))}:=by
    have e0:([Value.iface t x].toArray).getD 0 (.tuple #[])=.iface t x:=rfl
    simp only[e_J,e0,Extern.ReflectliteValue.unpack,Sem.run_bind,newVar,b_d,Result.andThen_ok,Extern.ReflectliteValue.mk,Extern.Rtype.handle,run_program,Sem.run_pure,f_V hu]
    rfl
   refine a_n ?_
   rw[hrun]
   refine⟨_,_,ι',hs,?_,hle,hinv⟩
   exact .agg (.cons .lit (.cons (.ptr hn) (.cons .lit .nil)))
  ·exact hs.elim
 ·exact hs.elim
def x_s:Array Value->Sem Value:=Extern.ReflectliteValue.method (Extern.ReflectliteValue.valueError "reflectlite.Value.Len" 0) Extern.ReflectliteValue.len
def o_9(P:Program):Spec:=fun args H K=>match args with
 |[.agg [.lit h,.ptr id off,.lit (.int .u64 n)]]=>match handleType P h with
  |some t=>match P.underlying t with
   |some (.slice _)=>gd (decide (n=151)&& !P.packed t) (c_B P t (.ptr id off) H (fun v H=>match v with
    | .slc _ _ n _=>K (.lit (.int .i64 n)) H
    | .lit (.slice none n _)=>K (.lit (.int .i64 n)) H
    |_=>False))
   |_=>False
  |none=>False
 |_=>False
theorem r_O{f:FuncId}(h:ExtOk P f x_s):b_q P f (o_9 P):=by
 intro args H K hs w0 F0 ι w vs hi hd
 unfold o_9 at hs
 split at hs
 ·rename_i hh id off n
  cases hd with
  |cons h1 h2=>
  cases h2
  cases h1 with
  |agg h1=>
  cases h1 with
  |cons ha hb=>
  cases ha
  cases hb with
  |cons hb hc=>
  cases hc with
  |cons hc hd=>
  cases hd
  cases hc
  split at hs
  ·rename_i t ht
   split at hs
   ·rename_i e hu
    obtain⟨hcc,hs2⟩:=a_h hs
    clear hs
    simp only[Bool.and_eq_true,decide_eq_true_eq,Bool.not_eq_true'] at hcc
    obtain⟨rfl,hp⟩:=hcc
    rw[d_f h]
    cases hb with
    |ptr hr=>
    rename_i r
    obtain⟨x,y,hrun,hden,hK⟩:=c_M (P:=P) hs2 hi (.ptr hr)
    have hl:=hrun w rfl
    have hl':(loadVar t ⟨r,off,none⟩).run P w=.ok y w:=bx
    obtain⟨u,i,hru,hdesc⟩:=d_R (w:=w) hu
    have hlen:∀m:Nat,(Builtin.len_ #[t] 0 #[y]).run P w=.ok (.int .i64 m) w->(x_s [Value.agg [hh,.pointer (some ⟨r,off,none⟩),.int .u64 151].toArray].toArray).run P w=.ok (.int .i64 m) w:=by
     intro m hm
     have e1:x_s [Value.agg [hh,.pointer (some ⟨r,off,none⟩),.int .u64 151].toArray].toArray=(do
      match ←Extern.ReflectliteValue.parts (.agg [hh,.pointer (some ⟨r,off,none⟩),.int .u64 151].toArray) with
      |none=>Extern.ReflectliteValue.valueError "reflectlite.Value.Len" 0
      |some (t,a,fl)=>Extern.ReflectliteValue.len t a fl (fl % 32)):=rfl
     have e2:Extern.ReflectliteValue.partsAny (.agg [hh,.pointer (some ⟨r,off,none⟩),.int .u64 151].toArray)=(do pure (some (←Extern.Rtype.ofHandle hh,⟨r,off,none⟩,151))):=rfl
     have e3:(Extern.Rtype.ofHandle hh).run P w=.ok t w:=by
      simp only[Extern.Rtype.ofHandle,Sem.run_bind,run_program,Result.andThen_ok,ht,Sem.run_pure]
     have e4:∀s,(Extern.Rtype.noPack s t).run P w=.ok () w:=fun s=>by
      simp only[Extern.Rtype.noPack,Sem.run_bind,run_program,Result.andThen_ok,hp,Bool.false_eq_true,if_false,Sem.run_pure]
     have e5:(Extern.ReflectliteValue.len t ⟨r,off,none⟩ 151 (151 % 32)).run P w=.ok (.int .i64 m) w:=by
      have:(!([17,18,21,23,24]:List Nat).contains (151 % 32))=false:=ar
      simp only[Extern.ReflectliteValue.len,this,Bool.false_eq_true,if_false,Sem.run_bind,Sem.run_pure,Result.andThen_ok,hru,hdesc,hl',hm]
     rw[e1]
     simp only[Sem.run_bind,Extern.ReflectliteValue.parts,e2,e3,Result.andThen_ok,Sem.run_pure,e4,e5]
    split at hK
    ·rename_i id' off' m cap
     cases hden with
     |slc a b c d=>
     refine a_n ?_
     rw[hlen m (by simp[Builtin.len_,a_a hu,goInt])]
     exact⟨_,_,ι,hK,.lit,Inj.le_refl _,hi⟩
    ·cases hden
     rename_i m c
     refine a_n ?_
     rw[hlen m (by simp[Builtin.len_,a_a hu,goInt])]
     exact⟨_,_,ι,hK,.lit,Inj.le_refl _,hi⟩
    ·exact hK.elim
   ·exact hs.elim
  ·exact hs.elim
 ·exact hs.elim
def e_L:Array Value->Sem Value:=Extern.ReflectliteSwapper.swapper "internal/reflectlite" (Extern.ReflectliteValue.valueError "Swapper")
def G_D(P:Program)(sw:Nat->FuncId):Prop:=∀k,k=1\/k=2\/k=9->P.funcs.findIdx? (·.name== "internal/reflectlite" ++ ".Swapper$" ++toString k)=some (sw k)
def e_M(P:Program)(sw:Nat->FuncId):Spec:=fun args H K=>match args with
 |[.ifc t s]=>match P.underlying t with
  |some (.slice e)=>match P.info? e,P.underlying e with
   |some i,some (.struct _)=>match s with
    | .lit (.slice none 0 0)=>K (.fn (.func (sw 1)) [] []) H
    | .slc id off n cap=>match n with
      |0=>K (.fn (.func (sw 1)) [] []) H
      |1=>K (.fn (.func (sw 2)) [] []) H
      |n+2=>gd (i.hasPointers&& !(i.bytes==8)) (K (.fn (.func (sw 9)) [] [.slc id off (n+2) cap,.lit (typeHandle P e)]) H)
    |_=>False
   |_,_=>False
  |_=>False
 |_=>False
theorem k_x{f:FuncId}{sw:Nat->FuncId}(h:ExtOk P f e_L)(hsw:G_D P sw):b_q P f (e_M P sw):=by
 intro args H K hs w0 F0 ι w vs hi hd
 unfold e_M at hs
 split at hs
 ·rename_i t s
  cases hd with
  |cons h1 h2=>
  cases h2
  cases h1 with
  |@ifc _ _ x hx=>
  split at hs
  ·rename_i e hu
   split at hs
   ·rename_i i fs hinf hue
    rw[d_f h]
    have main:∀(b:Option Addr) (n c k:Nat) (bound:Array Value),x=.slice b n c->
     (if n==0 then 1 else if n==1 then 2 else if i.hasPointers&&i.bytes==8 then 3 else if i.hasPointers&&(25:Nat)==24 then 4 else if i.hasPointers then 9 else match i.bytes with|8=>5|4=>6|2=>7|1=>8|_=>9:Nat)=k->
     (k=1\/k=2\/k=9)->(if k<=2 then#[] else#[Value.slice b n c,typeHandle P e])=bound->
     (e_L [Value.iface t x].toArray).run P w=.ok (.func (.func (sw k)) #[] bound) w:=by
     intro b n c k bound hxe hk hk3 hb
     subst hxe
     have e1:e_L [Value.iface t (.slice b n c)].toArray=(do
      let (.slice _ n _,some e):=(Value.slice b n c,←Extern.Rtype.elem? t)|Extern.ReflectliteValue.valueError "Swapper" (←Extern.Rtype.kind t)
      let i←typeInfo e
      let isString:=(←Extern.Rtype.kind e)==24
      let k:Nat:=
       if n==0 then 1 else if n==1 then 2
       else if i.hasPointers&&i.bytes==8 then 3
       else if i.hasPointers&&isString then 4
       else if i.hasPointers then 9
       else match i.bytes with|8=>5|4=>6|2=>7|1=>8|_=>9
      let h←Extern.Rtype.handle e
      Extern.ReflectliteSwapper.literal "internal/reflectlite" k (if k<=2 then#[] else#[Value.slice b n c,h])):=aa
     rw[e1]
     simp only[Sem.run_bind,o_8 hu,Result.andThen_ok,a_u hinf,f_g hue,Extern.Rtype.handle,run_program,Sem.run_pure]
     rw[hk,hb]
     simp only[Extern.ReflectliteSwapper.literal,Sem.run_bind,run_program,Result.andThen_ok,hsw k hk3,Sem.run_pure]
    split at hs
    ·cases hx
     refine a_n ?_
     rw[main none 0 0 1 #[] rfl rfl (.inl rfl) rfl]
     exact⟨_,_,ι,hs,.fn .nil .nil,Inj.le_refl _,hi⟩
    ·rename_i id off n cap
     cases hx with
     |slc hr hl ho hc=>
     rename_i off' r c
     split at hs
     ·refine a_n ?_
      rw[main _ 0 c 1 #[] rfl rfl (.inl rfl) rfl]
      exact⟨_,_,ι,hs,.fn .nil .nil,Inj.le_refl _,hi⟩
     ·refine a_n ?_
      rw[main _ 1 c 2 #[] rfl rfl (.inr (.inl rfl)) rfl]
      exact⟨_,_,ι,hs,.fn .nil .nil,Inj.le_refl _,hi⟩
     ·rename_i n
      obtain⟨hg,hs⟩:=a_h hs
      simp only[Bool.and_eq_true,Bool.not_eq_true'] at hg
      obtain⟨hp,hb8⟩:=hg
      refine a_n ?_
      rw[main _ (n+2) c 9 #[Value.slice (some ⟨r,off',none⟩) (n+2) c,typeHandle P e] rfl (by
       simp only[hp,hb8,Bool.true_and,Bool.false_eq_true,if_false,if_true]
       simp) (.inr (.inr rfl)) rfl]
      exact⟨_,_,ι,hs,.fn .nil (.cons (.slc hr hl ho hc) (.cons .lit .nil)),Inj.le_refl _,hi⟩
    ·exact hs.elim
   ·exact hs.elim
  ·exact hs.elim
 ·exact hs.elim
def r_P:Array Value->Sem Value:=Extern.ReflectliteSwapper.swap false
def p_a(P:Program):Spec:=fun args H K=>match args with
 |[.lit (.int .i64 i),.lit (.int .i64 j),.slc id off n _,.lit h]=>match handleType P h with
  |some e=>match szA P e with
   |some sz=>gd (decide (0<=i)&&decide (i<(n:Int))&&(decide (0<=j)&&decide (j<(n:Int))))
    (c_B P e (.ptr id (off+i.toNat*sz)) H (fun x _=>c_B P e (.ptr id (off+j.toNat*sz)) H (fun y _=>
     f_X P e (.ptr id (off+i.toNat*sz)) y H (fun H1=>f_X P e (.ptr id (off+j.toNat*sz)) x H1 (fun H2=>K d_r H2)))))
   |none=>False
  |none=>False
 |_=>False
theorem r_Q{f:FuncId}(h:ExtOk P f r_P):b_q P f (p_a P):=by
 intro args H K hs w0 F0 ι w vs hi hd
 unfold p_a at hs
 split at hs
 ·rename_i i j id off n cap hh
  cases hd with
  |cons h1 hd=>
  cases h1
  cases hd with
  |cons h1 hd=>
  cases h1
  cases hd with
  |cons hsl hd=>
  cases hd with
  |cons h1 hd=>
  cases h1
  cases hd
  cases hsl with
  |slc hr hl ho hc=>
  rename_i off' r c
  split at hs
  ·rename_i e he
   split at hs
   ·rename_i sz hsz
    obtain⟨hg,hs⟩:=a_h hs
    simp only[Bool.and_eq_true,decide_eq_true_eq] at hg
    obtain⟨⟨hi0,hin⟩,hj0,hjn⟩:=hg
    have ho':off'=off:=by
     rcases ho with ho|ho
     ·exact ho
     ·omega
    subst ho'
    rw[d_f h]
    have ld:∀{k:Nat} {v:Value} {w:World},(Instr.loadAt e (.pointer (some ⟨r,k,none⟩))).run P w=.ok v w->(loadVar e ⟨r,k,none⟩).run P w=.ok v w:=fun hl=>bx
    have st:∀{k:Nat} {v:Value} {w:World},(Instr.storeAt e (.pointer (some ⟨r,k,none⟩)) v).run P w=(storeVar e ⟨r,k,none⟩ v).run P w:=fun{k v w}=>by simp[Instr.storeAt,Instr.sureAddr]
    obtain⟨x,xv,hxr,hxd,hs⟩:=c_M (P:=P) hs hi (.ptr hr)
    obtain⟨y,yv,hyr,hyd,hs⟩:=c_M (P:=P) hs hi (.ptr hr)
    have s1:=e_0 (P:=P) hs hi (.ptr hr) hyd
    rw[st] at s1
    refine a_n ?_
    have e1:r_P [Value.int .i64 i,.int .i64 j,.slice (some ⟨r,off',none⟩) n c,hh].toArray=(do
     if false=true then
      if i<0||i≥n then boundsPanic .i64 i n .index
      if j<0||j≥n then boundsPanic .i64 j n .index
     else if i<0||i≥n||j<0||j≥n then Extern.ReflectliteSwapper.outOfRange
     Extern.ReflectliteSwapper.exchange (←Extern.Rtype.ofHandle hh) ⟨r,off',none⟩ i.toNat j.toNat):=rfl
    have hnot:(decide (i<0)||decide (i≥(n:Int))||decide (j<0)||decide (j≥(n:Int)))=false:=by
     simp only[Bool.or_eq_false_iff,decide_eq_false_iff_not]
     omega
    rw[e1]
    simp only[Bool.false_eq_true,if_false,hnot,Sem.run_bind,Sem.run_pure,Result.andThen_ok,Extern.Rtype.ofHandle,run_program,he,Extern.ReflectliteSwapper.exchange,a_q hsz,b_h,ld (hxr w rfl),ld (hyr w rfl)]
    cases hr1:(storeVar e ⟨r,off'+i.toNat*sz,none⟩ yv).run P w with
    |halt a b=>rw[hr1] at s1;exact s1.elim
    |ok u w1=>
     rw[hr1] at s1
     obtain⟨H1,ι1,hs,hle1,hi1⟩:=s1
     have s2:=e_0 (P:=P) hs hi1 (.ptr (hle1 _ _ hr)) (hxd.mono hle1)
     rw[st] at s2
     simp only[Result.andThen_ok]
     cases hr2:(storeVar e ⟨r,off'+j.toNat*sz,none⟩ xv).run P w1 with
     |halt a b=>rw[hr2] at s2;exact s2.elim
     |ok u w2=>
      rw[hr2] at s2
      obtain⟨H2,ι2,hs,hle2,hi2⟩:=s2
      exact⟨_,H2,ι2,hs,.tup .nil,Inj.le_trans hle1 hle2,hi2⟩
   ·exact hs.elim
  ·exact hs.elim
 ·exact hs.elim
end
end Go.Sx
namespace Go.Sx
open Go
variable [Syms]
section
variable {P:Program} {w0 w:World} {F0:Fp} {ι:Inj} {H:AHeap}
structure RecOk (P:Program) (f:FuncId) (fn:Func) (id:Nat) (o0 o1:Oper) (c:Call) (T T2:TypeId) (X:Code):Prop where
 hf:P.funcs[f]?=some fn
 hb:fn.body=some (.seq (.region id #[o0,o1] false) (.cond (.tmp 2) X .skip))
 hn:(fn.name== "runtime.NumGoroutine")=false
 hr:fn.results=#[]
 d0:o0.dst=some 1
 g0:o0.guard=none
 p0:o0.op=.call c
 pc:c.callee=.builtin .recover
 d1:o1.dst=some 2
 g1:o1.guard=none
 p1:o1.op=.binOp .neq T (.tmp 1) (.const .nilIface) T2
 eq:∃ms,P.underlying T=some (.interface ms)
 n3:fn.ntmps=3
def t_H:Spec:=fun args H K=>match args with
 |[_]=>K (.tup []) H
 |_=>False
theorem t_I{f:FuncId}{fn:Func}{id:Nat}{o0 o1:Oper}{c:Call}{T T2:TypeId}{X:Code}(R:RecOk P f fn id o0 o1 c T T2 X):e_m P f t_H:=by
 refine⟨⟨fn,R.hf,by rw[R.hb];rfl,R.hn⟩,?_⟩
 intro args H K hs w0 F0 ι w vs hi hd
 unfold t_H at hs
 split at hs
 ·rename_i x
  cases hd with
  |@cons _ p _ _ h1 h2=>
  cases h2
  refine callsD_of_wpS R.hf R.hb fun c₀ cs hu=>?_
  have htm:([p].toArray++Array.replicate (fn.ntmps-[p].toArray.size) undef)=#[p,undef,undef]:=by
   rw[R.n3];rfl
  rw[htm]
  refine wpS_seq (wpS_region ?_)
  have hrange:List.range (#[o0,o1]:Array Oper).size=[0,1]:=rfl
  rw[hrange]
  have e0:(#[o0,o1]:Array Oper)[0]?=some o0:=rfl
  have e1:(#[o0,o1]:Array Oper)[1]?=some o1:=rfl
  have w0':∀y,Region.wanted o0 y=true:=fun y=>by simp[Region.wanted,R.g0]
  have w1':∀y,Region.wanted o1 y=true:=fun y=>by simp[Region.wanted,R.g1]
  have hrec:recoverD (c₀::cs)=none:=by simp[recoverD,hu]
  have hx0:∀ρ,(execOp ρ o0).run P w=.ok .recover w:=fun ρ=>by
   simp only[execOp,R.p0,resolve,R.pc,Sem.run_bind,Sem.run_pure,Result.andThen_ok,invoke,builtin]
  have hx1:∀ρ:Operand->Value,ρ (.tmp 1)=.nilIface->ρ (.const .nilIface)=.nilIface->(execOp ρ o1).run P w=.ok (.value (.bool false)) w:=fun ρ h1 h2=>by
   obtain⟨ms,hu⟩:=R.eq
   have hg:=a_L (P:=P) (w:=w) (op:=.neq) (t:=T) (x:=.tmp 1) (y:=.const .nilIface) (a:=.nilIface) (b:=.nilIface) (fun _ _=>rfl) (fun _ _ h=>am)
   have hb:(binOp .neq T .nilIface .nilIface).run P w=.ok (.bool false) w:=by
    have e:binOp .neq T .nilIface .nilIface=(do pure (.bool (!(←Op.equal T .nilIface .nilIface)))):=rfl
    rw[e]
    have he:(Op.equal T .nilIface .nilIface).run P w=.ok true w:=by
     have hd:Op.maxDepth=(Op.maxDepth-1)+1:=ar
     rw[Op.equal,hd]
     simp[Op.equalIn,a_a hu]
    simp only[Sem.run_bind,he,Result.andThen_ok,Sem.run_pure]
    rfl
   simp only[execOp,R.p1,h1,h2,Sem.run_bind,hg,Result.andThen_ok,hb,Sem.run_pure]
  simp only[wpOpsS,e0,e1,w0',w1',if_true,hx0,hrec,R.d0]
  have hput:(({tmps:=#[p,undef,undef],defers:=[]}:Act).put (some 1) .nilIface)={tmps:=#[p,.nilIface,undef],defers:=[]}:=rfl
  rw[hput]
  have:=hx1 ({tmps:=#[p,.nilIface,undef],defers:=[]}:Act).eval rfl rfl
  rw[this]
  simp only[Oper.upon,R.d1]
  have hput2:(({tmps:=#[p,.nilIface,undef],defers:=[]}:Act).put (some 2) (.bool false))={tmps:=#[p,.nilIface,.bool false],defers:=[]}:=rfl
  rw[hput2]
  refine wpS_cond (t:=false) rfl ?_
  refine wpS_of_wp (wp_skip ?_)
  refine⟨rfl,.returning,by cases c₀;cases hu;rfl,.tuple #[],?_,rfl,?_⟩
  ·simp[results,R.hr,Array.mapM_eq_mapM_toList]
  ·exact⟨_,H,ι,hs,.tup .nil,Inj.le_refl _,hi⟩
 ·exact hs.elim
end
end Go.Sx
namespace Go.Sx
open Go
variable [Syms]
theorem Inj.bare_bare(ι:Inj)(p:Nat):(ι.bare p).bare p=ι.bare p:=by
 unfold Inj.bare
 congr 1
 funext i
 show(if i<p then(if i<p then ι i else none) else none)=_
 by_cases h:i<p<;>simp[h]
theorem Inj.bare_step{ι ι':Inj}{p:Nat}(h:(ι.bare p).le ι'):(ι.bare p).le (ι'.bare p):=by
 have:=Inj.bare_mono h p
 rwa [Inj.bare_bare] at this
section
variable {P:Program} {w0 w:World} {F0:Fp} {ι:Inj} {H:AHeap}
def WPw(pn:Nat)(P:Program)(c:Code)(fr:Fr)(H:AHeap)(K:AExit->Fr->AHeap->Prop):Prop:=
 ∀(w0:World) (F0:Fp) (ι:Inj) (w:World) (a:Act),Inv w0 F0 ι H w->FRel ι fr a->DRel ι H.defs a.defers->c.wp P (PostE w0 F0 (ι.bare pn) K) a w
theorem PostE.step{pn:Nat}{ι':Inj}{K:AExit->Fr->AHeap->Prop}{e:Exit}{a:Act}(h:PostE w0 F0 (ι'.bare pn) K e a w)(hi:(ι.bare pn).le ι'):PostE w0 F0 (ι.bare pn) K e a w:=PostE.le h (Inj.bare_step hi)
abbrev d_l:=Fr->AHeap->(AExit->Fr->AHeap->Prop)->Prop
def p_b(p:List Nat):List (List Nat×d_l)->Option d_l
 |[]=>none
 |(q,s)::r=>cond (eqN p q) (some s) (p_b p r)
def LTok(pn:Nat)(P:Program)(root:Code)(LT:List (List Nat×d_l)):Prop:=∀x∈LT,∀fr H K,x.2 fr H K->WPw pn P (sub root x.1) fr H K
theorem p_c{pn:Nat}{P:Program}{root:Code}{LT:List (List Nat×d_l)}(h:LTok pn P root LT){p:List Nat}{s:d_l}(hs:p_b p LT=some s){fr:Fr}{H:AHeap}{K:AExit->Fr->AHeap->Prop}(hk:s fr H K):WPw pn P (sub root p) fr H K:=by
 induction LT with
 |nil=>cases hs
 |cons x r ih=>
  obtain⟨q,s'⟩:=x
  simp only[p_b] at hs
  cases hb:eqN p q with
  |true=>
   rw[hb,cond_true] at hs
   cases hs
   rw[e_v hb]
   exact h _ (List.mem_cons_self ..) _ _ _ hk
  |false=>
   rw[hb,cond_false] at hs
   exact ih (fun y hy=>h y (List.mem_cons_of_mem _ hy)) hs
abbrev G_E:=Code->List Nat->Code->Fr->AHeap->(AExit->Fr->AHeap->Prop)->Prop
def exV(P:Program)(ft:FuncId->Option Func)(T:Tabs)(LT:List (List Nat×d_l))(L:Lvl)(X:G_E)(root:Code)(p:List Nat)(c:Code)(fr:Fr)(H:AHeap)(K:AExit->Fr->AHeap->Prop):Prop:=
    match c with
    | .skip=>K .normal fr H
    | .region _ ops false=>t_o P (f_e ft T.c (o_4 P L)) ops.toList ops.toList fr H (fun fr H=>K .normal fr H)
    | .region _ ops true=>x_U P (f_e ft T.c (o_4 P L)) ops fr H (fun fr H=>K .normal fr H)
    | .seq a b=>X root (0::p) a fr H (fun e fr H=>match e with
     | .normal=>X root (1::p) b fr H K
     |e=>K e fr H)
    | .cond c a b=>match eva fr c with
      | .lit (.bool t)=>br t (X root (0::p) a (k_u fr c true) H K) (X root (1::p) b (k_u fr c false) H K)
      |_=>False
    | .block id b=>X root (0::p) b fr H (fun e fr H=>match e with
     | .exit i=>cond (Nat.beq i id) (K .normal fr H) (K (.exit i) fr H)
     |e=>K e fr H)
    | .loop b=>match p_b p LT with
      |some s=>s fr H K
      |none=>L.ex true root p (.loop b) fr H K
    | .exit i=>K (.exit i) fr H
    | .ret=>K .ret fr H
    | .label _=>K .normal fr H
    | .scope b=>X root (0::p) b fr H K
    |_=>False
def exW(P:Program)(ft:FuncId->Option Func)(T:Tabs)(LT:List (List Nat×d_l)):Nat->G_E
 |0=>fun _ _ _ _ _ _=>False
 |n+1=>exV P ft T LT (lvl P ft T n) (exW P ft T LT n)
theorem f_h{ft:FuncId->Option Func}{T:Tabs}(hft:o_5 P ft)(htab:TabOk P T){LT:List (List Nat×d_l)}{root:Code}{pn:Nat}(hLT:LTok pn P root LT):∀(n:Nat) {p:List Nat} {c:Code} {fr:Fr} {H:AHeap} {K:AExit->Fr->AHeap->Prop},exW P ft T LT n root p c fr H K->c=sub root p->WPw pn P c fr H K:=by
 intro n
 induction n with
 |zero=>intro p c fr H K h;exact h.elim
 |succ n ih=>
  intro p c fr H K h hc
  have hL:=m_g hft htab n
  have hcx:o_G P (f_e ft T.c (o_4 P (lvl P ft T n))):=by
   intro f args H K hx
   unfold f_e at hx
   split at hx
   ·rename_i s hs
    exact htab.c f s hs _ _ _ hx
   ·split at hx
    ·rename_i fn hfn
     split at hx
     ·rename_i b hb
      obtain⟨h1,h2,_⟩:=g_9 hft hL hfn hb hx
      exact b_p h1 h2
     ·exact hx.elim
    ·exact hx.elim
  have h':exV P ft T LT (lvl P ft T n) (exW P ft T LT n) root p c fr H K:=h
  unfold exV at h'
  split at h'
  ·intro w0 F0 ι w a hi hf hd
   exact wp_skip ⟨fr,H,ι,h',Inj.bare_le _ _,hf,hd,hi⟩
  ·rename_i id ops
   intro w0 F0 ι w a hi hf hd
   refine wp_region_list ?_
   have hops:ops=ops.toList.toArray:=an
   rw[hops]
   exact p_Y (K:=fun fr H=>K .normal fr H) hcx _ h' hi hf hd (fun a' w' hp=>PostF.le hp (Inj.bare_le _ _))
  ·rename_i id ops
   intro w0 F0 ι w a hi hf hd
   exact m_e hcx (fun c a w hq=>hq) h' hi hf hd (fun a' w' hp=>PostF.le hp (Inj.bare_le _ _))
  ·rename_i x y
   have hx:x=sub root (0::p):=ax
   have hy:y=sub root (1::p):=ax
   intro w0 F0 ι w a hi hf hd
   refine wp_seq (Code.wp_mono (fun e a' w' hp=>?_) (ih h' hx w0 F0 ι w a hi hf hd))
   cases e with
   |normal=>
    obtain⟨fr',H',ι',hK,hle,hf',hd',hi'⟩:=hp
    exact Code.wp_mono (fun e a w hp=>hp.step hle) (ih hK hy w0 F0 ι' w' a' hi' hf' hd')
   |exit i=>exact hp
   |ret=>exact hp
   |goto l=>exact hp
   |panic ch=>exact hp
   |outgrown=>exact hp
  ·rename_i c0 x y
   split at h'
   ·rename_i t ht
    intro w0 F0 ι w a hi hf hd
    have hev:=hf.eval c0
    rw[ht] at hev
    generalize hv:a.eval c0=v at hev
    cases hev with
    |lit=>
    have know:∀b,b=t->FRel ι (k_u fr c0 b) a:=by
     intro b hb
     subst hb
     cases c0 with
     |tmp d=>exact hf.know hv
     |const _=>exact hf
     |global _=>exact hf
     |func _=>exact hf
    rcases a_4 h' with⟨rfl,h'⟩|⟨rfl,h'⟩
    ·exact wp_cond_true hv (ih h' ax w0 F0 ι w a hi (know true rfl) hd)
    ·exact wp_cond_false hv (ih h' ax w0 F0 ι w a hi (know false rfl) hd)
   ·exact h'.elim
  ·rename_i id x
   intro w0 F0 ι w a hi hf hd
   refine wp_block (Code.wp_mono (fun e a' w' hp=>?_) (ih h' ax w0 F0 ι w a hi hf hd))
   cases e with
   |normal=>exact hp
   |exit i=>
    obtain⟨fr',H',ι',hK,hle,hf',hd',hi'⟩:=hp
    simp only[Exit.inBlock]
    by_cases hid:i=id
    ·subst hid
     rw[if_pos rfl]
     simp only[beq_self,cond_true] at hK
     exact⟨fr',H',ι',hK,hle,hf',hd',hi'⟩
    ·rw[if_neg hid]
     simp only[b_b hid,cond_false] at hK
     exact⟨fr',H',ι',hK,hle,hf',hd',hi'⟩
   |ret=>exact hp
   |goto l=>exact hp
   |panic ch=>exact hp
   |outgrown=>exact hp
  ·split at h'
   ·rename_i s hs
    rw[hc]
    exact p_c hLT hs h'
   ·intro w0 F0 ι w a hi hf hd
    exact Code.wp_mono (fun e a w hp=>PostE.le hp (Inj.bare_le _ _)) (hL.1 h' hc w0 F0 ι w a hi hf hd)
  ·intro w0 F0 ι w a hi hf hd
   exact wp_exit ⟨fr,H,ι,h',Inj.bare_le _ _,hf,hd,hi⟩
  ·intro w0 F0 ι w a hi hf hd
   exact wp_ret ⟨fr,H,ι,h',Inj.bare_le _ _,hf,hd,hi⟩
  ·intro w0 F0 ι w a hi hf hd
   exact wp_label ⟨fr,H,ι,h',Inj.bare_le _ _,hf,hd,hi⟩
  ·rename_i x
   intro w0 F0 ι w a hi hf hd
   refine wp_scope_straight (Code.wp_mono (fun e a' w' hp=>?_) (ih h' ax w0 F0 ι w a hi hf hd))
   cases e<;>first|exact hp|exact hp.elim
  ·exact h'.elim
def Ent(pn:Nat)(fr:Fr)(H:AHeap)(fr2:Fr)(H2:AHeap):Prop:=
 ∀(w0:World) (F0:Fp) (ι:Inj) (w:World) (a:Act),Inv w0 F0 ι H w->FRel ι fr a->DRel ι H.defs a.defers->∃ι2,(ι.bare pn).le ι2/\Inv w0 F0 ι2 H2 w/\FRel ι2 fr2 a/\DRel ι2 H2.defs a.defers
theorem WPw.ent{pn:Nat}{c:Code}{fr fr2:Fr}{H H2:AHeap}{K:AExit->Fr->AHeap->Prop}(he:Ent pn fr H fr2 H2)(h:WPw pn P c fr2 H2 K):WPw pn P c fr H K:=by
 intro w0 F0 ι w a hi hf hd
 obtain⟨ι2,hle,hi2,hf2,hd2⟩:=he w0 F0 ι w a hi hf hd
 exact Code.wp_mono (fun e a w hp=>hp.step hle) (h w0 F0 ι2 w a hi2 hf2 hd2)
theorem WPw.mono{pn:Nat}{c:Code}{fr:Fr}{H:AHeap}{K K':AExit->Fr->AHeap->Prop}(h:WPw pn P c fr H K)(hk:∀e fr H,K e fr H->K' e fr H):WPw pn P c fr H K':=by
 intro w0 F0 ι w a hi hf hd
 refine Code.wp_mono (fun e a w hp=>?_) (h w0 F0 ι w a hi hf hd)
 cases e<;>first
  |(obtain⟨fr',H',ι',hK,hr⟩:=hp;exact⟨fr',H',ι',hk _ _ _ hK,hr⟩)
  |exact hp
theorem WPw.post{pn:Nat}{c:Code}{fr:Fr}{H:AHeap}{K K':AExit->Fr->AHeap->Prop}(h:WPw pn P c fr H K)(hk:∀e fr H,K e fr H->∃fr2 H2,Ent pn fr H fr2 H2/\K' e fr2 H2):WPw pn P c fr H K':=by
 intro w0 F0 ι w a hi hf hd
 refine Code.wp_mono (fun e a w hp=>?_) (h w0 F0 ι w a hi hf hd)
 cases e<;>first
  |(obtain⟨fr',H',ι',hK,hle,hf',hd',hi'⟩:=hp
    obtain⟨fr2,H2,hent,hK2⟩:=hk _ _ _ hK
    obtain⟨ι2,hle2,hi2,hf2,hd2⟩:=hent w0 F0 ι' w a hi' hf' hd'
    exact⟨fr2,H2,ι2,hK2,Inj.le_trans (Inj.bare_step hle) hle2,hf2,hd2,hi2⟩)
  |exact hp
theorem r_R{pn:Nat}{J:Type}(side:J->Prop)(μ:J->Nat)(frT:J->Fr)(HT:J->AHeap){x:Code}{K:AExit->Fr->AHeap->Prop}
 (h:∀j,side j->WPw pn P x (frT j) (HT j) (fun e fr' H'=>match e with
  | .normal=>∃j',side j'/\μ j'<μ j/\Ent pn fr' H' (frT j') (HT j')
  |e=>K e fr' H')):∀j,side j->WPw pn P (.loop x) (frT j) (HT j) K:=by
 have key:∀(n:Nat) (j:J),side j->μ j<=n->∀(w0:World) (F0:Fp) (ι:Inj) (w:World) (a:Act),Inv w0 F0 ι (HT j) w->FRel ι (frT j) a->DRel ι (HT j).defs a.defers->∀(b:Frame) (k:List Item) (cs:List Frame),
  ∃e a' w',PostE w0 F0 (ι.bare pn) K e a' w'/\Arrives P (lone (b.at a (.code x:: .inLoop x::k)) cs w) b k cs e a' w':=by
  intro n
  induction n with
  |zero=>
   intro j hj hn w0 F0 ι w a hi hf hd b k cs
   obtain⟨e,a',w',hq,harr⟩:=h j hj w0 F0 ι w a hi hf hd b (.inLoop x::k) cs
   cases e with
   |normal=>
    obtain⟨fr',H',ι',⟨j',_,hlt,_⟩,_⟩:=hq
    omega
   |exit i=>exact⟨.exit i,a',w',hq,.pass (x:=.inLoop x) rfl (fun _ _=>.inl an) harr⟩
   |ret=>exact⟨.ret,a',w',hq,.pass (x:=.inLoop x) rfl (fun _ _=>.inl an) harr⟩
   |goto l=>exact hq.elim
   |panic ch=>exact hq.elim
   |outgrown=>exact hq.elim
  |succ n ih=>
   intro j hj hn w0 F0 ι w a hi hf hd b k cs
   obtain⟨e,a',w',hq,harr⟩:=h j hj w0 F0 ι w a hi hf hd b (.inLoop x::k) cs
   cases e with
   |normal=>
    obtain⟨fr',H',ι',⟨j',hj',hlt,hent⟩,hle,hf',hd',hi'⟩:=hq
    obtain⟨ι2,hle2,hi2,hf2,hd2⟩:=hent w0 F0 ι' w' a' hi' hf' hd'
    obtain⟨e2,a2,w2,hq2,harr2⟩:=ih j' hj' ac w0 F0 ι2 w' a' hi2 hf2 hd2 b k cs
    exact⟨e2,a2,w2,hq2.step (Inj.le_trans (Inj.bare_step hle) hle2),.of_steps (Steps.trans harr (.one step_inLoop)) harr2⟩
   |exit i=>exact⟨.exit i,a',w',hq,.pass (x:=.inLoop x) rfl (fun _ _=>.inl an) harr⟩
   |ret=>exact⟨.ret,a',w',hq,.pass (x:=.inLoop x) rfl (fun _ _=>.inl an) harr⟩
   |goto l=>exact hq.elim
   |panic ch=>exact hq.elim
   |outgrown=>exact hq.elim
 intro j hj w0 F0 ι w a hi hf hd b k cs
 obtain⟨e,a',w',hq,harr⟩:=key (μ j) j hj (Nat.le_refl _) w0 F0 ι w a hi hf hd b k cs
 exact⟨e,a',w',hq,.of_steps (.one step_loop) harr⟩
end
end Go.Sx

