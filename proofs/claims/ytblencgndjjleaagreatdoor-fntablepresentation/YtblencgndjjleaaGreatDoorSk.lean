/-
  Proved: for all rows and options the law FnTablePresentation returns true and leaves its arguments as they were (Rows.FnTablePresentationCardSaid). Conditions: those of the given row alone: unicode.White_Space holds what the text of the program lays (the card ties it; the walk never reads it); of the other package-level variables nothing is asked but their shapes.
-/
import Derived.Test.YtblencgndjjleaaGreatDoorK48
import Derived.Test.YtblencgndjjleaaGreatDoorK49
import Derived.Test.YtblencgndjjleaaGreatDoorK50
import Derived.Test.YtblencgndjjleaaGreatDoorK52
import Derived.Test.YtblencgndjjleaaGreatDoorK53
import Derived.Test.YtblencgndjjleaaGreatDoorCards
set_option linter.all false
namespace Go.Proofs.YtblencgndjjleaaGreatDoor
open Go.ChangeShapes Go.WideShapes Go.ChangeAt Go.RowKit Go.Sx Tk
theorem Tryz.own:ownKnob Tryz.prog.godebug=none:=aa
theorem Tryz.laidOut:laidOutB Tryz.prog=true:=aa
def r_n(f:Nat->UInt8)(w:World):Prop:=∃c e fz,w.heap[2]?=some (.cells c e fz)/\∀k,k<256->c[k]?=some (.int .u8 (f k).toNat)
@[reducible]
def x_k(f:Nat->UInt8):Syms where
 cls:=fun _=>⟨0,0,0,0,0⟩
 w:=fun _=>[]
 ok:=fun _=>{lo:=Nat.le_refl _,hi:=Nat.le_refl _,all:=(fun _ h=>am),fst:=(fun _ h=>am),lst:=(fun _ h=>am)}
 ng:=3
 good:=r_n f
 mono:=fun w w' h hg=>by
  obtain⟨c,e,fz,h1,h2⟩:=hg
  exact⟨c,e,fz,by rw[h 2 ac];exact h1,h2⟩
 gn:=fun g k=>g==2&&Nat.blt k 256
 gf:=fun _=>f
 gok:=fun w g k hg h=>by
  obtain⟨c,e,fz,h1,h2⟩:=hg
  rw[Bool.and_eq_true] at h
  have hg0:g=2:=by simpa using h.1
  have hk:k<256:=by
   have:=h.2
   rw[Nat.blt_eq] at this
   exact this
  subst hg0
  exact⟨c,e,fz,h1,h2 k hk⟩
theorem p_T:Tryz.prog.cellTypes Tryz.prog.depth 317=some (List.replicate 256 5):=aa
theorem o_D:Tryz.prog.buildable 317=true:=aa
theorem J_g:((begin Tryz.prog (fun _ _=>0) default).world.heap[2]?).bind Obj.row?=some (Array.replicate 256 (.int .u8 0),317):=aa
set_option maxRecDepth 100000 in
theorem f_R{W:World}(h:W.ShapedOpen Tryz.prog):∃f,r_n f W:=by
 classical
 obtain⟨cs,hh,hs,hr⟩:=h.1 2 _ _ (of_decide_eq_true aa) J_g
 obtain⟨ts,hts,_,hall⟩:=hr o_D
 rw[p_T] at hts
 cases hts
 have hs:cs.size=256:=by rw[hs,Array.size_replicate]
 have key:∀k,k<256->∃b:UInt8,cs[k]?=some (.int .u8 b.toNat):=fun k hk=>by
  have hk':k<cs.size:=ac
  obtain⟨u,hu,hok⟩:=hall k cs[k] (by simp[hk'])
  rw[List.length_replicate,Nat.mod_eq_of_lt hk,List.getElem?_replicate,if_pos hk] at hu
  cases hu
  unfold Cell.ok at hok
  rw[Go.Proofs.Tryz.underlying5] at hok
  rw[Array.getElem?_eq_getElem hk']
  cases hv:cs[k]<;>rw[hv] at hok<;>simp only at hok
  rename_i k' n
  obtain⟨rfl,h1,h2⟩:=hok
  have h1:0<=n:=h1
  have h2:n<=255:=h2
  refine⟨UInt8.ofNat n.toNat,?_⟩
  rw[UInt8.toNat_ofNat',Nat.mod_eq_of_lt ac,Int.toNat_of_nonneg h1]
 exact⟨fun k=>if hk:k<256 then Classical.choose (key k hk) else 0,cs,_,_,hh,fun k hk=>by
  show cs[k]?=some (.int .u8 ((if hk:k<256 then Classical.choose (key k hk) else 0:UInt8).toNat:Nat))
  rw[dif_pos hk];exact Classical.choose_spec (key k hk)⟩
variable {H:Type} {enc:TypeId×Value->H}
theorem x_l{W:World}{base:Nat}{v:Value}{d:DataW H}{p:List MemPlace}{t:TypeId}{fs:Array Field}(hu:Tryz.prog.underlying t=some (.struct fs))(hok:Value.okWide Tryz.prog W .any base t v)(h:DataW.Trod enc Tryz.prog W 0 (fun _=>true) true t v d p):∃cs:List Value,v=.agg cs.toArray/\∃n x,DataW.trod enc Tryz.prog W 0 (fun _=>true) true n t cs=some x:=by
 unfold Value.okWide at hok
 rw[hu] at hok
 obtain⟨cs,rfl,_,_⟩:=hok
 obtain⟨n,hn⟩:=h
 exact⟨cs.toList,rfl,n,_,hn⟩
theorem G_B{W:World}{base:Nat}{v:Value}{d:DataW H}{p:List MemPlace}{t e:TypeId}(hu:Tryz.prog.underlying t=some (.slice e))(hok:Value.okWide Tryz.prog W .any base t v)(h:DataW.Trod enc Tryz.prog W 0 (fun _=>true) true t v d p):∃n x,DataW.trod enc Tryz.prog W 0 (fun _=>true) true n t [v]=some x:=by
 unfold Value.okWide at hok
 rw[hu] at hok
 obtain⟨n,hn⟩:=h
 unfold Cell.okWide at hok
 rw[hu] at hok
 cases v with
 |agg cs=>
  unfold Cell.ok at hok
  rw[hu] at hok
  exact hok.elim
 |_=>exact⟨n,_,hn⟩
abbrev e_e:Array Value:=#[.slice none 0 0,.agg #[.int .i64 0,.bool false,.bool false,.bool false,.bool false,.bool false]]
theorem J_h(os:Os):((World.laidAll Tryz.prog os Rows.fnTablePresentationRow.laid).forCall (fun _ _=>0) ⟨#[],e_e,[]⟩).variablesZipB Tryz.prog=true:=aa
theorem J_i(os:Os):(((World.laidAll Tryz.prog os Rows.fnTablePresentationRow.laid).forCall (fun _ _=>0) ⟨#[],e_e,[]⟩).heap.toList.drop Tryz.prog.globals.size).take ((begin Tryz.prog (fun _ _=>0) default).world.heap.size-Tryz.prog.globals.size)=(begin Tryz.prog (fun _ _=>0) default).world.heap.toList.drop Tryz.prog.globals.size:=aa
theorem G_U(os:Os):Input.okWideB Tryz.prog ((World.laidAll Tryz.prog os Rows.fnTablePresentationRow.laid).forCall (fun _ _=>0) ⟨#[],e_e,[]⟩) 3 ⟨#[],e_e,[]⟩=true:=aa
theorem J_j(os:Os):Rows.fnTablePresentationSpec.preB enc Tryz.prog Go.Proofs.Tryz.f3 [] false ((World.laidAll Tryz.prog os Rows.fnTablePresentationRow.laid).forCall (fun _ _=>0) ⟨#[],e_e,[]⟩).memory e_e 8=true:=aa
theorem J_k(os:Os):Rows.fnTablePresentationSpec.sizedB enc Tryz.prog Go.Proofs.Tryz.f3 false ((World.laidAll Tryz.prog os Rows.fnTablePresentationRow.laid).forCall (fun _ _=>0) ⟨#[],e_e,[]⟩).memory e_e 8=true:=aa
set_option maxRecDepth 100000 in
theorem l_m(os:Os)(started:os.Started)(enc:TypeId×Value->H):∃(w:World) (tape:Tape) (i:Input),w.os=os/\(w.forCall tape i).Shaped Tryz.checked.prog/\i.vars=[]/\Input.okWide Tryz.checked.prog (w.forCall tape i) .any w.heap.size 3 i/\
 ((Rows.fnTablePresentationSpec.pre enc Tryz.prog Go.Proofs.Tryz.f3 [] false (w.forCall tape i).memory i.args/\laidMetH Tryz.prog Rows.fnTablePresentationRow.laid (w.forCall tape i).memory)/\sizedMet enc Tryz.prog Go.Proofs.Tryz.f3 (OpenSpec.ofChange Rows.fnTablePresentationSpec) false (w.forCall tape i).memory i.args)/\Assume.holds {} Tryz.checked.prog (lone (Frame.enter Tryz.checked.prog 3 i.args .normal) [] (w.forCall tape i)):=
 ⟨World.laidAll Tryz.prog os Rows.fnTablePresentationRow.laid,fun _ _=>0,⟨#[],e_e,[]⟩,World.laidAll_os _ _ _,World.shaped_of_ZipB (J_h os) (J_i os),(Input.okWide_of_okWideB (base:=0) (G_U os)).1,(Input.okWide_of_okWideB (G_U os)).2,⟨⟨ChangeSpec.pre_of_preB (J_j os),by
  rw[MakeChecks.laidMetH_plain _ _ _ aa];exact p_S os _⟩,sizedMet_of_sizedB (J_k os)⟩,by
  simp only[Assume.holds]
  exact⟨an,an,fun _=>Modest.zero,an,an⟩⟩
set_option maxRecDepth 100000 in
theorem o_E(os:Os)(started:os.Started)(H:Type)(enc:TypeId×Value->H):
 ReturnsInHanded {} Tryz.checked os 3 .any (fun w args=>(Rows.fnTablePresentationSpec.pre enc Tryz.prog Go.Proofs.Tryz.f3 [] false w args/\laidMetH Tryz.prog Rows.fnTablePresentationRow.laid w)/\sizedMet enc Tryz.prog Go.Proofs.Tryz.f3 (OpenSpec.ofChange Rows.fnTablePresentationSpec) false w args)
  (Rows.fnTablePresentationSpec.post enc Tryz.prog Go.Proofs.Tryz.f3 false true false false):=by
 refine returnsInHanded_of_calls (C:=Tryz.checked) Tryz.own started (by as_aux_lemma=>kernel_rfl)
  (l_m os started enc) ?_
 intro w tape i _ hsh _ hok hpre _
 obtain⟨_,_,_,fn',hfn',_,_,_,_,hval0⟩:=hok
 have e:fn'=Go.Proofs.Tryz.f3:=Option.some.inj (hfn'.symm.trans Go.Proofs.Tryz.func3)
 subst e
 obtain⟨⟨⟨ds,gs,before,hw,hc⟩,_⟩,_⟩:=hpre
 have hW:=DataW.Whole.of_heap (w':=w.forCall tape i) (by rfl) hw
 have hW':=hW
 have hltW:=hW.lt
 obtain⟨p,q,hA0,hV0,rfl,hfz,hnd⟩:=hW
 obtain⟨args,iargs⟩:∃a,a=i.args:=⟨_,rfl⟩
 rw[←iargs] at hA0 hval0 hW'⊢
 obtain⟨f,hbl⟩:=f_R hsh
 letI:=x_k f
 generalize w.forCall tape i=W at*
 have hA:DataW.TrodAll enc Go.Proofs.Tryz.prog W 0 (fun _=>true) true Go.Proofs.Tryz.f3.params.toList args.toList ds p:=hA0
 have hV:DataW.TrodVars enc Go.Proofs.Tryz.prog W (fun _=>true) [] gs q:=hV0
 have hval:∀(j:Nat) t v,Go.Proofs.Tryz.f3.params[j]?=some t->args[j]?=some v->Value.okWide Go.Proofs.Tryz.prog W .any w.heap.size t v:=hval0
 rw[Go.Proofs.Tryz.params3] at hA hval
 obtain⟨v0,v1,d0,d1,p0,p1,rfl,rfl,rfl,h0,h1⟩:=trodAll_two hA
 obtain⟨cs,rfl,n3,x3,t3⟩:=x_l Go.Proofs.Tryz.underlying24 (hval 1 24 v1 rfl rfl) h1
 obtain⟨n0,x0,t0⟩:=G_B Go.Proofs.Tryz.underlying22 (hval 0 22 v0 rfl rfl) h0
 obtain⟨op,ok,om,opr,osk,ops,rfl⟩:=p_Q t3
 obtain⟨rfl,rfl⟩:=trodVars_none hV
 have hb0:2<W.heap.size:=by
  obtain⟨c,e,fz,hh,_⟩:=hbl
  exact(Array.getElem?_eq_some_iff.1 hh).1
 obtain⟨R,F,hden⟩:=p_O t0
 refine(p_R (W:=W) (p:=op) (k:=ok) (m:=om) (pr:=opr) (sk:=osk) (ps:=ops) hbl (fun r hr=>by have hr:r<3:=hr;omega) (fun c hc=>by show(2==2&&Nat.blt c 256)=true;rw[show Nat.blt c 256=true from by rw[Nat.blt_eq];exact hc];rfl) hden).mono fun e W2 ⟨he,hb⟩=>?_
 subst he
 refine ChangeSpec.post_blind ?_
 have hlt:∀x∈p0++p1,x.block<W.heap.size:=fun x hx=>hltW x (List.mem_append_left _ hx)
 have e1:Rows.fnTablePresentationSpec.fn H ([d0,d1]++[])={results:=[.lit (.bool true)],args:=[d0,d1]}:=rfl
 refine⟨_,_,_,[],p0++p1,[],hW',?_,?_,?_,hb.frame _,fun h=>am⟩
 ·rw[e1];exact trodAll_mk1 (shut_bool Go.Proofs.Tryz.underlying4 true)
 ·rw[e1]
  exact trodAll_mk2 (Below.trod Tryz.laidOut (by as_aux_lemma=>kernel_rfl) (of_decide_eq_true (by as_aux_lemma=>kernel_rfl)) h0 hb (fun x hx=>hlt x (by simp[hx])))
   (Below.trod Tryz.laidOut (by as_aux_lemma=>kernel_rfl) (of_decide_eq_true (by as_aux_lemma=>kernel_rfl)) h1 hb (fun x hx=>hlt x (by simp[hx])))
 ·rw[e1];rfl
theorem c_x:Rows.FnTablePresentationSaid:=
 OpenClaim.holds_of_wide 3 Go.Proofs.Tryz.f3 rfl rfl rfl rfl rfl rfl rfl ⟨rfl,rfl,rfl,rfl,rfl⟩ rfl rfl rfl rfl rfl (by as_aux_lemma=>kernel_rfl) Go.Proofs.Tryz.func3 t_m
  (of_decide_eq_true (by as_aux_lemma=>kernel_rfl)) (by unfold Func.isWrapper;rw[if_neg (of_decide_eq_false (by as_aux_lemma=>kernel_rfl))];exact⟨rfl,rfl⟩)
  (fun os started H enc _=>o_E os started H enc)
theorem x_m:Tryz.prog.laidByTextLater wsL [.listed] true:=
 Program.laidByTextLater_by_run 400 8 G_w G_x G_y J_a J_b J_c J_d G_z G_A J_e
theorem l_n:Rows.fnTablePresentationRow.laidByTextAt .later Tryz.pinned [.listed] true:=
 OpenClaim.laidByTextAt_later rfl rfl x_m J_f
theorem fnTablePresentation_card:Rows.FnTablePresentationCardSaid:=
 Claim7.holds_tied_plain_at .later [] [.listed] true (true,"226e4ee718937884aa592886ee3daf95310d82c8c34ac904bb84cafdc892cb93") true
  c_x (fun _ h=>am) (by as_aux_lemma=>kernel_rfl) (fun _ h=>am) l_n rfl ⟨rfl,rfl⟩ (by as_aux_lemma=>kernel_rfl) rfl
  (fun f fn hf hfn=>by
   obtain rfl:f=3:=Option.some.inj ((show Tryz.prog.funcNamed "pub-ligature/laws.FnTablePresentation" =some 3 by as_aux_lemma=>kernel_rfl).symm.trans hf) |>.symm
   obtain rfl:fn=Tryz.f3:=(Option.some.inj (Tryz.func3.symm.trans hfn)).symm
   exact⟨by as_aux_lemma=>kernel_rfl,fun j t ht=>by
    rw[Tryz.params3] at ht
    have h3:t=22\/t=24:=by
     rcases j with _|_|j
     ·left;simpa using ht.symm
     ·right;simpa using ht.symm
     ·simp at ht
    rcases h3 with rfl|rfl
    ·exact(show Tryz.prog.wantsStandIn 22=false by as_aux_lemma=>kernel_rfl)
    ·exact(show Tryz.prog.wantsStandIn 24=false by as_aux_lemma=>kernel_rfl)⟩)
  x_j
#print axioms fnTablePresentation_card
end Go.Proofs.YtblencgndjjleaaGreatDoor

