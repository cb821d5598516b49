/-
  Proved: the law FnTableSkip returns true whatever its four arguments are, and each argument reads behind the call as it read before (Rows.FnTableSkipSaid). Conditions: those of the given row alone; of the package-level variables nothing is asked.
-/
import Derived.Test.YtjkgmpkgfhhaiaaGreatK52
import Derived.Test.YtjkgmpkgfhhaiaaGreatK53
set_option linter.all false
namespace Go.Proofs.YtjkgmpkgfhhaiaaGreat
open Go.ChangeShapes Go.WideShapes Go.ChangeAt Go.RowKit Go.Sx Tk
theorem Tryz.own:ownKnob Tryz.prog.godebug=none:=by kernel_rfl
theorem Tryz.laidOut:laidOutB Tryz.prog=true:=by kernel_rfl
def Blanks (f:Nat->UInt8) (w:World):Prop:=∃c e fz,w.heap[0]?=some (.cells c e fz)/\∀k,k<256->c[k]?=some (.int .u8 (f k).toNat)
@[reducible]
def skSyms (f:Nat->UInt8):Syms where
 cls:=fun _=>⟨0,0,0,0,0⟩
 w:=fun _=>[]
 ok:=fun _=>{lo:=Nat.le_refl _,hi:=Nat.le_refl _,all:=(fun _ h=>(by cases h)),fst:=(fun _ h=>(by cases h)),lst:=(fun _ h=>(by cases h))}
 ng:=1
 good:=Blanks f
 mono:=fun w w' h hg=>by
  obtain⟨c,e,fz,h1,h2⟩:=hg
  exact⟨c,e,fz,by rw[h 0 (by omega)];exact h1,h2⟩
 gn:=fun g k=>g==0&&Nat.blt k 256
 gf:=fun _=>f
 gok:=fun w g k hg h=>by
  obtain⟨c,e,fz,h1,h2⟩:=hg
  rw[Bool.and_eq_true] at h
  have hg0:g=0:=by simpa using h.1
  have hk:k<256:=by
   have:=h.2
   rw[Nat.blt_eq] at this
   exact this
  subst hg0
  exact⟨c,e,fz,h1,h2 k hk⟩
theorem types290:Tryz.prog.cellTypes Tryz.prog.depth 290=some (List.replicate 256 5):=by kernel_rfl
theorem builds290:Tryz.prog.buildable 290=true:=by kernel_rfl
theorem row0:((begin Tryz.prog (fun _ _=>0) default).world.heap[0]?).bind Obj.row?=some (Array.replicate 256 (.int .u8 0),290):=by kernel_rfl
set_option maxRecDepth 100000 in
theorem blanks_of_shape {W:World} (h:W.ShapedOpen Tryz.prog):∃f,Blanks f W:=by
 classical
 obtain⟨cs,hh,hs,hr⟩:=h.1 0 _ _ (of_decide_eq_true (by kernel_rfl)) row0
 obtain⟨ts,hts,_,hall⟩:=hr builds290
 rw[types290] at hts
 cases hts
 have hs:cs.size=256:=by rw[hs,Array.size_replicate]
 have key:∀k,k<256->∃b:UInt8,cs[k]?=some (.int .u8 b.toNat):=fun k hk=>by
  have hk':k<cs.size:=by omega
  obtain⟨u,hu,hok⟩:=hall k cs[k] (by simp[hk'])
  rw[List.length_replicate,Nat.mod_eq_of_lt hk,List.getElem?_replicate,if_pos hk] at hu
  cases hu
  unfold Cell.ok at hok
  rw[Go.Proofs.Tryz.underlying5] at hok
  rw[Array.getElem?_eq_getElem hk']
  cases hv:cs[k]<;>rw[hv] at hok<;>simp only at hok
  rename_i k' n
  obtain⟨rfl,h1,h2⟩:=hok
  have h1:0<=n:=h1
  have h2:n<=255:=h2
  refine⟨UInt8.ofNat n.toNat,?_⟩
  rw[UInt8.toNat_ofNat',Nat.mod_eq_of_lt (by omega),Int.toNat_of_nonneg h1]
 exact⟨fun k=>if hk:k<256 then Classical.choose (key k hk) else 0,cs,_,_,hh,fun k hk=>by
  show cs[k]?=some (.int .u8 ((if hk:k<256 then Classical.choose (key k hk) else 0:UInt8).toNat:Nat))
  rw[dif_pos hk];exact Classical.choose_spec (key k hk)⟩
variable {H:Type} {enc:TypeId×Value->H}
theorem agg_of {W:World} {base:Nat} {v:Value} {d:DataW H} {p:List MemPlace} {t:TypeId} {fs:Array Field} (hu:Tryz.prog.underlying t=some (.struct fs)) (hok:Value.okWide Tryz.prog W .any base t v) (h:DataW.Trod enc Tryz.prog W 0 (fun _=>true) true t v d p):∃cs:List Value,v=.agg cs.toArray/\∃n x,DataW.trod enc Tryz.prog W 0 (fun _=>true) true n t cs=some x:=by
 unfold Value.okWide at hok
 rw[hu] at hok
 obtain⟨cs,rfl,_,_⟩:=hok
 obtain⟨n,hn⟩:=h
 exact⟨cs.toList,rfl,n,_,hn⟩
theorem sl_of {W:World} {base:Nat} {v:Value} {d:DataW H} {p:List MemPlace} {t e:TypeId} (hu:Tryz.prog.underlying t=some (.slice e)) (hok:Value.okWide Tryz.prog W .any base t v) (h:DataW.Trod enc Tryz.prog W 0 (fun _=>true) true t v d p):∃n x,DataW.trod enc Tryz.prog W 0 (fun _=>true) true n t [v]=some x:=by
 unfold Value.okWide at hok
 rw[hu] at hok
 obtain⟨n,hn⟩:=h
 unfold Cell.okWide at hok
 rw[hu] at hok
 cases v with
 |agg cs=>
  unfold Cell.ok at hok
  rw[hu] at hok
  exact hok.elim
 |_=>exact⟨n,_,hn⟩
set_option maxRecDepth 100000 in
theorem sk_lifted (os:Os) (started:os.Started) (H:Type) (enc:TypeId×Value->H):
 ReturnsInHanded {} Tryz.checked os 3 .any (ChangeSpec.pre6 enc Tryz.prog Go.Proofs.Tryz.f3 Rows.fnTableSkipSpec [] false)
  (Rows.fnTableSkipSpec.post enc Tryz.prog Go.Proofs.Tryz.f3 false true false false):=by
 refine returnsInHanded_of_calls (C:=Tryz.checked) Tryz.own started (by kernel_rfl)
  (ChangeSpec.witness6 (enc:=enc) (C:=Tryz.checked) (os:=os) (fn:=Go.Proofs.Tryz.f3) (s:=Rows.fnTableSkipSpec) (conds:=[]) (apart:=false) false ⟨#[],#[.slice none 0 0,.int .i64 0,.int .i64 0,.agg #[.int .i64 0,.bool false,.bool false,.bool false,.bool false,.bool false]],[]⟩ 8 (by kernel_rfl) (by kernel_rfl) (by kernel_rfl) (by kernel_rfl)) ?_
 intro w tape i _ hsh _ hok hpre _
 obtain⟨_,_,_,fn',hfn',_,_,_,_,hval0⟩:=hok
 have e:fn'=Go.Proofs.Tryz.f3:=Option.some.inj (hfn'.symm.trans Go.Proofs.Tryz.func3)
 subst e
 obtain⟨⟨ds,gs,before,hw,hc⟩,_⟩:=hpre
 have hW:=DataW.Whole.of_heap (w':=w.forCall tape i) (by rfl) hw
 have hW':=hW
 have hltW:=hW.lt
 obtain⟨p,q,hA0,hV0,rfl,hfz,hnd⟩:=hW
 obtain⟨args,iargs⟩:∃a,a=i.args:=⟨_,rfl⟩
 rw[←iargs] at hA0 hval0 hW'⊢
 obtain⟨f,hbl⟩:=blanks_of_shape hsh
 letI:=skSyms f
 generalize w.forCall tape i=W at*
 have hA:DataW.TrodAll enc Go.Proofs.Tryz.prog W 0 (fun _=>true) true Go.Proofs.Tryz.f3.params.toList args.toList ds p:=hA0
 have hV:DataW.TrodVars enc Go.Proofs.Tryz.prog W (fun _=>true) [] gs q:=hV0
 have hval:∀(j:Nat) t v,Go.Proofs.Tryz.f3.params[j]?=some t->args[j]?=some v->Value.okWide Go.Proofs.Tryz.prog W .any w.heap.size t v:=hval0
 rw[Go.Proofs.Tryz.params3] at hA hval
 obtain⟨v0,v1,v2,v3,d0,d1,d2,d3,p0,p1,p2,p3,rfl,rfl,rfl,h0,h1,h2,h3⟩:=trodAll_four hA
 obtain⟨n1,rfl,rfl,rfl,_⟩:=open_int Go.Proofs.Tryz.underlying3 (hval 1 3 v1 rfl rfl) h1
 obtain⟨n2,rfl,rfl,rfl,_⟩:=open_int Go.Proofs.Tryz.underlying3 (hval 2 3 v2 rfl rfl) h2
 obtain⟨cs,rfl,n3,x3,t3⟩:=agg_of Go.Proofs.Tryz.underlying24 (hval 3 24 v3 rfl rfl) h3
 obtain⟨n0,x0,t0⟩:=sl_of Go.Proofs.Tryz.underlying22 (hval 0 22 v0 rfl rfl) h0
 obtain⟨op,ok,om,opr,os',ops,rfl⟩:=opt_data t3
 obtain⟨rfl,rfl⟩:=trodVars_none hV
 have hb0:0<W.heap.size:=by
  obtain⟨c,e,fz,hh,_⟩:=hbl
  exact(Array.getElem?_eq_some_iff.1 hh).1
 obtain⟨R,F,hden⟩:=rows_den t0
 refine(sk_calls (W:=W) (a:=n1) (n:=n2) (p:=op) (k:=ok) (m:=om) (pr:=opr) (s:=os') (ps:=ops) hbl (fun r hr=>by have hr:r<1:=hr;omega) (fun c hc=>by show(0==0&&Nat.blt c 256)=true;rw[show Nat.blt c 256=true from by rw[Nat.blt_eq];exact hc];rfl) hden).mono fun e W2 ⟨he,hb⟩=>?_
 subst he
 refine ChangeSpec.post_blind ?_
 have hlt:∀x∈p0++[]++[]++p3,x.block<W.heap.size:=fun x hx=>hltW x (List.mem_append_left _ hx)
 have e1:Rows.fnTableSkipSpec.fn H ([d0,.lit (.int .i64 n1),.lit (.int .i64 n2),d3]++[])={results:=[.lit (.bool true)],args:=[d0,.lit (.int .i64 n1),.lit (.int .i64 n2),d3]}:=rfl
 refine⟨_,_,_,[],p0++([]++([]++p3)),[],hW',?_,?_,?_,hb.frame _,fun h=>by cases h⟩
 ·rw[e1];exact trodAll_mk1 (shut_bool Go.Proofs.Tryz.underlying4 true)
 ·rw[e1]
  exact trodAll_mk4 (Below.trod Tryz.laidOut (by kernel_rfl) (of_decide_eq_true (by kernel_rfl)) h0 hb (fun x hx=>hlt x (by simp[hx])))
   (Below.trod Tryz.laidOut (by kernel_rfl) (of_decide_eq_true (by kernel_rfl)) h1 hb (fun x hx=>by cases hx))
   (Below.trod Tryz.laidOut (by kernel_rfl) (of_decide_eq_true (by kernel_rfl)) h2 hb (fun x hx=>by cases hx))
   (Below.trod Tryz.laidOut (by kernel_rfl) (of_decide_eq_true (by kernel_rfl)) h3 hb (fun x hx=>hlt x (by simp[hx])))
 ·rw[e1];rfl
theorem fnTableSkip_holds:Rows.FnTableSkipSaid:=
 OpenClaim.holds_of_wide 3 Go.Proofs.Tryz.f3 rfl rfl rfl rfl rfl rfl rfl ⟨rfl,rfl,rfl,rfl,rfl⟩ rfl rfl rfl rfl rfl (by kernel_rfl) Go.Proofs.Tryz.func3 skFacts
  (of_decide_eq_true (by kernel_rfl)) (by unfold Func.isWrapper;rw[if_neg (of_decide_eq_false (by kernel_rfl))];exact⟨rfl,rfl⟩)
  (fun os started H enc _=>sk_lifted os started H enc)
#print axioms fnTableSkip_holds
end Go.Proofs.YtjkgmpkgfhhaiaaGreat
