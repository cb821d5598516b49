/- Lemmas of this claim; the last text says what is proved. -/
import Derived.Test.YtjkgmpkgfhhaiaaGreatK51
import Derived.Test.YtjkgmpkgfhhaiaaGreatRows
import Derived.ProofKit
import Derived.OpenShut
import Derived.ChangeArms
import Derived.Carry
import Derived.Handed
import Derived.ShapedOpen
set_option linter.all false
set_option maxRecDepth 1000000
namespace Tk
open Go Go.Sx Go.Proofs Go.ChangeShapes Go.WideShapes Go.ChangeAt Go.RowKit
open Q
variable [Syms]
def worldI (W:World):Inj:=⟨fun _=>none,fun r=>W.heap[r]?,fun _=>none⟩
def worldF:Fp:=⟨fun _=>False,fun _=>False,fun _=>True⟩
theorem world_inv {W:World} (hg:Syms.good W) (hng:∀r,r<Syms.ng->r<W.heap.size):Inv W worldF (worldI W) (hpD ⟨0,[],noSt⟩ [] []) W:=
 ⟨fun id b h=>(by cases hpD_get h),fun i j b c r h=>(by cases hpD_get h),fun _ _=>rfl,fun _ _ _=>rfl,Nat.le_refl _,rfl,rfl,rfl,⟨hg,fun r hr=>⟨hng r hr,fun h=>h⟩⟩,
  ⟨fun r o hm=>⟨hm,.inl trivial⟩,fun k b r hk=>(by cases hpD_get hk),fun x b r hx=>(by cases hx),fun x y r h=>(by cases h),fun x r h=>(by cases h)⟩⟩
theorem cell_at {W:World} {a:Addr} {v:Value} (h:W.cell? a=some v):a.spot=none/\∃c e fz,W.heap[a.block]?=some (.cells c e fz)/\c[a.off]?=some v:=by
 unfold World.cell? at h
 split at h
 ·rename_i c e fz hb
  split at h
  ·cases h
  ·rename_i hs
   refine⟨?_,c,e,fz,hb,h⟩
   cases hsp:a.spot with
   |none=>rfl
   |some x=>rw[hsp] at hs;exact absurd rfl hs
 ·cases h
theorem den_fmw {W:World} {a:Addr} {len cap wd:Nat} {f:Nat->List AVal} (hw:0<wd) (hl:len<=cap) (h:∀i,i<len->∃cs,W.cells? 0 (a.add (i*wd)) wd=some cs/\DenL (worldI W) (f i) cs):Den (worldI W) (.fmw f wd len) (.slice (some a) len cap):=by
 by_cases h0:len=0
 ·subst h0;exact .fmw0
 have hc:∀i,i<len->∃cs,cs.length=wd/\DenL (worldI W) (f i) cs/\∀j,j<wd->W.cell? ((a.add (i*wd)).add j)=cs[j]?:=fun i hi=>by
  obtain⟨cs,h1,h2⟩:=h i hi
  obtain⟨_,h3,h4⟩:=World.cells?_some h1
  exact⟨cs,h3,h2,h4⟩
 obtain⟨cs0,l0,_,c0⟩:=hc 0 (by omega)
 have ha:W.cell? a=cs0[0]?:=by
  have:=c0 0 hw
  simpa[Addr.add] using this
 have ha':W.cell? a=some cs0[0]:=by rw[ha];exact List.getElem?_eq_getElem (by omega)
 obtain⟨hs,c,e,fz,hb,_⟩:=cell_at ha'
 have key:∀i j,i<len->j<wd->∀cs:List Value,W.cell? ((a.add (i*wd)).add j)=cs[j]?->cs.length=wd->c.toList[a.off+(i*wd+j)]?=cs[j]?:=fun i j hi hj cs hcell hlen=>by
  have hj':j<cs.length:=by omega
  rw[List.getElem?_eq_getElem hj'] at hcell⊢
  obtain⟨_,c',e',fz',hb',hv⟩:=cell_at hcell
  have eb:((a.add (i*wd)).add j).block=a.block:=by
   unfold Addr.add;split<;>split<;>rfl
  have eo:((a.add (i*wd)).add j).off=a.off+(i*wd+j):=by
   unfold Addr.add;split<;>split<;>simp<;>omega
  rw[eb,hb] at hb'
  cases hb'
  rw[eo] at hv
  rw[Array.getElem?_toList];exact hv
 obtain⟨csl,ll,_,cl⟩:=hc (len-1) (by omega)
 have hsize:a.off+len*wd<=c.toList.length:=by
  have:=key (len-1) (wd-1) (by omega) (by omega) csl (cl (wd-1) (by omega)) ll
  rw[List.getElem?_eq_getElem (show wd-1<csl.length by omega)] at this
  have:=(List.getElem?_eq_some_iff.1 this).1
  have e1:(len-1)*wd+wd=len*wd:=by rw[←Nat.succ_mul,Nat.succ_eq_add_one];congr 1;omega
  omega
 have hlist:c=(c.toList.take a.off++((c.toList.drop a.off).take (len*wd)++(c.toList.drop a.off).drop (len*wd))).toArray:=by
  rw[List.take_append_drop,List.take_append_drop]
 have hvl:((c.toList.drop a.off).take (len*wd)).length=len*wd:=by
  rw[List.length_take,List.length_drop];omega
 have ea:a=⟨a.block,a.off,none⟩:=by rw[←hs]
 rw[ea]
 refine .fmw (e:=e) (fz:=fz) (by show W.heap[a.block]?=_;rw[hb,←hlist]) hvl (fun k hk=>?_) hl (by rw[List.length_take];omega)
 obtain⟨cs,hlen,hden,hcell⟩:=hc k hk
 have:(((c.toList.drop a.off).take (len*wd)).drop (k*wd)).take wd=cs:=by
  apply List.ext_getElem?
  intro j
  by_cases hj:j<wd
  ·have hkw:k*wd+wd<=len*wd:=by rw[←Nat.succ_mul];exact Nat.mul_le_mul_right _ hk
   rw[List.getElem?_take_of_lt hj,List.getElem?_drop,List.getElem?_take_of_lt (by omega),List.getElem?_drop]
   exact key k j hk hj cs (hcell j hj) hlen
  ·rw[List.getElem?_eq_none (by rw[List.length_take];omega),List.getElem?_eq_none (by omega)]
 rw[this];exact hden
theorem den_fam {W:World} {a:Addr} {len cap:Nat} {f:Nat->AVal} (hl:len<=cap) (h:∀i,i<len->∃v,W.cells? 0 (a.add i) 1=some [v]/\Den (worldI W) (f i) v):Den (worldI W) (.fam f len) (.slice (some a) len cap):=by
 have:=den_fmw (W:=W) (a:=a) (len:=len) (cap:=cap) (wd:=1) (f:=fun i=>[f i]) (by omega) hl fun i hi=>by
  obtain⟨v,h1,h2⟩:=h i hi
  exact⟨[v],by rw[Nat.mul_one];exact h1,.cons h2 .nil⟩
 cases this with
 |fmw hm hn hv hl ho=>
  refine .fam hm (by rw[hn,Nat.mul_one]) (fun k v hk=>?_) hl ho
  have hk':=(List.getElem?_eq_some_iff.1 hk).1
  have:=hv k (by rw[hn,Nat.mul_one] at hk';exact hk')
  rw[Nat.mul_one] at this
  obtain⟨y,hy,hd⟩:=this.get 0 rfl
  rw[List.getElem?_take_of_lt (by omega),List.getElem?_drop,Nat.add_zero,hk] at hy
  cases hy;exact hd
 |fmw0=>exact .fam0
variable {H:Type} {enc:TypeId×Value->H} {W:World}
theorem u37:∃fs,Tryz.prog.underlying 37=some (.struct fs)/\fs.size=5/\(∀f,fs[0]?=some f->f.type=9/\f.offset=0)/\(∀f,fs[1]?=some f->f.type=4/\f.offset=1)/\(∀f,fs[2]?=some f->f.type=9/\f.offset=2)/\(∀f,fs[3]?=some f->f.type=3/\f.offset=3)/\(∀f,fs[4]?=some f->f.type=3/\f.offset=4):=by
 refine⟨_,Tryz.underlying37,rfl,?_,?_,?_,?_,?_⟩<;>(intro f h;cases h;exact⟨rfl,rfl⟩)
theorem u24:∃fs,Tryz.prog.underlying 24=some (.struct fs)/\fs.size=6/\(∀f,fs[0]?=some f->f.type=3/\f.offset=0)/\(∀f,fs[1]?=some f->f.type=4/\f.offset=1)/\(∀f,fs[2]?=some f->f.type=4/\f.offset=2)/\(∀f,fs[3]?=some f->f.type=4/\f.offset=3)/\(∀f,fs[4]?=some f->f.type=4/\f.offset=4)/\(∀f,fs[5]?=some f->f.type=4/\f.offset=5):=by
 refine⟨_,Tryz.underlying24,rfl,?_,?_,?_,?_,?_,?_⟩<;>(intro f h;cases h;exact⟨rfl,rfl⟩)
theorem c37:Tryz.prog.cellsOf 37=5:=by kernel_rfl
theorem c24:Tryz.prog.cellsOf 24=6:=by kernel_rfl
theorem c9:Tryz.prog.cellsOf 9=1:=by kernel_rfl
theorem c4:Tryz.prog.cellsOf 4=1:=by kernel_rfl
theorem c3:Tryz.prog.cellsOf 3=1:=by kernel_rfl
theorem c26:Tryz.prog.cellsOf 26=1:=by kernel_rfl
variable {sp:Nat->Bool} {held:Bool}
theorem field_at {fs:Array Field} {n i ty:Nat} {cs:List Value} {xs:List (DataW H×List MemPlace)} (hl:i<fs.size) (hx:xs.length=fs.size) (hf:∀(i:Nat) (f:Field),fs[i]?=some f->DataW.trod enc Tryz.prog W 0 sp held n f.type ((cs.drop f.offset).take (Tryz.prog.cellsOf f.type))=xs[i]?) (h:∀f,fs[i]?=some f->f.type=ty/\f.offset=i) (hc:Tryz.prog.cellsOf ty=1):∃y,DataW.trod enc Tryz.prog W 0 sp held n ty ((cs.drop i).take 1)=some y:=by
 have e:=Array.getElem?_eq_getElem hl
 have h1:=hf i _ e
 obtain⟨h2,h3⟩:=h _ e
 rw[h2,h3,hc,List.getElem?_eq_getElem (by omega)] at h1
 exact⟨_,h1⟩
theorem str_by (s:ByteArray):(.string s:Value)=.string ⟨s.data.toList.toArray⟩:=rfl
theorem cell_data {n:Nat} {cs:List Value} {x:DataW H×List MemPlace} (h:DataW.trod enc Tryz.prog W 0 sp held n 37 cs=some x):∃d:By×Bool×By×Int×Int,cs=[.string ⟨d.1.toArray⟩,.bool d.2.1,.string ⟨d.2.2.1.toArray⟩,.int .i64 d.2.2.2.1,.int .i64 d.2.2.2.2]:=by
 obtain⟨fs,hu,hs,f0,f1,f2,f3,f4⟩:=u37
 obtain⟨xs,m,rfl,rfl,hl,hx,hf⟩:=DataW.trod_struct hu h
 rw[c37] at hl
 obtain⟨y0,t0⟩:=field_at (i:=0) (by omega) hx hf f0 c9
 obtain⟨y1,t1⟩:=field_at (i:=1) (by omega) hx hf f1 c4
 obtain⟨y2,t2⟩:=field_at (i:=2) (by omega) hx hf f2 c9
 obtain⟨y3,t3⟩:=field_at (i:=3) (by omega) hx hf f3 c3
 obtain⟨y4,t4⟩:=field_at (i:=4) (by omega) hx hf f4 c3
 match cs,hl with
 |[v0,v1,v2,v3,v4],_=>
  obtain⟨s0,e0,_⟩:=DataW.trod_string Tryz.underlying9 t0
  obtain⟨b1,e1,_⟩:=DataW.trod_bool Tryz.underlying4 t1
  obtain⟨s2,e2,_⟩:=DataW.trod_string Tryz.underlying9 t2
  obtain⟨n3,e3,_⟩:=DataW.trod_int Tryz.underlying3 t3
  obtain⟨n4,e4,_⟩:=DataW.trod_int Tryz.underlying3 t4
  simp only[List.drop_zero,List.drop_succ_cons,List.take_succ_cons,List.take_zero,List.cons.injEq,and_true] at e0 e1 e2 e3 e4
  subst e0;subst e1;subst e2;subst e3;subst e4
  exact⟨(s0.data.toList,b1,s2.data.toList,n3,n4),rfl⟩
theorem row_den {n:Nat} {v:Value} {x:DataW H×List MemPlace} (h:DataW.trod enc Tryz.prog W 0 sp held n 26 [v]=some x):∃X:RowX,Den (worldI W) (.fmw (cellX X) 5 X.n) v:=by
 classical
 rcases DataW.trod_slice Tryz.underlying26 h with⟨e,_⟩|⟨a,len,cap,elems,rest,m,_,e,_,_,hl,_,hlen,hel,_⟩
 ·simp only[List.cons.injEq,and_true] at e
  subst e
  exact⟨⟨fun _=>[],fun _=>false,fun _=>[],fun _=>0,fun _=>0,0⟩,.fmw0⟩
 ·simp only[List.cons.injEq,and_true] at e
  subst e
  have key:∀i,i<len->∃d:By×Bool×By×Int×Int,W.cells? 0 (a.add (i*5)) 5=some [.string ⟨d.1.toArray⟩,.bool d.2.1,.string ⟨d.2.2.1.toArray⟩,.int .i64 d.2.2.2.1,.int .i64 d.2.2.2.2]:=fun i hi=>by
   have h1:=hel i hi
   rw[c37,List.getElem?_eq_getElem (by omega),Option.bind_eq_some_iff] at h1
   obtain⟨cs,h2,h3⟩:=h1
   obtain⟨d,rfl⟩:=cell_data h3
   exact⟨d,h2⟩
  let g:Nat->By×Bool×By×Int×Int:=fun i=>if h:i<len then Classical.choose (key i h) else([],false,[],0,0)
  have hg:∀i,i<len->W.cells? 0 (a.add (i*5)) 5=some [.string ⟨(g i).1.toArray⟩,.bool (g i).2.1,.string ⟨(g i).2.2.1.toArray⟩,.int .i64 (g i).2.2.2.1,.int .i64 (g i).2.2.2.2]:=fun i hi=>by
   have e:g i=Classical.choose (key i hi):=by simp only[g];rw[dif_pos hi]
   rw[e];exact Classical.choose_spec (key i hi)
  exact⟨⟨fun i=>(g i).1,fun i=>(g i).2.1,fun i=>(g i).2.2.1,fun i=>(g i).2.2.2.1,fun i=>(g i).2.2.2.2,len⟩,den_fmw (by omega) hl fun i hi=>⟨_,hg i hi,.cons .str (.cons .lit (.cons .str (.cons .lit (.cons .lit .nil))))⟩⟩
theorem rows_den {n:Nat} {v:Value} {x:DataW H×List MemPlace} (h:DataW.trod enc Tryz.prog W 0 sp held n 22 [v]=some x):∃(R:Nat) (F:Nat->RowX),Den (worldI W) (.fam (fun i=>.fmw (cellX (F i)) 5 (F i).n) R) v:=by
 classical
 rcases DataW.trod_slice Tryz.underlying22 h with⟨e,_⟩|⟨a,len,cap,elems,rest,m,_,e,_,_,hl,_,hlen,hel,_⟩
 ·simp only[List.cons.injEq,and_true] at e
  subst e
  exact⟨0,fun _=>⟨fun _=>[],fun _=>false,fun _=>[],fun _=>0,fun _=>0,0⟩,.fam0⟩
 ·simp only[List.cons.injEq,and_true] at e
  subst e
  have key:∀i,i<len->∃X:RowX,∃v,W.cells? 0 (a.add i) 1=some [v]/\Den (worldI W) (.fmw (cellX X) 5 X.n) v:=fun i hi=>by
   have h1:=hel i hi
   rw[c26,Nat.mul_one,List.getElem?_eq_getElem (by omega),Option.bind_eq_some_iff] at h1
   obtain⟨cs,h2,h3⟩:=h1
   obtain⟨_,hl1,_⟩:=World.cells?_some h2
   match cs,hl1 with
   |[v],_=>
    obtain⟨X,hX⟩:=row_den h3
    exact⟨X,v,h2,hX⟩
  let F:Nat->RowX:=fun i=>if h:i<len then Classical.choose (key i h) else⟨fun _=>[],fun _=>false,fun _=>[],fun _=>0,fun _=>0,0⟩
  have hF:∀i,i<len->∃v,W.cells? 0 (a.add i) 1=some [v]/\Den (worldI W) (.fmw (cellX (F i)) 5 (F i).n) v:=fun i hi=>by
   have e:F i=Classical.choose (key i hi):=by simp only[F];rw[dif_pos hi]
   rw[e];exact Classical.choose_spec (key i hi)
  exact⟨len,F,den_fam hl hF⟩
open Classical in
noncomputable def tdRows (R:Nat) (F:Nat->RowX) (p:Int) (k m pr ps:Bool):TD where
 R:=R
 C:=fun i=>if i<R then(F i).n else 0
 hd:=false
 tx:=fun i j=>if i<R/\j<(F i).n then(F i).t j else[]
 pad:=[]
 keep:=[]
 span:=[]
 promote:=pr
 pres:=ps
 hh:=fun i=>(F i).h
 al:=fun i=>(F i).a
 cc:=fun i=>(F i).c
 rr:=fun i=>(F i).r
 oP:=p
 oK:=k
 oM:=m
theorem rows_sub {R:Nat} {F:Nat->RowX} {p:Int} {k m pr ps:Bool}:SubA 0 (.fam (fun i=>.fmw (cellX (F i)) 5 (F i).n) R) (rowsA (tdRows R F p k m pr ps)):=SubA.fam fun i hi=>by
 have e:(tdRows R F p k m pr ps).C i=(F i).n:=by show(if i<R then _ else _)=_;rw[if_pos hi]
 rw[e]
 refine SubA.fmw fun j hj=>?_
 have e2:cellX (rowX (tdRows R F p k m pr ps) i) j=cellX (F i) j:=by
  have:(tdRows R F p k m pr ps).tx i j=(F i).t j:=by show(if i<R/\j<(F i).n then _ else _)=_;rw[if_pos ⟨hi,hj⟩]
  unfold cellX rowX
  simp only[this]
  rfl
 rw[e2];exact nlL_sub rfl
theorem tdRows_src {R:Nat} {F:Nat->RowX} {p:Int} {k m pr ps:Bool} (hg:∀c,c<256->Syms.gn 0 c=true):srcT (tdRows R F p k m pr ps):=by
 refine⟨fun i hi=>?_,fun i j h=>?_,hg⟩
 ·have hi:R<=i:=hi
  show(if i<R then _ else _)=_
  rw[if_neg (by omega)]
 ·show(if i<R/\j<(F i).n then _ else _)=_
  rw[if_neg]
  rintro⟨h1,h2⟩
  rcases h with h|h
  ·have h:R<=i:=h
   omega
  ·have h:(if i<R then(F i).n else 0)<=j:=h
   rw[if_pos h1] at h
   omega
theorem opt_data {n:Nat} {cs:List Value} {x:DataW H×List MemPlace} (h:DataW.trod enc Tryz.prog W 0 sp held n 24 cs=some x):∃(p:Int) (k m pr s ps:Bool),cs=[.int .i64 p,.bool k,.bool m,.bool pr,.bool s,.bool ps]:=by
 obtain⟨fs,hu,hs,f0,f1,f2,f3,f4,f5⟩:=u24
 obtain⟨xs,m,rfl,rfl,hl,hx,hf⟩:=DataW.trod_struct hu h
 rw[c24] at hl
 obtain⟨y0,t0⟩:=field_at (i:=0) (by omega) hx hf f0 c3
 obtain⟨y1,t1⟩:=field_at (i:=1) (by omega) hx hf f1 c4
 obtain⟨y2,t2⟩:=field_at (i:=2) (by omega) hx hf f2 c4
 obtain⟨y3,t3⟩:=field_at (i:=3) (by omega) hx hf f3 c4
 obtain⟨y4,t4⟩:=field_at (i:=4) (by omega) hx hf f4 c4
 obtain⟨y5,t5⟩:=field_at (i:=5) (by omega) hx hf f5 c4
 match cs,hl with
 |[v0,v1,v2,v3,v4,v5],_=>
  obtain⟨n0,e0,_⟩:=DataW.trod_int Tryz.underlying3 t0
  obtain⟨b1,e1,_⟩:=DataW.trod_bool Tryz.underlying4 t1
  obtain⟨b2,e2,_⟩:=DataW.trod_bool Tryz.underlying4 t2
  obtain⟨b3,e3,_⟩:=DataW.trod_bool Tryz.underlying4 t3
  obtain⟨b4,e4,_⟩:=DataW.trod_bool Tryz.underlying4 t4
  obtain⟨b5,e5,_⟩:=DataW.trod_bool Tryz.underlying4 t5
  simp only[List.drop_zero,List.drop_succ_cons,List.take_succ_cons,List.take_zero,List.cons.injEq,and_true] at e0 e1 e2 e3 e4 e5
  subst e0;subst e1;subst e2;subst e3;subst e4;subst e5
  exact⟨n0,b1,b2,b3,b4,b5,rfl⟩
set_option maxRecDepth 100000 in
theorem sk_calls {R:Nat} {F:Nat->RowX} {v0:Value} {a n p:Int} {k m pr s ps:Bool} (hg:Syms.good W) (hng:∀r,r<Syms.ng->r<W.heap.size) (hgn:∀c,c<256->Syms.gn 0 c=true) (h0:Den (worldI W) (.fam (fun i=>.fmw (cellX (F i)) 5 (F i).n) R) v0):
 Calls Tryz.prog 3 #[v0,.int .i64 a,.int .i64 n,.agg #[.int .i64 p,.bool k,.bool m,.bool pr,.bool s,.bool ps]] W fun e W'=>e=.returned (.bool true)/\Below W.heap.size W W':=by
 have hd:DenL (worldI W) ((skS (tdRows R F p k m pr ps) a n s).args1 ()) [v0,.int .i64 a,.int .i64 n,.agg #[.int .i64 p,.bool k,.bool m,.bool pr,.bool s,.bool ps]]:=
  .cons (rows_sub (worldI W) (worldI W) _ (Inj.bare_le _ _) h0) (.cons .lit (.cons .lit (.cons (.agg (.cons .lit (.cons .lit (.cons .lit (.cons .lit (.cons .lit (.cons .lit .nil))))))) .nil)))
 refine Calls.mono ((sk_ok (tdRows R F p k m pr ps) a n s).1 () (tdRows_src hgn) W worldF (worldI W) W _ (world_inv hg hng) hd) fun e W' he=>?_
 cases e with
 |panicked _=>exact he.elim
 |outgrown=>exact he.elim
 |returned v=>
  obtain⟨av,H',ι',⟨x,_,hent⟩,hda,hle,hinv⟩:=he
  obtain⟨ι3,_,hinv3,hd3⟩:=entV_ok hent hinv hda
  cases hd3
  exact⟨rfl,hinv.os,hinv.tape,hinv.output,hinv.size,fun k hk=>hinv.frame k hk (fun h=>h)⟩
end Tk
