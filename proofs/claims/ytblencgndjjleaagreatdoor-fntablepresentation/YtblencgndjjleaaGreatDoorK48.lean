/- Lemmas of this claim; the last text says what is proved. -/
import Derived.Test.YtblencgndjjleaaGreatDoorK47
import Derived.Test.YtblencgndjjleaaGreatDoorRows
import Derived.ProofKit
import Derived.OpenShut
import Derived.ChangeArms
import Derived.Carry
import Derived.Handed
import Derived.ShapedOpen
set_option linter.all false
set_option maxRecDepth 1000000
namespace Tk
open Go Go.Sx Go.Proofs
open Q
variable [Syms]
def pkR(T:TD):Prop:=
 letI f2:= !T.pres;letI e2:=ATot.n 5;letI d2:=vR T true;letI b2:=vR T false;letI c2:=List UInt8;letI z1:=noSt=noSt;letI a2:=AVal.str [];letI y1:=Value.bool true;letI u1:=post (docF d2);letI t1:=post (docF b2);letI s1:=AVal.str [(116:UInt8),114];letI r1:=AVal.lit (Value.slice none 0 0);letI n1:=AVal.lit (Value.int .i64 (Int.ofNat 0));letI p1:=AVal.lit (Value.int .i64 (Int.ofNat 1));letI q1:=AVal.lit (Value.int .i64 (Int.ofNat 3));letI m1:=AVal.str [(116:UInt8),97,98,108,101];letI k1:=AVal.str [(116:UInt8),98,111,100,121];letI g1:=∃(x:Unit),True/\z1/\True/\True/\y1=y1/\True;letI f1:=∃(x:Unit),True/\z1/\True/\True/\Value.bool false=y1/\True;letI e1:=[AVal.str [(114:UInt8),111,108,101],AVal.str [(112:UInt8),114,101,115,101,110,116,97,116,105,111,110]];letI d1:=[q1,a2,a2,r1,AVal.slc 1 0 1 (ACap.n 1)];letI b1:=[AVal.lit (Value.int .i64 T.oP),AVal.lit (Value.bool T.oK),AVal.lit (Value.bool T.oM),AVal.lit (Value.bool T.promote),AVal.lit (Value.bool T.skip),AVal.lit (Value.bool T.pres)];letI c1:=Tr.node (some (ABlk.row d1 29 e2)) Tr.nil Tr.nil;letI v:=some (ABlk.row b1 24 (ATot.n (1+1+1+1+1+1)));letI u:=(TD.Ok d2/\ntT d2/\d2.hd=d2.hh 0 0/\d2.role=true)/\d2.pad=padF d2.oP/\d2.keep=keepF d2.oK/\d2.span=spanF d2.oM;letI s:=(TD.Ok b2/\ntT b2/\b2.hd=b2.hh 0 0/\b2.role=false)/\b2.pad=padF b2.oP/\b2.keep=keepF b2.oK/\b2.span=spanF b2.oM;letI q:=[AVal.agg d1,AVal.agg b1];letI p:=fun(i:Nat)=>letI h1:=RowX.mk (T.4 i) (T.12 i) (T.13 i) (T.14 i) (T.15 i) (T.C i);AVal.fmw (fun(j:Nat)=>[AVal.str (h1.t j),AVal.lit (Value.bool (h1.h j)),AVal.str (h1.a j),AVal.lit (Value.int .i64 (h1.c j)),AVal.lit (Value.int .i64 (h1.r j))]) 5 (T.C i);letI n:=AVal.fmw (fun(x:Nat)=>[n1,k1,a2,r1,AVal.fmw (fun(i:Nat)=>[n1,s1,a2,r1,AVal.fmw (fun(j:Nat)=>[n1,AVal.str (hT T i j),a2,r1,AVal.fmw (fun(x:Nat)=>[p1,a2,AVal.str (T.tx i j),r1,r1]) 5 (kidN (T.tx i j))]) 5 (T.C i)]) 5 T.R]) 5 1;letI m:=SubF p p T.R [];letI k:=[AVal.agg [q1,a2,a2,r1,AVal.fmw (fun(x:Nat)=>[n1,m1,a2,r1,AVal.fmw (fun(x:Nat)=>[n1,k1,a2,r1,AVal.fmw (fun(i:Nat)=>[n1,s1,a2,r1,AVal.fmw (fun(j:Nat)=>letI v1:=b2.tx i j;[n1,AVal.str (hT b2 i j),a2,r1,AVal.fmw (fun(x:Nat)=>[p1,a2,AVal.str v1,r1,r1]) 5 (kidN v1)]) 5 (b2.C i)]) 5 b2.R]) 5 1]) 5 1],AVal.agg [AVal.lit (Value.int .i64 b2.oP),AVal.lit (Value.bool b2.oK),AVal.lit (Value.bool b2.oM),AVal.lit (Value.bool b2.promote),AVal.lit (Value.bool b2.skip),AVal.lit (Value.bool b2.pres)]];letI g:=AHeap.mk (Tr.node v (Tr.node (some (ABlk.row [n1,m1,a2,r1,n] 29 e2)) Tr.nil Tr.nil) c1) 3 [] [] noSt;letI f:=[AVal.agg [q1,a2,a2,r1,AVal.fmw (fun(x:Nat)=>[n1,m1,a2,AVal.fmw (fun(x:Nat)=>e1) 2 1,AVal.fmw (fun(x:Nat)=>[n1,k1,a2,r1,AVal.fmw (fun(i:Nat)=>[n1,s1,a2,r1,AVal.fmw (fun(j:Nat)=>letI w1:=d2.tx i j;[n1,AVal.str (hT d2 i j),a2,r1,AVal.fmw (fun(x:Nat)=>[p1,a2,AVal.str w1,r1,r1]) 5 (kidN w1)]) 5 (d2.C i)]) 5 d2.R]) 5 1]) 5 1],AVal.agg [AVal.lit (Value.int .i64 d2.oP),AVal.lit (Value.bool d2.oK),AVal.lit (Value.bool d2.oM),AVal.lit (Value.bool d2.promote),AVal.lit (Value.bool d2.skip),AVal.lit (Value.bool d2.pres)]];letI e:=AHeap.mk (Tr.node v (Tr.node (some (ABlk.row [n1,m1,a2,AVal.slc 3 0 1 (ACap.n 1),n] 29 e2)) (Tr.node (some (ABlk.row e1 34 (ATot.n 2))) Tr.nil Tr.nil) Tr.nil) c1) 4 [] [] noSt;letI d:=Bor e q k;letI b:=Bor e q f;z1/\True/\T.R=T.R/\m/\∀(x:Bool),(x=true->fitT T)->br (!x) g1 (z1/\fitT T/\T.R=T.R/\m/\∀(x:Bool),(x=true->T.R<=12/\ntT T)->br (!x) g1 (z1/\ntT T/\T.R=T.R/\m/\∀(x:Unit),True->(s/\Bor g q k/\∀(x:c2),x=t1->(s/\d/\∀(x_1:c2),x_1=t1->z1/\(ASC x_1/\List.length x_1<=1099511627776)/\x_1=x_1/\∀(x_2:Bool),letI w:=br f2 (∃(x:Unit),True/\z1/\True/\True/\(Value.bool !x_2)=y1/\True) f1;((∀(c:UInt8),c∈x_1->UInt8.toNat c≠124)->x_2=false)->br T.pres (br (eqL x x_1) g1 w) w)\/u/\b/\∀(x_1:c2),x_1=u1->z1/\(ASC x_1/\List.length x_1<=1099511627776)/\x_1=x_1/\∀(x_2:Bool),letI y:=br f2 (∃(x:Unit),True/\z1/\True/\True/\(Value.bool !x_2)=y1/\True) f1;((∀(c:UInt8),c∈x_1->UInt8.toNat c≠124)->x_2=false)->br T.pres (br (eqL x x_1) g1 y) y)\/u/\Bor g q f/\∀(x:c2),x=u1->(s/\d/\∀(x_1:c2),x_1=t1->z1/\(ASC x_1/\List.length x_1<=1099511627776)/\x_1=x_1/\∀(x_2:Bool),letI z:=br f2 (∃(x:Unit),True/\z1/\True/\True/\(Value.bool !x_2)=y1/\True) f1;((∀(c:UInt8),c∈x_1->UInt8.toNat c≠124)->x_2=false)->br T.pres (br (eqL x x_1) g1 z) z)\/u/\b/\∀(x_1:c2),x_1=u1->z1/\(ASC x_1/\List.length x_1<=1099511627776)/\x_1=x_1/\∀(x_2:Bool),letI a1:=br f2 (∃(x:Unit),True/\z1/\True/\True/\(Value.bool !x_2)=y1/\True) f1;((∀(c:UInt8),c∈x_1->UInt8.toNat c≠124)->x_2=false)->br T.pres (br (eqL x x_1) g1 a1) a1))
set_option maxHeartbeats 4000000
theorem x_i(T:TD):TabOk Tryz.prog (pkU T):=by
 refine⟨fun f s h=>?_,fun f s h=>?_⟩
 ·unfold pkU at h
  simp only at h
  split at h
  ·cases h;exact a_d w_P (F_o T).1
  ·cases h;exact a_d w_R (F_z T).1
  ·cases h;exact a_d w_W (F_R T).1
  ·cases h;exact w_I (fun U=>(F_U U).1) (fun U=>(F_X U).1) w_1
  ·cases h;exact a_d x_h (G_t T).1
  ·cases h
 ·cases h
theorem I_9(T:TD)(hd:srcT T):pkR T:=by
 unfold pkR
 have rF:∀us,SubF (fun i=>AVal.fmw (a_Z (d_q T i)) 5 (T.C i)) (fun i=>AVal.fmw (a_Z (d_q T i)) 5 (T.C i)) T.R us:=fun us i hi _=>SubA.fmw fun _ _=>a_r rfl
 have xt:∀x:Bool,(!x)=false->x=true:=fun x h=>aV
 refine⟨rfl,trivial,rfl,rF _,fun x hx=>a_j.2 ⟨fun _=>⟨(),trivial,rfl,trivial,trivial,rfl,trivial⟩,fun hx2=>⟨rfl,hx (xt _ hx2),rfl,rF _,fun y hy=>a_j.2 ⟨fun _=>⟨(),trivial,rfl,trivial,trivial,rfl,trivial⟩,fun hy2=>?_⟩⟩⟩⟩
 have hf:=hx (xt _ hx2)
 obtain⟨hr,hn⟩:=hy (xt _ hy2)
 have B:=s_9 hd hf hn
 have D:∀r,((vR T r).Ok/\ntT (vR T r)/\(vR T r).hd=(vR T r).hh 0 0/\(vR T r).role=r)/\(vR T r).pad=padF (vR T r).oP/\(vR T r).keep=keepF (vR T r).oK/\(vR T r).span=spanF (vR T r).oM:=fun r=>⟨⟨t_a B,hn,rfl,rfl⟩,rfl,rfl,rfl⟩
 refine⟨rfl,hn,rfl,rF _,fun _ _=>.inl ⟨D false,s_7 rfl rfl,fun x1 e1=>.inr ⟨D true,p_J rfl rfl rfl,fun z e2=>?_⟩⟩⟩
 subst e1;subst e2
 refine⟨rfl,p_M (t_a B),rfl,fun g hg=>a_j.2 ⟨fun hp=>a_j.2 ⟨fun _=>⟨(),trivial,rfl,trivial,trivial,rfl,trivial⟩,fun ne=>?_⟩,fun hp=>a_j.2 ⟨fun _=>?_,fun n=>?_⟩⟩⟩
 ·rw[o_z hp] at ne;cases ne
 ·have e:=hg (w_N B hp)
  subst e
  exact⟨(),trivial,rfl,trivial,trivial,rfl,trivial⟩
 ·rw[hp] at n;cases n
theorem G_u(T:TD):(pkS T).Body Tryz.prog 3/\(pkS T).BodyD Tryz.prog 3:=by
 refine a_c (fn:=Tryz.f3) (b:=a_b Tryz.f3) (LT:=fun _=>[]) a_l (x_i T) 1000 (fun a ha=>LTok.nil) aa aa ?_
 exact fun x hd=>Ho.of (pkR T) aa (I_9 T hd)
end Tk
namespace Tk
open Go Go.Sx Go.Proofs Go.ChangeShapes Go.WideShapes Go.ChangeAt Go.RowKit
open Q
variable [Syms]
theorem cell_at{W:World}{a:Addr}{v:Value}(h:W.cell? a=some v):a.spot=none/\∃c e fz,W.heap[a.block]?=some (.cells c e fz)/\c[a.off]?=some v:=by
 unfold World.cell? at h
 split at h
 ·rename_i c e fz hb
  split at h
  ·cases h
  ·rename_i hs
   refine⟨?_,c,e,fz,hb,h⟩
   cases hsp:a.spot with
   |none=>rfl
   |some x=>rw[hsp] at hs;exact absurd rfl hs
 ·cases h
theorem o_B{W:World}{a:Addr}{len cap wd:Nat}{f:Nat->List AVal}(hw:0<wd)(hl:len<=cap)(h:∀i,i<len->∃cs,W.cells? 0 (a.add (i*wd)) wd=some cs/\DenL (a_9 W) (f i) cs):Den (a_9 W) (.fmw f wd len) (.slice (some a) len cap):=by
 by_cases h0:len=0
 ·subst h0;exact .fmw0
 have hc:∀i,i<len->∃cs,cs.length=wd/\DenL (a_9 W) (f i) cs/\∀j,j<wd->W.cell? ((a.add (i*wd)).add j)=cs[j]?:=fun i hi=>by
  obtain⟨cs,h1,h2⟩:=h i hi
  obtain⟨_,h3,h4⟩:=World.cells?_some h1
  exact⟨cs,h3,h2,h4⟩
 obtain⟨cs0,l0,_,c0⟩:=hc 0 ac
 have ha:W.cell? a=cs0[0]?:=by
  have:=c0 0 hw
  simpa[Addr.add] using this
 have ha':W.cell? a=some cs0[0]:=by rw[ha];exact List.getElem?_eq_getElem ac
 obtain⟨hs,c,e,fz,hb,_⟩:=cell_at ha'
 have key:∀i j,i<len->j<wd->∀cs:List Value,W.cell? ((a.add (i*wd)).add j)=cs[j]?->cs.length=wd->c.toList[a.off+(i*wd+j)]?=cs[j]?:=fun i j hi hj cs hcell hlen=>by
  have hj':j<cs.length:=ac
  rw[List.getElem?_eq_getElem hj'] at hcell⊢
  obtain⟨_,c',e',fz',hb',hv⟩:=cell_at hcell
  have eb:((a.add (i*wd)).add j).block=a.block:=by
   unfold Addr.add;split<;>split<;>rfl
  have eo:((a.add (i*wd)).add j).off=a.off+(i*wd+j):=by
   unfold Addr.add;split<;>split<;>simp<;>omega
  rw[eb,hb] at hb'
  cases hb'
  rw[eo] at hv
  rw[Array.getElem?_toList];exact hv
 obtain⟨csl,ll,_,cl⟩:=hc (len-1) ac
 have hsize:a.off+len*wd<=c.toList.length:=by
  have:=key (len-1) (wd-1) ac ac csl (cl (wd-1) ac) ll
  rw[List.getElem?_eq_getElem (show wd-1<csl.length by omega)] at this
  have:=(List.getElem?_eq_some_iff.1 this).1
  have e1:(len-1)*wd+wd=len*wd:=by rw[←Nat.succ_mul,Nat.succ_eq_add_one];congr 1;omega
  omega
 have hlist:c=(c.toList.take a.off++((c.toList.drop a.off).take (len*wd)++(c.toList.drop a.off).drop (len*wd))).toArray:=by
  rw[List.take_append_drop,List.take_append_drop]
 have hvl:((c.toList.drop a.off).take (len*wd)).length=len*wd:=by
  rw[List.length_take,List.length_drop];omega
 have ea:a=⟨a.block,a.off,none⟩:=by rw[←hs]
 rw[ea]
 refine .fmw (e:=e) (fz:=fz) (by show W.heap[a.block]?=_;rw[hb,←hlist]) hvl (fun k hk=>?_) hl aB
 obtain⟨cs,hlen,hden,hcell⟩:=hc k hk
 have:(((c.toList.drop a.off).take (len*wd)).drop (k*wd)).take wd=cs:=by
  apply List.ext_getElem?
  intro j
  by_cases hj:j<wd
  ·have hkw:k*wd+wd<=len*wd:=by rw[←Nat.succ_mul];exact Nat.mul_le_mul_right _ hk
   rw[List.getElem?_take_of_lt hj,List.getElem?_drop,List.getElem?_take_of_lt ac,List.getElem?_drop]
   exact key k j hk hj cs (hcell j hj) hlen
  ·rw[List.getElem?_eq_none aB,List.getElem?_eq_none ac]
 rw[this];exact hden
theorem t_l{W:World}{a:Addr}{len cap:Nat}{f:Nat->AVal}(hl:len<=cap)(h:∀i,i<len->∃v,W.cells? 0 (a.add i) 1=some [v]/\Den (a_9 W) (f i) v):Den (a_9 W) (.fam f len) (.slice (some a) len cap):=by
 have:=o_B (W:=W) (a:=a) (len:=len) (cap:=cap) (wd:=1) (f:=fun i=>[f i]) ac hl fun i hi=>by
  obtain⟨v,h1,h2⟩:=h i hi
  exact⟨[v],by rw[Nat.mul_one];exact h1,.cons h2 .nil⟩
 cases this with
 |fmw hm hn hv hl ho=>
  refine .fam hm (by rw[hn,Nat.mul_one]) (fun k v hk=>?_) hl ho
  have hk':=(List.getElem?_eq_some_iff.1 hk).1
  have:=hv k (by rw[hn,Nat.mul_one] at hk';exact hk')
  rw[Nat.mul_one] at this
  obtain⟨y,hy,hd⟩:=this.get 0 rfl
  rw[List.getElem?_take_of_lt ac,List.getElem?_drop,Nat.add_zero,hk] at hy
  cases hy;exact hd
 |fmw0=>exact .fam0
variable {H:Type} {enc:TypeId×Value->H} {W:World}
theorem u43:∃fs,Tryz.prog.underlying 43=some (.struct fs)/\fs.size=5/\(∀f,fs[0]?=some f->f.type=9/\f.offset=0)/\(∀f,fs[1]?=some f->f.type=4/\f.offset=1)/\(∀f,fs[2]?=some f->f.type=9/\f.offset=2)/\(∀f,fs[3]?=some f->f.type=3/\f.offset=3)/\(∀f,fs[4]?=some f->f.type=3/\f.offset=4):=by
 refine⟨_,Tryz.underlying43,rfl,?_,?_,?_,?_,?_⟩<;>(intro f h;cases h;exact⟨rfl,rfl⟩)
theorem u24:∃fs,Tryz.prog.underlying 24=some (.struct fs)/\fs.size=6/\(∀f,fs[0]?=some f->f.type=3/\f.offset=0)/\(∀f,fs[1]?=some f->f.type=4/\f.offset=1)/\(∀f,fs[2]?=some f->f.type=4/\f.offset=2)/\(∀f,fs[3]?=some f->f.type=4/\f.offset=3)/\(∀f,fs[4]?=some f->f.type=4/\f.offset=4)/\(∀f,fs[5]?=some f->f.type=4/\f.offset=5):=by
 refine⟨_,Tryz.underlying24,rfl,?_,?_,?_,?_,?_,?_⟩<;>(intro f h;cases h;exact⟨rfl,rfl⟩)
theorem c43:Tryz.prog.cellsOf 43=5:=aa
theorem c24:Tryz.prog.cellsOf 24=6:=aa
theorem c9:Tryz.prog.cellsOf 9=1:=aa
theorem c4:Tryz.prog.cellsOf 4=1:=aa
theorem c3:Tryz.prog.cellsOf 3=1:=aa
theorem c40:Tryz.prog.cellsOf 40=1:=aa
variable {sp:Nat->Bool} {held:Bool}
theorem b_D{fs:Array Field}{n i ty:Nat}{cs:List Value}{xs:List (DataW H×List MemPlace)}(hl:i<fs.size)(hx:xs.length=fs.size)(hf:∀(i:Nat) (f:Field),fs[i]?=some f->DataW.trod enc Tryz.prog W 0 sp held n f.type ((cs.drop f.offset).take (Tryz.prog.cellsOf f.type))=xs[i]?)(h:∀f,fs[i]?=some f->f.type=ty/\f.offset=i)(hc:Tryz.prog.cellsOf ty=1):∃y,DataW.trod enc Tryz.prog W 0 sp held n ty ((cs.drop i).take 1)=some y:=by
 have e:=Array.getElem?_eq_getElem hl
 have h1:=hf i _ e
 obtain⟨h2,h3⟩:=h _ e
 rw[h2,h3,hc,List.getElem?_eq_getElem ac] at h1
 exact⟨_,h1⟩
theorem o_C{n:Nat}{cs:List Value}{x:DataW H×List MemPlace}(h:DataW.trod enc Tryz.prog W 0 sp held n 43 cs=some x):∃d:By×Bool×By×Int×Int,cs=[.string ⟨d.1.toArray⟩,.bool d.2.1,.string ⟨d.2.2.1.toArray⟩,.int .i64 d.2.2.2.1,.int .i64 d.2.2.2.2]:=by
 obtain⟨fs,hu,hs,f0,f1,f2,f3,f4⟩:=u43
 obtain⟨xs,m,rfl,rfl,hl,hx,hf⟩:=DataW.trod_struct hu h
 rw[c43] at hl
 obtain⟨y0,t0⟩:=b_D (i:=0) ac hx hf f0 c9
 obtain⟨y1,t1⟩:=b_D (i:=1) ac hx hf f1 c4
 obtain⟨y2,t2⟩:=b_D (i:=2) ac hx hf f2 c9
 obtain⟨y3,t3⟩:=b_D (i:=3) ac hx hf f3 c3
 obtain⟨y4,t4⟩:=b_D (i:=4) ac hx hf f4 c3
 match cs,hl with
 |[v0,v1,v2,v3,v4],_=>
  obtain⟨s0,e0,_⟩:=DataW.trod_string Tryz.underlying9 t0
  obtain⟨b1,e1,_⟩:=DataW.trod_bool Tryz.underlying4 t1
  obtain⟨s2,e2,_⟩:=DataW.trod_string Tryz.underlying9 t2
  obtain⟨n3,e3,_⟩:=DataW.trod_int Tryz.underlying3 t3
  obtain⟨n4,e4,_⟩:=DataW.trod_int Tryz.underlying3 t4
  simp only[List.drop_zero,List.drop_succ_cons,List.take_succ_cons,List.take_zero,List.cons.injEq,and_true] at e0 e1 e2 e3 e4
  subst e0;subst e1;subst e2;subst e3;subst e4
  exact⟨(s0.data.toList,b1,s2.data.toList,n3,n4),rfl⟩
theorem row_den{n:Nat}{v:Value}{x:DataW H×List MemPlace}(h:DataW.trod enc Tryz.prog W 0 sp held n 40 [v]=some x):∃X:RowX,Den (a_9 W) (.fmw (a_Z X) 5 X.n) v:=by
 classical
 rcases DataW.trod_slice Tryz.underlying40 h with⟨e,_⟩|⟨a,len,cap,elems,rest,m,_,e,_,_,hl,_,hlen,hel,_⟩
 ·simp only[List.cons.injEq,and_true] at e
  subst e
  exact⟨⟨fun _=>[],fun _=>false,fun _=>[],fun _=>0,fun _=>0,0⟩,.fmw0⟩
 ·simp only[List.cons.injEq,and_true] at e
  subst e
  have key:∀i,i<len->∃d:By×Bool×By×Int×Int,W.cells? 0 (a.add (i*5)) 5=some [.string ⟨d.1.toArray⟩,.bool d.2.1,.string ⟨d.2.2.1.toArray⟩,.int .i64 d.2.2.2.1,.int .i64 d.2.2.2.2]:=fun i hi=>by
   have h1:=hel i hi
   rw[c43,List.getElem?_eq_getElem ac,Option.bind_eq_some_iff] at h1
   obtain⟨cs,h2,h3⟩:=h1
   obtain⟨d,rfl⟩:=o_C h3
   exact⟨d,h2⟩
  let g:Nat->By×Bool×By×Int×Int:=fun i=>if h:i<len then Classical.choose (key i h) else([],false,[],0,0)
  have hg:∀i,i<len->W.cells? 0 (a.add (i*5)) 5=some [.string ⟨(g i).1.toArray⟩,.bool (g i).2.1,.string ⟨(g i).2.2.1.toArray⟩,.int .i64 (g i).2.2.2.1,.int .i64 (g i).2.2.2.2]:=fun i hi=>by
   have e:g i=Classical.choose (key i hi):=by simp only[g];rw[dif_pos hi]
   rw[e];exact Classical.choose_spec (key i hi)
  exact⟨⟨fun i=>(g i).1,fun i=>(g i).2.1,fun i=>(g i).2.2.1,fun i=>(g i).2.2.2.1,fun i=>(g i).2.2.2.2,len⟩,o_B ac hl fun i hi=>⟨_,hg i hi,.cons .str (.cons .lit (.cons .str (.cons .lit (.cons .lit .nil))))⟩⟩
theorem p_O{n:Nat}{v:Value}{x:DataW H×List MemPlace}(h:DataW.trod enc Tryz.prog W 0 sp held n 22 [v]=some x):∃(R:Nat) (F:Nat->RowX),Den (a_9 W) (.fam (fun i=>.fmw (a_Z (F i)) 5 (F i).n) R) v:=by
 classical
 rcases DataW.trod_slice Tryz.underlying22 h with⟨e,_⟩|⟨a,len,cap,elems,rest,m,_,e,_,_,hl,_,hlen,hel,_⟩
 ·simp only[List.cons.injEq,and_true] at e
  subst e
  exact⟨0,fun _=>⟨fun _=>[],fun _=>false,fun _=>[],fun _=>0,fun _=>0,0⟩,.fam0⟩
 ·simp only[List.cons.injEq,and_true] at e
  subst e
  have key:∀i,i<len->∃X:RowX,∃v,W.cells? 0 (a.add i) 1=some [v]/\Den (a_9 W) (.fmw (a_Z X) 5 X.n) v:=fun i hi=>by
   have h1:=hel i hi
   rw[c40,Nat.mul_one,List.getElem?_eq_getElem ac,Option.bind_eq_some_iff] at h1
   obtain⟨cs,h2,h3⟩:=h1
   obtain⟨_,hl1,_⟩:=World.cells?_some h2
   match cs,hl1 with
   |[v],_=>
    obtain⟨X,hX⟩:=row_den h3
    exact⟨X,v,h2,hX⟩
  let F:Nat->RowX:=fun i=>if h:i<len then Classical.choose (key i h) else⟨fun _=>[],fun _=>false,fun _=>[],fun _=>0,fun _=>0,0⟩
  have hF:∀i,i<len->∃v,W.cells? 0 (a.add i) 1=some [v]/\Den (a_9 W) (.fmw (a_Z (F i)) 5 (F i).n) v:=fun i hi=>by
   have e:F i=Classical.choose (key i hi):=by simp only[F];rw[dif_pos hi]
   rw[e];exact Classical.choose_spec (key i hi)
  exact⟨len,F,t_l hl hF⟩
open Classical in
noncomputable def f_Q(R:Nat)(F:Nat->RowX)(p:Int)(k m pr sk ps:Bool):TD where
 R:=R
 C:=fun i=>if i<R then(F i).n else 0
 hd:=false
 tx:=fun i j=>if i<R/\j<(F i).n then(F i).t j else[]
 pad:=[]
 keep:=[]
 span:=[]
 promote:=pr
 pres:=ps
 skip:=sk
 role:=false
 hh:=fun i=>(F i).h
 al:=fun i=>(F i).a
 cc:=fun i=>(F i).c
 rr:=fun i=>(F i).r
 oP:=p
 oK:=k
 oM:=m
theorem p_P{R:Nat}{F:Nat->RowX}{p:Int}{k m pr sk ps:Bool}:SubA 0 (.fam (fun i=>.fmw (a_Z (F i)) 5 (F i).n) R) (c_w (f_Q R F p k m pr sk ps)):=SubA.fam fun i hi=>by
 have e:(f_Q R F p k m pr sk ps).C i=(F i).n:=by show(if i<R then _ else _)=_;rw[if_pos hi]
 rw[e]
 refine SubA.fmw fun j hj=>?_
 have e2:a_Z (d_q (f_Q R F p k m pr sk ps) i) j=a_Z (F i) j:=by
  have:(f_Q R F p k m pr sk ps).tx i j=(F i).t j:=by show(if i<R/\j<(F i).n then _ else _)=_;rw[if_pos ⟨hi,hj⟩]
  unfold a_Z d_q
  simp only[this]
  rfl
 rw[e2];exact a_r rfl
theorem l_l{R:Nat}{F:Nat->RowX}{p:Int}{k m pr sk ps:Bool}(hg:∀c,c<256->Syms.gn 2 c=true):srcT (f_Q R F p k m pr sk ps):=by
 refine⟨fun i hi=>?_,fun i j h=>?_,hg⟩
 ·have hi:R<=i:=hi
  show(if i<R then _ else _)=_
  rw[if_neg ac]
 ·show(if i<R/\j<(F i).n then _ else _)=_
  rw[if_neg]
  rintro⟨h1,h2⟩
  rcases h with h|h
  ·have h:R<=i:=h
   omega
  ·have h:(if i<R then(F i).n else 0)<=j:=h
   rw[if_pos h1] at h
   omega
theorem p_Q{n:Nat}{cs:List Value}{x:DataW H×List MemPlace}(h:DataW.trod enc Tryz.prog W 0 sp held n 24 cs=some x):∃(p:Int) (k m pr s ps:Bool),cs=[.int .i64 p,.bool k,.bool m,.bool pr,.bool s,.bool ps]:=by
 obtain⟨fs,hu,hs,f0,f1,f2,f3,f4,f5⟩:=u24
 obtain⟨xs,m,rfl,rfl,hl,hx,hf⟩:=DataW.trod_struct hu h
 rw[c24] at hl
 obtain⟨y0,t0⟩:=b_D (i:=0) ac hx hf f0 c3
 obtain⟨y1,t1⟩:=b_D (i:=1) ac hx hf f1 c4
 obtain⟨y2,t2⟩:=b_D (i:=2) ac hx hf f2 c4
 obtain⟨y3,t3⟩:=b_D (i:=3) ac hx hf f3 c4
 obtain⟨y4,t4⟩:=b_D (i:=4) ac hx hf f4 c4
 obtain⟨y5,t5⟩:=b_D (i:=5) ac hx hf f5 c4
 match cs,hl with
 |[v0,v1,v2,v3,v4,v5],_=>
  obtain⟨n0,e0,_⟩:=DataW.trod_int Tryz.underlying3 t0
  obtain⟨b1,e1,_⟩:=DataW.trod_bool Tryz.underlying4 t1
  obtain⟨b2,e2,_⟩:=DataW.trod_bool Tryz.underlying4 t2
  obtain⟨b3,e3,_⟩:=DataW.trod_bool Tryz.underlying4 t3
  obtain⟨b4,e4,_⟩:=DataW.trod_bool Tryz.underlying4 t4
  obtain⟨b5,e5,_⟩:=DataW.trod_bool Tryz.underlying4 t5
  simp only[List.drop_zero,List.drop_succ_cons,List.take_succ_cons,List.take_zero,List.cons.injEq,and_true] at e0 e1 e2 e3 e4 e5
  subst e0;subst e1;subst e2;subst e3;subst e4;subst e5
  exact⟨n0,b1,b2,b3,b4,b5,rfl⟩
set_option maxRecDepth 100000 in
theorem p_R{R:Nat}{F:Nat->RowX}{v0:Value}{p:Int}{k m pr sk ps:Bool}(hg:Syms.good W)(hng:∀r,r<Syms.ng->r<W.heap.size)(hgn:∀c,c<256->Syms.gn 2 c=true)(h0:Den (a_9 W) (.fam (fun i=>.fmw (a_Z (F i)) 5 (F i).n) R) v0):
 Calls Tryz.prog 3 #[v0,.agg #[.int .i64 p,.bool k,.bool m,.bool pr,.bool sk,.bool ps]] W fun e W'=>e=.returned (.bool true)/\Below W.heap.size W W':=by
 have hd:DenL (a_9 W) ((pkS (f_Q R F p k m pr sk ps)).args1 ()) [v0,.agg #[.int .i64 p,.bool k,.bool m,.bool pr,.bool sk,.bool ps]]:=
  .cons (p_P (a_9 W) (a_9 W) _ (Inj.bare_le _ _) h0) (.cons (.agg (.cons .lit (.cons .lit (.cons .lit (.cons .lit (.cons .lit (.cons .lit .nil))))))) .nil)
 refine Calls.mono ((G_u (f_Q R F p k m pr sk ps)).1 () (l_l hgn) W k_f (a_9 W) W _ (i_N hg hng) hd) fun e W' he=>?_
 cases e with
 |panicked _=>exact he.elim
 |outgrown=>exact he.elim
 |returned v=>
  obtain⟨av,H',ι',⟨x,_,hent⟩,hda,hle,hinv⟩:=he
  obtain⟨ι3,_,hinv3,hd3⟩:=f_l hent hinv hda
  cases hd3
  exact⟨rfl,hinv.os,hinv.tape,hinv.output,hinv.size,fun k hk=>hinv.frame k hk (fun h=>h)⟩
end Tk

