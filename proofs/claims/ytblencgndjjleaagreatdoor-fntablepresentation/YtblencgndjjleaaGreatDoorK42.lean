/- Lemmas of this claim; the last text says what is proved. -/
import Derived.Test.YtblencgndjjleaaGreatDoorK41
set_option linter.all false
set_option maxRecDepth 1000000
namespace Tk
open Go Go.Sx Go.Proofs
open Q
variable [Syms]
structure Base (U:TD):Prop where
 r:0<U.R
 r2:U.R<=13
 c:∀i,i<U.R->0<U.C i
 c2:∀i,U.C i<=12
 w:∀i j,Words (U.tx i j)
 l:∀i j,(U.tx i j).length<=2147483647
 g:∀c,c<256->Syms.gn 2 c=true
theorem o_u:Words []:=fun i hi=>by simp at hi
theorem s_9{T:TD}(hs:srcT T)(hf:fitT T)(hn:ntT T):Base T:=by
 obtain⟨s1,s2,s3⟩:=hs
 have key:∀i j,(i<T.R/\j<T.C i)\/T.tx i j=[]:=fun i j=>by
  by_cases h:i<T.R/\j<T.C i
  ·exact .inl h
  ·exact .inr (s2 i j ac)
 refine⟨hn.1,hn.2.1,fun i hi=>(hn.2.2 i hi).1,fun i=>?_,fun i j=>?_,fun i j=>?_,s3⟩
 ·by_cases h:i<T.R
  ·exact(hn.2.2 i h).2.1
  ·rw[s1 i ac];omega
 ·rcases key i j with h|h
  ·exact((hn.2.2 i h.1).2.2 j h.2).1
  ·rw[h];exact o_u
 ·rcases key i j with h|h
  ·exact hf.2 i h.1 j h.2
  ·rw[h];simp
theorem g_J{T:TD}{i:Nat}:∀j,(b_1 T i j).length<=2*j
 |0=>by simp[b_1]
 |j+1=>by
  have h:=g_J (T:=T) (i:=i) j
  simp only[b_1,List.length_append,List.length_cons]
  cases T.hasT i j<;>simp<;>omega
theorem i_O{T:TD}(hc:∀i,T.C i<=12):∀i,(c_V T i).length<=3+25*i
 |0=>by simp[c_V]
 |i+1=>by
  have h:=i_O hc i
  have h2:=g_J (T:=T) (i:=i) (T.C i)
  have h3:=hc i
  simp only[c_V,List.length_append,List.length_cons];omega
theorem w_K(p:Int):padF p=h_g\/padF p=k_C\/padF p=m_v:=by
 unfold padF
 cases decide (p>0)<;>cases (p==2)<;>cases (p==3)<;>simp
theorem t_a{U:TD}{r:Bool}(h:Base U):(vR U r).Ok where
 r:=h.r
 c:=h.c
 n:=by
  have:=i_O (T:=vR U r) h.c2 (vR U r).R
  have h2:(vR U r).R<=13:=h.r2
  unfold nN ixR;omega
 w:=h.w
 l:=h.l
 r2:=h.r2
 c2:=h.c2
 g:=h.g
 pd:=w_K _
def nb(c:UInt8):Prop:=c.toNat≠124
def NB(l:By):Prop:=∀b∈l,nb b
theorem NB.nil:NB []:=fun b h=>am
theorem NB.app{a b:By}(ha:NB a)(hb:NB b):NB (a++b):=fun c h=>by
 rcases List.mem_append.1 h with h|h
 ·exact ha c h
 ·exact hb c h
theorem NB.one{c:UInt8}(h:nb c):NB [c]:=fun b hb=>by rw[List.mem_singleton.1 hb];exact h
theorem NB.two{c d:UInt8}(h:nb c)(h':nb d):NB [c,d]:=NB.app (NB.one h) (NB.one h')
theorem NB.rep{c:UInt8}{n:Nat}(h:nb c):NB (List.replicate n c):=fun b hb=>bH
theorem NB.cond{c:Bool}{a b:By}(ha:NB a)(hb:NB b):NB (cond c a b):=by
 cases c
 ·exact hb
 ·exact ha
theorem NB.wt{l:By}(h:WT l):NB l:=fun b hb=>by have:=h b hb;unfold wc at this;unfold nb;omega
theorem x_H:nb 10:=by unfold nb;decide
theorem I_M:nb 32:=by unfold nb;decide
theorem j_l:NB [10,10]:=NB.two x_H x_H
theorem o_v{T:TD}(hT:T.Ok)(i:Nat):∀k,NB (catT T i k)
 |0=>NB.nil
 |k+1=>NB.app (o_v hT i k) (NB.wt (d_W (hT.w i k)))
theorem t_b{T:TD}(hT:T.Ok)(i:Nat):NB (rowF T i):=NB.app (NB.app j_l (o_v hT i _)) j_l
theorem k_g{T:TD}(hT:T.Ok):∀k,NB (rowsF T k)
 |0=>NB.nil
 |k+1=>NB.app (k_g hT k) (t_b hT k)
theorem t_c{l:By}(h:NB l):NB (trim l):=fun b hb=>h b (e_R hb)
theorem o_w{l old new:By}(hl:NB l)(hn:NB new):∀(n i:Nat) (out:By),NB out->NB (rpL l old new n i out)
 |0,_,_,h=>h
 |n+1,i,out,h=>by
  simp only[rpL]
  by_cases g:i<l.length
  ·rw[a_z.2 g,cond_true]
   exact NB.cond (o_w hl hn n _ _ (NB.app h hn)) (o_w hl hn n _ _ (NB.app h (NB.one (hl _ (b_a g)))))
  ·rw[a_C.2 ac,cond_false];exact h
theorem k_h{l old new:By}(hl:NB l)(hn:NB new):NB (rpF l old new):=o_w hl hn _ _ _ NB.nil
theorem w_L{l:By}(h:NB l):NB (tcF l):=by
 obtain⟨h1,h2,_⟩:=h_p nb x_H I_M l (0,[],[]) h (fun b hb=>bN) (fun b hb=>bN)
 exact NB.app h2 h1
theorem w_M{T:TD}(hT:T.Ok):NB (fbF T):=NB.app (NB.app j_l (k_g hT _)) j_l
theorem t_d{l:By}(h:NB l):NB (post l):=k_h (k_h (k_h (k_h (w_L (t_c h)) j_l) j_l) j_l) (NB.one x_H)
theorem t_e{l:By}(h:DT l):DT (post l):=f_p (f_p (f_p (f_p (q_h (m_X h)) e_G) e_G) e_G) (DT.one d10)
theorem p_L{l:By}:(post l).length<=l.length:=by
 unfold post
 refine Nat.le_trans (d_E ar) (Nat.le_trans (d_E ar) (Nat.le_trans (d_E ar) (Nat.le_trans (d_E ar) (Nat.le_trans m_Z e_S))))
theorem p_M{T:TD}(hT:T.Ok):ASC (post (docF T))/\(post (docF T)).length<=1099511627776:=
 ⟨DT.b128 (t_e (m_W hT)),Nat.le_trans p_L (Nat.le_trans (j_2 hT) ac)⟩
theorem w_N{T:TD}(h:Base T)(hp:T.pres=false):∀c∈post (docF (vR T true)),c.toNat≠124:=by
 have e:docF (vR T true)=fbF (vR T true):=by
  unfold docF
  have:noT (vR T true)=true:=by
   unfold noT
   show(true&& !T.pres||_)=true
   rw[hp];rfl
  rw[this];rfl
 rw[e]
 exact t_d (w_M (t_a h))
theorem o_x{T:TD}:nilR (vR T true)=nilR (vR T false):=rfl
theorem i_P{T:TD}(i:Nat):∀k,catT (vR T true) i k=catT (vR T false) i k
 |0=>rfl
 |k+1=>by rw[catT,catT,i_P i k];rfl
theorem g_K{T:TD}:∀k,rowsF (vR T true) k=rowsF (vR T false) k
 |0=>rfl
 |k+1=>by
  have e:rowF (vR T true) k=rowF (vR T false) k:=by
   unfold rowF
   rw[i_P];rfl
  rw[rowsF,rowsF,g_K k,e]
theorem p_N{T:TD}:fbF (vR T true)=fbF (vR T false):=by
 unfold fbF
 rw[g_K];rfl
theorem o_y{T:TD}:tabF (vR T true)=tabF (vR T false):=rfl
theorem o_z{T:TD}(hp:T.pres=true):eqL (post (docF (vR T false))) (post (docF (vR T true)))=true:=by
 have e:docF (vR T true)=docF (vR T false):=by
  unfold docF
  have e1:noT (vR T true)=noT (vR T false):=by
   unfold noT
   show(true&& !T.pres||nilR (vR T true))=(false&& !T.pres||nilR (vR T false))
   rw[hp,o_x];rfl
  rw[e1,p_N,o_y]
 rw[e,d_s]
 exact beq_self_eq_true _
def F_h(T:TD)(z:RowX)(k:Nat):Prop:=
 letI h:=noSt=noSt;letI g:=Int.ofNat z.n;letI f:=Value.bool false;letI e:=Int.ofNat 2147483647;letI d:=Value.int .i64 g;letI c:=decide (Int.ofNat k<g);letI b:=∃(x:Unit),True/\h/\f=f/\True;br c (gd c (br (decide (Int.ofNat (List.length (z.t k))>e)) b (br (decide (Int.ofNat (List.length (z.a k))>e)) b (∃(j':Nat),(j'<=z.n/\z.n<=2147483647/\fitX z j')/\z.n-j'<z.n-k/\h/\z.n=z.n/\(∀(k:Nat),letI a:=[AVal.str (z.t k),AVal.lit (Value.bool (z.h k)),AVal.str (z.a k),AVal.lit (Value.int .i64 (z.c k)),AVal.lit (Value.int .i64 (z.r k))];k<z.n->SubL 0 a a)/\d=d/\Value.int .i64 (IntKind.wrap .i64 (Int.ofNat (k+1)))=Value.int .i64 (Int.ofNat j')/\True)))) (∃(x:Unit),fitX z z.n/\h/\True)
def zfR(T:TD)(z:RowX):Prop:=
 letI g:=fitX z z.n;letI f:=noSt=noSt;letI e:=Int.ofNat z.n;letI d:=Value.int .i64 (Int.ofNat 0);letI c:=Value.int .i64 e;letI b:=∃(x:Bool),(x=true->g)/\f/\True/\True/\Value.bool false=Value.bool x/\True;br (decide (e>Int.ofNat 2147483647)) b ((0<=z.n/\z.n<=2147483647/\fitX z 0)/\(f/\z.n=z.n/\(∀(k:Nat),letI a:=[AVal.str (z.t k),AVal.lit (Value.bool (z.h k)),AVal.str (z.a k),AVal.lit (Value.int .i64 (z.c k)),AVal.lit (Value.int .i64 (z.r k))];k<z.n->SubL 0 a a)/\c=c/\d=d/\True)/\(∀(x:Unit),g->∃(x:Bool),(x=true->g)/\f/\True/\True/\Value.bool true=Value.bool x/\True)/\∀(x:Unit),True->b)
theorem F_i(T:TD)(z:RowX)(k:Nat)(h:k<=z.n/\z.n<=2147483647/\fitX z k):F_h T z k:=by
 unfold F_h
 obtain⟨h1,h2,h3⟩:=h
 have e1:IntKind.wrap IntKind.i64 (Int.ofNat (k+1))=Int.ofNat (k+1):=a_o ab ab
 simp only[e1]
 simp only[a_V,sj1,exists_eq_left',sj6,gt_iff_lt,ge_iff_le,exists_const,Int.ofNat_le,implies_true,Bool.true_eq,Value.bool.injEq]
 exact⟨fun g=>⟨g,fun g1 g2=>⟨k+1,⟨ac,h2,w_z h3 (by unfold zzM;omega)⟩,ac,fun _ _=>i_M,rfl⟩⟩,fun g=>(show k=z.n by omega)▸h3⟩
theorem F_j(T:TD)(z:RowX):(zfD T z).Body Tryz.prog (sub (a_b Tryz.f9) [0,0,1,0,1,1]):=by
 refine LoopD.bodyH (root:=(a_b Tryz.f9)) [0,0,1,0,1,1] a_l (a_y) (LTok.nil) 1000 ?_
 exact fun j hj=>Ho.of (F_h T z j) aa (F_i T z j hj)
theorem I_N(T:TD)(z:RowX):zfR T z:=by
 unfold zfR
 simp only[a_V,sj1,exists_eq_left',sj6,gt_iff_lt,ge_iff_le,exists_const,Int.ofNat_le,implies_true,Bool.true_eq,Value.bool.injEq]
 exact⟨fun _=>⟨false,nofun,rfl⟩,fun g=>⟨⟨Nat.zero_le _,ac,w_y⟩,fun _ _=>i_M,fun _ h=>⟨true,fun _=>h,rfl⟩,fun _ _=>⟨false,nofun,rfl⟩⟩⟩
theorem w_O:a_t Tryz.prog 9:=⟨Tryz.f9,aa,rfl,aa⟩
theorem F_k(T:TD):(zfS T).Body Tryz.prog 9/\(zfS T).BodyD Tryz.prog 9:=by
 refine a_c (fn:=Tryz.f9) (b:=a_b Tryz.f9) (LT:=fun a=>[([0,1,0,1,1],(zfD T a).at (0:Nat))]) a_l (a_y) 1000 (fun a ha=>LTok.cons (fun fr H K hk=>LoopD.ok (F_j T a) hk) (LTok.nil)) aa aa ?_
 exact fun a ha=>Ho.of (zfR T a) aa (I_N T a)
def F_l(T:TD)(k:Nat):Prop:=
 letI a1:=noSt=noSt;letI z:=Int.ofNat T.R;letI y:=Value.bool false;letI w:=Value.int .i64 z;letI v:=decide (Int.ofNat k<z);letI s:=RowX.mk (T.4 k) (T.12 k) (T.13 k) (T.14 k) (T.15 k) (T.C k);letI f:=s.t;letI g:=s.h;letI m:=s.a;letI p:=s.c;letI q:=s.r;letI e:=fun(i:Nat)=>letI u:=RowX.mk (T.4 i) (T.12 i) (T.13 i) (T.14 i) (T.15 i) (T.C i);AVal.fmw (fun(j:Nat)=>[AVal.str (u.t j),AVal.lit (Value.bool (u.h j)),AVal.str (u.a j),AVal.lit (Value.int .i64 (u.c j)),AVal.lit (Value.int .i64 (u.r j))]) 5 (T.C i);letI d:=RowX.mk (fun(j:Nat)=>p_C (AVal.str (f j))) (fun(j:Nat)=>j_g (AVal.lit (Value.bool (g j)))) (fun(j:Nat)=>p_C (AVal.str (m j))) (fun(j:Nat)=>k_d (AVal.lit (Value.int .i64 (p j)))) (fun(j:Nat)=>k_d (AVal.lit (Value.int .i64 (q j)))) (T.C k);letI b:=d.n;br v (gd v (gd (Nat.blt k T.R) (a1/\True/\T.C k=b/\(∀(k_1:Nat),k_1<T.C k->SubL 0 [AVal.str (f k_1),AVal.lit (Value.bool (g k_1)),AVal.str (m k_1),AVal.lit (Value.int .i64 (p k_1)),AVal.lit (Value.int .i64 (q k_1))] [AVal.str (d.t k_1),AVal.lit (Value.bool (d.h k_1)),AVal.str (d.a k_1),AVal.lit (Value.int .i64 (d.c k_1)),AVal.lit (Value.int .i64 (d.r k_1))])/\∀(x:Bool),(x=true->fitX d b)->br (!x) (∃(x:Unit),True/\a1/\y=y/\True) (∃(j':Nat),(j'<=T.R/\T.R<=2147483647/\fitK T j')/\T.R-j'<T.R-k/\a1/\T.R=T.R/\SubF e e T.R []/\w=w/\Value.int .i64 (IntKind.wrap .i64 (Int.ofNat (k+1)))=Value.int .i64 (Int.ofNat j')/\True)))) (∃(x:Unit),fitT T/\a1/\True)
def zgR(T:TD):Prop:=
 letI m:=noSt=noSt;letI k:=Int.ofNat T.R;letI g:=Value.int .i64 (Int.ofNat 0);letI f:=Value.int .i64 k;letI d:=∃(x:Bool),(x=true->fitT T)/\m/\True/\True/\Value.bool false=Value.bool x/\True;letI b:=fun(i:Nat)=>letI e:=RowX.mk (T.4 i) (T.12 i) (T.13 i) (T.14 i) (T.15 i) (T.C i);AVal.fmw (fun(j:Nat)=>[AVal.str (e.t j),AVal.lit (Value.bool (e.h j)),AVal.str (e.a j),AVal.lit (Value.int .i64 (e.c j)),AVal.lit (Value.int .i64 (e.r j))]) 5 (T.C i);br (decide (k>Int.ofNat 2147483647)) d ((0<=T.R/\T.R<=2147483647/\fitK T 0)/\(m/\T.R=T.R/\SubF b b T.R []/\f=f/\g=g/\True)/\(∀(x:Unit),fitT T->∃(x:Bool),(x=true->fitT T)/\m/\True/\True/\Value.bool true=Value.bool x/\True)/\∀(x:Unit),True->d)
theorem r_i(T:TD):TabOk Tryz.prog (zgU T):=by
 refine⟨fun f s h=>?_,fun f s h=>?_⟩
 ·unfold zgU at h
  simp only at h
  split at h
  ·cases h;exact a_d w_O (F_k T).1
  ·cases h
 ·cases h
theorem F_m(T:TD)(k:Nat)(h:k<=T.R/\T.R<=2147483647/\fitK T k):F_l T k:=by
 unfold F_l
 obtain⟨h1,h2,h3⟩:=h
 have e1:IntKind.wrap IntKind.i64 (Int.ofNat (k+1))=Int.ofNat (k+1):=a_o ab ab
 simp only[e1]
 simp only[a_V,sj1,exists_eq_left',sj6,gt_iff_lt,ge_iff_le,exists_const,Int.ofNat_le,implies_true,Bool.true_eq,Value.bool.injEq]
 exact⟨fun g=>⟨g,a_z.2 g,fun _ _=>a_r rfl,fun x hx hx2=>⟨k+1,⟨ac,h2,w_B h3 (hx (by cases x<;>first|rfl|cases hx2))⟩,ac,fun i hi _=>SubA.fmw fun _ _=>a_r rfl,rfl⟩⟩,fun g=>⟨h2,(show k=T.R by omega)▸h3⟩⟩
theorem F_n(T:TD):(zgD T).Body Tryz.prog (sub (a_b Tryz.f4) [0,0,1,0,1,1]):=by
 refine LoopD.bodyH (root:=(a_b Tryz.f4)) [0,0,1,0,1,1] a_l (r_i T) (LTok.nil) 1000 ?_
 exact fun j hj=>Ho.of (F_l T j) aa (F_m T j hj)
theorem I_O(T:TD):zgR T:=by
 unfold zgR
 simp only[a_V,sj1,exists_eq_left',sj6,gt_iff_lt,ge_iff_le,exists_const,Int.ofNat_le,implies_true,Bool.true_eq,Value.bool.injEq]
 exact⟨fun _=>⟨false,nofun,rfl⟩,fun g=>⟨⟨Nat.zero_le _,ac,w_A⟩,fun i hi _=>SubA.fmw fun _ _=>a_r rfl,fun _ h=>⟨true,fun _=>h,rfl⟩,fun _ _=>⟨false,nofun,rfl⟩⟩⟩
theorem w_P:a_t Tryz.prog 4:=⟨Tryz.f4,aa,rfl,aa⟩
theorem F_o(T:TD):(zgS T).Body Tryz.prog 4/\(zgS T).BodyD Tryz.prog 4:=by
 refine a_c (fn:=Tryz.f4) (b:=a_b Tryz.f4) (LT:=fun _=>[([0,1,0,1,1],(zgD T).at (0:Nat))]) a_l (r_i T) 1000 (fun _ ha=>LTok.cons (fun fr H K hk=>LoopD.ok (F_n T) hk) (LTok.nil)) aa aa ?_
 exact fun a ha=>Ho.of (zgR T) aa (I_O T)
def F_p(T:TD)(l:By)(k:Nat):Prop:=
 letI s:=Int.ofNat k;letI t:=noSt=noSt;letI r:=List.length l;letI q:=Value.bool false;letI p:=Int.ofNat r;letI n:=IntKind.wrap .i64 (Int.ofNat (k+1));letI m:=Value.int .i64 p;letI h:=IntKind.wrap .i64 (s-Int.ofNat 1);letI g:=decide (s<p);letI f:=Int.ofNat (UInt8.toNat (List.getD l k (0:UInt8)));letI e:=∃(x:Unit),True/\t/\q=q/\True;letI d:=∃(j':Nat),(j'<=r/\wdsK l j')/\r-j'<r-k/\t/\l=l/\m=m/\Value.int .i64 n=Value.int .i64 (Int.ofNat j')/\True;letI c:=br (f !=Int.ofNat 32) e (br (s==Int.ofNat 0) e (br (n==p) e (gd (decide (Int.ofNat 0<=h)&&decide (h<p)) (br (Int.ofNat (UInt8.toNat (List.getD l (Int.toNat h) (0:UInt8)))==Int.ofNat 32) e d))));letI b:=br (decide (f≥Int.ofNat 48)) (br (!decide (f<=Int.ofNat 57)) c d) c;letI a:=br (decide (f≥Int.ofNat 65)) (br (decide (f<=Int.ofNat 90)) d b) b;br g (gd g (br (decide (f≥Int.ofNat 97)) (br (decide (f<=Int.ofNat 122)) d a) a)) (∃(x:Unit),Words l/\t/\True)
def w9R(T:TD)(l:By):Prop:=
 letI d:=noSt=noSt;letI c:=List.length l;letI b:=Value.int .i64 (Int.ofNat 0);letI a:=Value.int .i64 (Int.ofNat c);(0<=c/\wdsK l 0)/\(d/\l=l/\a=a/\b=b/\True)/\(∀(x:Unit),Words l->∃(x:Bool),(x=true->Words l)/\d/\True/\True/\Value.bool true=Value.bool x/\True)/\∀(x:Unit),True->∃(x:Bool),(x=true->Words l)/\d/\True/\True/\Value.bool false=Value.bool x/\True
theorem F_q(T:TD)(l:By)(k:Nat)(hd:l.length<=2147483647)(h:k<=l.length/\wdsK l k):F_p T l k:=by
 unfold F_p
 obtain⟨h1,h2⟩:=h
 have e0:k<l.length->IntKind.wrap IntKind.i64 (Int.ofNat (k+1))=Int.ofNat (k+1):=fun g=>a_o ab ab
 by_cases g:k<l.length
 ·have e0:=e0 g
  simp only[e0]
  by_cases h0:k=0
  ·subst h0
   simp only[a_V,sj1,exists_eq_left',sj6,gt_iff_lt,ge_iff_le,exists_const,Int.ofNat_le,implies_true,Bool.true_eq,Value.bool.injEq,bne_eq_false_iff_eq,beq_eq_false_iff_ne,ne_eq,Bool.not_eq_true',Bool.not_eq_false',Bool.and_eq_true,Int.toNat_natCast]
   repeat' (first|done|omega|exact absurd trivial ai|exact⟨1,⟨ac,r_c h2 ac⟩,ac,rfl⟩|intro _|refine And.intro ?_ ?_)
  ·have e1:IntKind.wrap IntKind.i64 (Int.ofNat k-Int.ofNat 1)=Int.ofNat (k-1):=h_h ac ac
   simp only[e1]
   simp only[a_V,sj1,exists_eq_left',sj6,gt_iff_lt,ge_iff_le,exists_const,Int.ofNat_le,implies_true,Bool.true_eq,Value.bool.injEq,bne_eq_false_iff_eq,beq_eq_false_iff_ne,ne_eq,Bool.not_eq_true',Bool.not_eq_false',Bool.and_eq_true,Int.toNat_natCast]
   repeat' (first|done|omega|exact⟨k+1,⟨ac,r_c h2 ac⟩,ac,rfl⟩|exact⟨k+1,⟨ac,w_D h2 ac ac ac ac⟩,ac,rfl⟩|intro _|refine And.intro ?_ ?_)
 ·simp only[a_V,sj1,exists_eq_left',sj6,gt_iff_lt,ge_iff_le,exists_const,Int.ofNat_le,implies_true,Bool.true_eq,Value.bool.injEq,bne_eq_false_iff_eq,beq_eq_false_iff_ne,ne_eq,Bool.not_eq_true',Bool.not_eq_false',Bool.and_eq_true,Int.toNat_natCast]
  exact⟨fun h=>absurd h g,fun _=>p_E h2 ac⟩
theorem F_r(T:TD)(l:By)(hd:l.length<=2147483647):(w9D T l).Body Tryz.prog (sub (a_b Tryz.f10) [0,0,1,0,1]):=by
 refine LoopD.bodyH (root:=(a_b Tryz.f10)) [0,0,1,0,1] a_l (a_y) (LTok.nil) 1000 ?_
 exact fun j hj=>Ho.of (F_p T l j) aa (F_q T l j hd hj)
theorem I_P(T:TD)(l:By)(hd:l.length<=2147483647):w9R T l:=by
 unfold w9R
 simp only[a_V,sj1,exists_eq_left',sj6,gt_iff_lt,ge_iff_le,exists_const,Int.ofNat_le,implies_true,Bool.true_eq,Value.bool.injEq]
 exact⟨⟨Nat.zero_le _,w_C⟩,fun _ h=>⟨true,fun _=>h,rfl⟩,fun _ _=>⟨false,nofun,rfl⟩⟩
theorem w_Q:a_t Tryz.prog 10:=⟨Tryz.f10,aa,rfl,aa⟩
theorem F_s(T:TD):(w9S T).Body Tryz.prog 10/\(w9S T).BodyD Tryz.prog 10:=by
 refine a_c (fn:=Tryz.f10) (b:=a_b Tryz.f10) (LT:=fun a=>[([0,1,0,1],(w9D T a).at (0:Nat))]) a_l (a_y) 1000 (fun a ha=>LTok.cons (fun fr H K hk=>LoopD.ok (F_r T a ha) hk) (LTok.nil)) aa aa ?_
 exact fun a ha=>Ho.of (w9R T a) aa (I_P T a ha)
def F_t(T:TD)(i:Nat)(k:Nat)(f:Bool):Prop:=
 letI d2:=T.C i;letI c2:=T.R=T.R;letI b2:=noSt=noSt;letI a2:=d2=d2;letI z1:=Int.ofNat d2;letI y1:=Int.ofNat i==Int.ofNat 0;letI w1:=Value.int .i64 (Int.ofNat i);letI v1:=Value.int .i64 (Int.ofNat T.R);letI u1:=Value.int .i64 z1;letI s1:=decide (Int.ofNat k<z1);letI t1:=decide (Int.ofNat 0<z1);letI r1:=Value.int .i64 (IntKind.wrap .i64 (Int.ofNat (k+1)));letI n1:=RowX.mk (T.4 i) (T.12 i) (T.13 i) (T.14 i) (T.15 i) d2;letI q1:=w1=w1;letI e1:=n1.t;letI f1:=n1.c;letI g1:=n1.r;letI h1:=n1.h;letI k1:=n1.a;letI m1:=v1=v1;letI c1:=e1 k;letI d1:=h1 k;letI b1:=u1=u1;letI a1:=Words c1;letI y:= !eqL (k1 k) [];letI z:= !d1==false;letI w:=∃(x:Unit),True/\b2/\Value.bool false=Value.bool false/\True;letI u:=decide (f1 k>Int.ofNat 1);letI v:=decide (g1 k>Int.ofNat 1);letI s:=Nat.le (List.length c1) 2147483647;letI q:=c1=c1;letI p:= !d1==h1 0;letI m:=fun(i:Nat)=>letI p1:=RowX.mk (T.4 i) (T.12 i) (T.13 i) (T.14 i) (T.15 i) (T.C i);AVal.fmw (fun(j:Nat)=>[AVal.str (p1.t j),AVal.lit (Value.bool (p1.h j)),AVal.str (p1.a j),AVal.lit (Value.int .i64 (p1.c j)),AVal.lit (Value.int .i64 (p1.r j))]) 5 (T.C i);letI g:=∀(k:Nat),letI n:=[AVal.str (e1 k),AVal.lit (Value.bool (h1 k)),AVal.str (k1 k),AVal.lit (Value.int .i64 (f1 k)),AVal.lit (Value.int .i64 (g1 k))];k<d2->SubL 0 n n;letI e:=SubF m m T.R [];letI d:=br y w (∃(j':Nat×Bool),(j'.fst<=d2/\i<T.R/\d2<=12/\ntJ T i j'.fst)/\d2-j'.fst<d2-k/\b2/\c2/\e/\c2/\e/\m1/\q1/\q1/\a2/\g/\a2/\g/\b1/\r1=Value.int .i64 (Int.ofNat j'.fst)/\Value.bool true=Value.bool j'.snd/\True);letI b:=br y w (∃(j':Nat×Bool),(j'.fst<=d2/\i<T.R/\d2<=12/\ntJ T i j'.fst)/\d2-j'.fst<d2-k/\b2/\c2/\e/\c2/\e/\m1/\q1/\q1/\a2/\g/\a2/\g/\b1/\r1=Value.int .i64 (Int.ofNat j'.fst)/\(Value.bool !eqL c1 [])=Value.bool j'.snd/\True);br s1 (gd s1 (br f (b2/\s/\q/\∀(x:Bool),(x=true->a1)->br (!x) w (br u w (br v w (br y1 (gd t1 (br p w d)) (br z w d))))) (b2/\s/\q/\∀(x:Bool),(x=true->a1)->br (!x) w (br u w (br v w (br y1 (gd t1 (br p w b)) (br z w b))))))) (∃(x:Bool),ntJ T i d2/\b2/\c2/\e/\c2/\e/\m1/\q1/\Value.bool f=Value.bool x/\True)
def F_u(T:TD)(k:Nat):Prop:=
 letI d1:=T.C k;letI c1:=T.R=T.R;letI b1:=noSt=noSt;letI a1:=Int.ofNat d1;letI y:=Value.int .i64 (Int.ofNat k);letI z:=Value.int .i64 (Int.ofNat 0);letI w:=Value.int .i64 (Int.ofNat T.R);letI v:=Value.int .i64 a1;letI u:=decide (Int.ofNat k<Int.ofNat T.R);letI s:=Value.bool false=Value.bool false/\True;letI p:=y=y;letI q:=RowX.mk (T.4 k) (T.12 k) (T.13 k) (T.14 k) (T.15 k) d1;letI m:=w=w;letI g:=∃(x:Unit),True/\b1/\s;letI e:=fun(i:Nat)=>letI n:=RowX.mk (T.4 i) (T.12 i) (T.13 i) (T.14 i) (T.15 i) (T.C i);AVal.fmw (fun(j:Nat)=>[AVal.str (n.t j),AVal.lit (Value.bool (n.h j)),AVal.str (n.a j),AVal.lit (Value.int .i64 (n.c j)),AVal.lit (Value.int .i64 (n.r j))]) 5 (T.C i);letI d:=∀(k_1:Nat),letI f:=[AVal.str (q.t k_1),AVal.lit (Value.bool (q.h k_1)),AVal.str (q.a k_1),AVal.lit (Value.int .i64 (q.c k_1)),AVal.lit (Value.int .i64 (q.r k_1))];k_1<d1->SubL 0 f f;letI b:=SubF e e T.R [];br u (gd u (gd (Nat.blt k T.R) (br (a1==Int.ofNat 0) g (br (decide (a1>Int.ofNat 12)) g ((0<=d1/\k<T.R/\d1<=12/\ntJ T k 0)/\(b1/\c1/\b/\c1/\b/\m/\p/\p/\d1=d1/\d/\d1=d1/\d/\v=v/\z=z/\s)/\(∀(x:Bool),ntJ T k d1->br (!x) g (∃(j':Nat),(j'<=T.R/\0<T.R/\T.R<=12/\ntI T j')/\T.R-j'<T.R-k/\b1/\c1/\b/\c1/\b/\m/\Value.int .i64 (IntKind.wrap .i64 (Int.ofNat (k+1)))=Value.int .i64 (Int.ofNat j')/\True))/\∀(x:Unit),True->g))))) (∃(x:Unit),(T.R<=12/\ntT T)/\b1/\True)
def neR(T:TD):Prop:=
 letI p:=noSt=noSt;letI n:=Int.ofNat T.R;letI m:=T.R<=12/\ntT T;letI k:=Value.int .i64 (Int.ofNat 0);letI g:=Value.int .i64 n;letI e:=∃(x:Bool),(x=true->m)/\p/\True/\True/\Value.bool false=Value.bool x/\True;letI d:=fun(i:Nat)=>letI f:=RowX.mk (T.4 i) (T.12 i) (T.13 i) (T.14 i) (T.15 i) (T.C i);AVal.fmw (fun(j:Nat)=>[AVal.str (f.t j),AVal.lit (Value.bool (f.h j)),AVal.str (f.a j),AVal.lit (Value.int .i64 (f.c j)),AVal.lit (Value.int .i64 (f.r j))]) 5 (T.C i);letI b:=SubF d d T.R [];br (n==Int.ofNat 0) e (br (decide (n>Int.ofNat 12)) e ((0<=T.R/\0<T.R/\T.R<=12/\ntI T 0)/\(p/\T.R=T.R/\b/\T.R=T.R/\b/\g=g/\k=k/\True)/\(∀(x:Unit),m->∃(x:Bool),(x=true->m)/\p/\True/\True/\Value.bool true=Value.bool x/\True)/\∀(x:Unit),True->e))
theorem o_A(T:TD):TabOk Tryz.prog (neU T):=by
 refine⟨fun f s h=>?_,fun f s h=>?_⟩
 ·unfold neU at h
  simp only at h
  split at h
  ·cases h;exact a_d w_Q (F_s T).1
  ·cases h
 ·cases h
theorem F_v(T:TD)(i k:Nat)(f:Bool)(hd:fitT T)(h:k<=T.C i/\i<T.R/\T.C i<=12/\ntJ T i k):F_t T i k f:=by
 unfold F_t
 obtain⟨h1,h2,h3,h4⟩:=h
 have e1:IntKind.wrap IntKind.i64 (Int.ofNat (k+1))=Int.ofNat (k+1):=a_o ab ab
 simp only[e1]
 have rF:∀us,SubF (fun i=>AVal.fmw (a_Z (d_q T i)) 5 (T.C i)) (fun i=>AVal.fmw (a_Z (d_q T i)) 5 (T.C i)) T.R us:=fun us i hi _=>SubA.fmw fun _ _=>a_r rfl
 have xt:∀x:Bool,(!x)=false->x=true:=fun x h=>aV
 have n0:∀n:Nat,((n:Int)==((0:Nat):Int))=false->n≠0:=fun n h e=>by subst e;simp at h
 have hh0:((i:Int)==((0:Nat):Int))=true->(!T.hh i k==T.hh i 0)=false->T.hh i k=(Nat.beq i 0&&T.hh i 0):=fun i0 hh=>by
  have i0:i=0:=by simpa using i0
  subst i0;simpa using hh
 have hh1:((i:Int)==((0:Nat):Int))=false->(!T.hh i k==false)=false->T.hh i k=(Nat.beq i 0&&T.hh i 0):=fun i0 hh=>by
  rw[a_X.2 (n0 _ i0)];simpa using hh
 simp only[a_V,sj1,exists_eq_left',sj6,gt_iff_lt,ge_iff_le,exists_const,Int.ofNat_le,implies_true,Bool.true_eq,Value.bool.injEq]
 refine⟨fun g=>⟨g,fun hf=>?_,fun hf=>?_⟩,fun g=>⟨_,(show k=T.C i by omega)▸h4,rF _,rF _,rfl⟩⟩
 ·subst hf
  refine⟨hd.2 i h2 k g,fun x hx hx2 c1 r1=>⟨fun i0=>⟨ac,fun hh al=>?_⟩,fun i0 hh al=>?_⟩⟩
  ·exact⟨(k+1,_),⟨ac,h2,h3,p_F h4 ⟨hx (xt _ hx2),ac,ac,hh0 i0 hh,h_M al⟩⟩,ac,rF _,rF _,fun _ _=>a_r rfl,fun _ _=>a_r rfl,rfl,rfl⟩
  ·exact⟨(k+1,_),⟨ac,h2,h3,p_F h4 ⟨hx (xt _ hx2),ac,ac,hh1 i0 hh,h_M al⟩⟩,ac,rF _,rF _,fun _ _=>a_r rfl,fun _ _=>a_r rfl,rfl,rfl⟩
 ·subst hf
  refine⟨hd.2 i h2 k g,fun x hx hx2 c1 r1=>⟨fun i0=>⟨ac,fun hh al=>?_⟩,fun i0 hh al=>?_⟩⟩
  ·exact⟨(k+1,_),⟨ac,h2,h3,p_F h4 ⟨hx (xt _ hx2),ac,ac,hh0 i0 hh,h_M al⟩⟩,ac,rF _,rF _,fun _ _=>a_r rfl,fun _ _=>a_r rfl,rfl,rfl⟩
  ·exact⟨(k+1,_),⟨ac,h2,h3,p_F h4 ⟨hx (xt _ hx2),ac,ac,hh1 i0 hh,h_M al⟩⟩,ac,rF _,rF _,fun _ _=>a_r rfl,fun _ _=>a_r rfl,rfl,rfl⟩
theorem F_w(T:TD)(i:Nat)(hd:fitT T):(neI T i).Body Tryz.prog (sub (a_b Tryz.f5) [0,0,1,0,1,1,1,0,0,1,1,0,0,1,0,1,1]):=by
 refine LoopD.bodyH (root:=(a_b Tryz.f5)) [0,0,1,0,1,1,1,0,0,1,1,0,0,1,0,1,1] a_l (o_A T) (LTok.nil) 1000 ?_
 exact fun j hj=>Ho.of (F_t T i j.1 j.2) aa (F_v T i j.1 j.2 hd hj)
theorem F_x(T:TD)(k:Nat)(hd:fitT T)(h:k<=T.R/\0<T.R/\T.R<=12/\ntI T k):F_u T k:=by
 unfold F_u
 obtain⟨h1,h2,h3,h4⟩:=h
 have e1:IntKind.wrap IntKind.i64 (Int.ofNat (k+1))=Int.ofNat (k+1):=a_o ab ab
 simp only[e1]
 have rF:∀us,SubF (fun i=>AVal.fmw (a_Z (d_q T i)) 5 (T.C i)) (fun i=>AVal.fmw (a_Z (d_q T i)) 5 (T.C i)) T.R us:=fun us i hi _=>SubA.fmw fun _ _=>a_r rfl
 have xt:∀x:Bool,(!x)=false->x=true:=fun x h=>aV
 have n0:∀n:Nat,((n:Int)==((0:Nat):Int))=false->n≠0:=fun n h e=>by subst e;simp at h
 simp only[a_V,sj1,exists_eq_left',sj6,gt_iff_lt,ge_iff_le,exists_const,Int.ofNat_le,implies_true,Bool.true_eq,Value.bool.injEq]
 exact⟨fun g=>⟨g,a_z.2 g,fun c0 c1=>⟨⟨Nat.zero_le _,g,ac,E_T⟩,⟨rF _,rF _,fun _ _=>a_r rfl,fun _ _=>a_r rfl⟩,fun x hn _=>⟨k+1,⟨ac,h2,h3,E_V h4 (Nat.pos_of_ne_zero (n0 _ c0)) ac hn⟩,ac,rF _,rF _,rfl⟩⟩⟩,fun g=>⟨h3,h2,ac,(show k=T.R by omega)▸h4⟩⟩
theorem F_y(T:TD)(hd:fitT T):(neD T).Body Tryz.prog (sub (a_b Tryz.f5) [0,0,1,0,1,1]):=by
 refine LoopD.bodyHj (root:=(a_b Tryz.f5)) (LT:=fun k=>[([0,1,0,1,1,1,0,0,1,1,0,0,1,0,1,1],(neI T k).at (0,false))]) [0,0,1,0,1,1] a_l (o_A T) (fun k hi=>LTok.cons (fun fr H K hk=>LoopD.ok (F_w T k hd) hk) (LTok.nil)) 1000 ?_
 exact fun j hj=>Ho.of (F_u T j) aa (F_x T j hd hj)
theorem I_Q(T:TD)(hd:fitT T):neR T:=by
 unfold neR
 have rF:∀us,SubF (fun i=>AVal.fmw (a_Z (d_q T i)) 5 (T.C i)) (fun i=>AVal.fmw (a_Z (d_q T i)) 5 (T.C i)) T.R us:=fun us i hi _=>SubA.fmw fun _ _=>a_r rfl
 have xt:∀x:Bool,(!x)=false->x=true:=fun x h=>aV
 have n0:∀n:Nat,((n:Int)==((0:Nat):Int))=false->n≠0:=fun n h e=>by subst e;simp at h
 simp only[a_V,sj1,exists_eq_left',sj6,gt_iff_lt,ge_iff_le,exists_const,Int.ofNat_le,implies_true,Bool.true_eq,Value.bool.injEq]
 exact⟨fun _=>⟨false,nofun,rfl⟩,fun r0=>⟨fun _=>⟨false,nofun,rfl⟩,fun r1=>⟨⟨Nat.zero_le _,Nat.pos_of_ne_zero (n0 _ r0),ac,E_U⟩,⟨rF _,rF _⟩,fun _ h=>⟨true,fun _=>h,rfl⟩,fun _ _=>⟨false,nofun,rfl⟩⟩⟩⟩
theorem w_R:a_t Tryz.prog 5:=⟨Tryz.f5,aa,rfl,aa⟩
theorem F_z(T:TD):(neS T).Body Tryz.prog 5/\(neS T).BodyD Tryz.prog 5:=by
 refine a_c (fn:=Tryz.f5) (b:=a_b Tryz.f5) (LT:=fun _=>[([0,1,0,1,1],(neD T).at (0:Nat))]) a_l (o_A T) 1000 (fun _ ha=>LTok.cons (fun fr H K hk=>LoopD.ok (F_y T ha) hk) (LTok.nil)) aa aa ?_
 exact fun a ha=>Ho.of (neR T) aa (I_Q T ha)
def ceR(T:TD)(t:By)(h:Bool)(c:Int)(r:Int):Prop:=
 letI a1:=Int.ofNat 1;letI b1:=noSt=noSt;letI c1:=AVal.str [];letI z:=(t,h,c,r);letI w:=[(116:UInt8),104];letI y:=[(116:UInt8),100];letI v:=([]:List UInt8)=[];letI q:=decide (c>a1);letI s:=decide (r>a1);letI u:=By×Bool×Int×Int;letI n:=Value.int .i64 a1;letI p:=Value.int .i64 (Int.ofNat 0);letI m:=AVal.lit (Value.slice none 0 0);letI k:=AVal.lit n;letI f:=p=p;letI g:=n=n;br h (br (!eqL t []) (br q False (br s False (∃(x:u),letI d1:=kidN x.fst;letI a:=[k,c1,AVal.str x.fst,m,m];x=z/\b1/\(True/\True/\True/\True/\∀(i:Nat),i<d1->SubL 0 a a)/\True/\f/\(w=bif x.2.fst then w else y)/\v/\1=d1/\d1=0+1/\g/\v/\t=x.fst/\True))) (br q False (br s False (∃(x:u),letI b:=[k,c1,AVal.str x.fst,m,m];x=z/\b1/\(True/\True/\True/\True/\∀(i:Nat),i<kidN x.fst->SubL 0 b b)/\True/\f/\(w=bif x.2.fst then w else y)/\v/\kidN x.fst=0/\True)))) (br (!eqL t []) (br q False (br s False (∃(x:u),letI e1:=kidN x.fst;letI d:=[k,c1,AVal.str x.fst,m,m];x=z/\b1/\(True/\True/\True/\True/\∀(i:Nat),i<e1->SubL 0 d d)/\True/\f/\(y=bif x.2.fst then w else y)/\v/\1=e1/\e1=0+1/\g/\v/\t=x.fst/\True))) (br q False (br s False (∃(x:u),letI e:=[k,c1,AVal.str x.fst,m,m];x=z/\b1/\(True/\True/\True/\True/\∀(i:Nat),i<kidN x.fst->SubL 0 e e)/\True/\f/\(y=bif x.2.fst then w else y)/\v/\kidN x.fst=0/\True))))
theorem w_S(T:TD):TabOk Tryz.prog (ceU T):=by
 refine⟨fun f s h=>?_,fun f s h=>?_⟩
 ·unfold ceU at h
  simp only at h
  split at h
  ·cases h;exact f_9
  ·cases h
 ·cases h
theorem I_R(T:TD)(t:By)(h:Bool)(c r:Int)(hd:c<=1/\r<=1):ceR T t h c r:=by
 unfold ceR
 obtain⟨c1,c2⟩:=hd
 cases h<;>cases t<;>(
 simp only[a_V,sj1,exists_eq_left',sj6,gt_iff_lt,ge_iff_le,exists_const,Int.ofNat_le,implies_true,Bool.true_eq,Value.bool.injEq]
 repeat' (first|done|omega|exact trivial|exact rfl|exact fun _ _=>a_r rfl|intro _|refine And.intro ?_ ?_|(exfalso;simp_all [eqL,b_X];done)))
theorem w_T:a_t Tryz.prog 24:=⟨Tryz.f24,aa,rfl,aa⟩
theorem F_A(T:TD):(ceS T).Body Tryz.prog 24/\(ceS T).BodyD Tryz.prog 24:=by
 refine a_c (fn:=Tryz.f24) (b:=a_b Tryz.f24) (LT:=fun _=>[]) a_l (w_S T) 1000 (fun a ha=>LTok.nil) aa aa ?_
 exact fun a ha=>Ho.of (ceR T a.1 a.2.1 a.2.2.1 a.2.2.2) aa (I_R T a.1 a.2.1 a.2.2.1 a.2.2.2 ha)
end Tk

