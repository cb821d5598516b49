/- Lemmas of this claim; the last text says what is proved. -/
import Derived.Test.YtblencgndjjleaaGreatDoorK25
set_option linter.all false
set_option maxRecDepth 1000000
namespace Tk
open Go Go.Sx Go.Proofs
open Q
variable [Syms]
def C_c(T:TD)(l:By)(i:Nat):Prop:=
 letI m:=i+1;letI h:=List.length l;letI k:=List.take i l;letI g:=a_f T=a_f T;letI f:=Int.ofNat h;letI e:=List.length k;letI d:=UInt8.toNat (List.getD l i (0:UInt8));letI c:=Value.int .i64 f;letI b:=decide (Int.ofNat i<f);letI a:=Int.ofNat d;br b (gd b (gd (Nat.blt i h) (br (a !=Int.ofNat 7) (gd (decide (a<Int.ofNat 256)&&true&&true) (gd (Nat.ble i e&&(Nat.ble m 140737488355328&&true)) (∃(j':Nat),Nat.le j' h/\h-j'<h-i/\g/\l=l/\c=c/\Value.int .i64 (IntKind.wrap .i64 (Int.ofNat m))=Value.int .i64 (Int.ofNat j')/\gd (Nat.beq m j') ((∃(r:List UInt8),List.take i k++[UInt8.ofNat d]=List.take j' l++r)/\True)))) False))) (∃(x:Unit),True/\g/\0+i<=e/\List.take i (List.drop 0 k)=l/\True)
def C_d(T:TD)(l:By)(i:Nat):Prop:=
 letI f:=List.length l;letI e:=a_f T=a_f T;letI d:=Int.ofNat f;letI c:=IntKind.wrap .i64 (Int.ofNat (i+1));letI b:=decide (Int.ofNat i<d);letI a:=∃(x:Unit),True/\e/\l=l/\True;br b (gd b (gd (Nat.blt i f) (br (Int.ofNat (UInt8.toNat (List.getD l i (0:UInt8)))!=Int.ofNat 7) (∃(j':Nat),Nat.le j' f/\f-j'<f-i/\e/\Value.int .i64 c=Value.int .i64 (Int.ofNat j')/\l=l/\True) (br (decide (c≥d)) a False)))) a
def ueR(T:TD)(l:By):Prop:=
 letI k:=List.length l;letI h:=a_f T=a_f T;letI g:=Nat.le 0 k;letI e:=Int.ofNat k;letI f:=Int.ofNat 281474976710656;letI d:=Value.int .i64 (Int.ofNat 0);letI c:=Value.int .i64 e;letI b:=d=d;letI a:=decide (e<=f)&&(decide (Int.ofNat (1*k)<=f)&&true);gd (decide (e<=e)&&a) (g/\(h/\b/\l=l/\True)/\∀(x:Unit),True->gd a (g/\(h/\l=l/\c=c/\b/\gd (Nat.blt k 9223372036854775808) ((∃(r:List UInt8),[]=r)/\k*1<=k/\True))/\∀(x:Unit),True->∃(x:By),x=l/\h/\True/\True/\l=x/\True))
theorem n_2(T:TD):TabOk Tryz.prog (ueU T):=by
 refine⟨fun f s h=>?_,fun f s h=>?_⟩
 ·unfold ueU at h
  simp only at h
  split at h
  ·cases h;exact f_9
  ·cases h
 ·cases h
theorem C_e(T:TD)(l:By)(i:Nat)(hd:(∀b∈l,b.toNat≠7)/\l.length<=a_i)(hi:i<=l.length):C_c T l i:=by
 unfold C_c
 obtain⟨h1,h2⟩:=hd
 simp only[a_i] at h2
 have ofN:∀c:UInt8,UInt8.ofNat c.toNat=c:=fun c=>an
 have e1:i<l.length->IntKind.wrap IntKind.i64 (Int.ofNat (i+1))=Int.ofNat (i+1):=fun h=>ae
 simp only[sj3,x_v,y_m,ofN,sj2,a_e,sj0]
 exact⟨fun g=>⟨g,g,fun _=>⟨(l.getD i 0).toNat_lt,⟨aB,ac⟩,i+1,Nat.succ_le_of_lt g,ac,congrArg _ (e1 g),rfl,[],az⟩,fun e=>absurd e (h1 _ (b_a g))⟩,fun g=>⟨aB,au⟩⟩
theorem C_f(T:TD)(l:By)(hd:(∀b∈l,b.toNat≠7)/\l.length<=a_i):(ueE T l).Body Tryz.prog (sub (a_b Tryz.f479) [0,0,1,0,1,1,1,1,1,1]):=by
 refine LoopD.bodyH (root:=(a_b Tryz.f479)) [0,0,1,0,1,1,1,1,1,1] a_l (n_2 T) (LTok.nil) 1000 ?_
 exact fun i hi=>Ho.of (C_c T l i) aa (C_e T l i hd hi)
theorem C_g(T:TD)(l:By)(i:Nat)(hd:(∀b∈l,b.toNat≠7)/\l.length<=a_i)(hi:i<=l.length):C_d T l i:=by
 unfold C_d
 obtain⟨h1,h2⟩:=hd
 simp only[a_i] at h2
 have ofN:∀c:UInt8,UInt8.ofNat c.toNat=c:=fun c=>an
 have e1:i<l.length->IntKind.wrap IntKind.i64 (Int.ofNat (i+1))=Int.ofNat (i+1):=fun h=>ae
 simp only[sj3,x_v,y_m,ofN,sj2,a_e,sj0]
 exact⟨fun g=>⟨g,g,fun _=>⟨i+1,Nat.succ_le_of_lt g,ac,congrArg _ (e1 g)⟩,fun e=>absurd e (h1 _ (b_a g))⟩,fun _=>trivial⟩
theorem C_h(T:TD)(l:By)(hd:(∀b∈l,b.toNat≠7)/\l.length<=a_i):(ueD T l).Body Tryz.prog (sub (a_b Tryz.f479) [0,0,1,0,1,1,1,1]):=by
 refine LoopD.bodyH (root:=(a_b Tryz.f479)) [0,0,1,0,1,1,1,1] a_l (n_2 T) (LTok.nil) 1000 ?_
 exact fun i hi=>Ho.of (C_d T l i) aa (C_g T l i hd hi)
theorem H_M(T:TD)(l:By)(h2:l.length<=a_i):ueR T l:=by
 unfold ueR
 simp only[a_i] at h2
 simp only[sj3,sj2,a_e,sj0]
 exact⟨⟨Nat.le_refl _,ac,ac⟩,Nat.zero_le _,fun _ _=>⟨⟨ac,ac⟩,Nat.zero_le _,⟨ac,⟨[],rfl⟩,ac⟩,fun _ _=>trivial⟩⟩
theorem q_K:a_t Tryz.prog 479:=⟨Tryz.f479,aa,rfl,aa⟩
theorem v_N(T:TD):(ueS T).Body Tryz.prog 479/\(ueS T).BodyD Tryz.prog 479:=by
 refine a_c (fn:=Tryz.f479) (b:=a_b Tryz.f479) (LT:=fun l=>[([0,1,0,1,1,1,1],(ueD T l).at (0:Nat)),([0,1,0,1,1,1,1,1,1],(ueE T l).at (0:Nat))]) a_l (n_2 T) 1000 (fun l ha=>LTok.cons (fun fr H K hk=>LoopD.ok (C_h T l ha) hk) (LTok.cons (fun fr H K hk=>LoopD.ok (C_f T l ha) hk) (LTok.nil))) aa aa ?_
 exact fun a ha=>Ho.of (ueR T a) aa (H_M T a ha.2)
def C_i(T:TD)(i:Nat)(j:Nat):Prop:=
 letI u1:=T.C i;letI v1:=j+1;letI t1:=T.tx i j;letI s1:=List UInt8;letI p1:=TD.hasT T i j;letI r1:=u1=u1;letI n1:=a_f T=a_f T;letI k1:=Int.ofNat u1;letI h1:=[(7:UInt8),124];letI g1:=List.length t1;letI f1:=Nat.ble v1 u1;letI d1:=Value.int .i64 (Int.ofNat 0);letI c1:=gd (Nat.ble u1 u1) True;letI z:=Nat.beq i i&&Nat.beq j j&&true;letI a1:=Value.int IntKind.i8 (Int.ofNat 0);letI b1:=Value.int .i64 k1;letI y:=fun(q:Nat)=>AVal.by_ (ct T i q);letI w:=h1=h1;letI v:=decide (Int.ofNat j<k1);letI u:=fun(q:Nat)=>AVal.sp (SId.mk 5 i q) 0;letI t:=eqL T.span [(109:UInt8),105,114,114,111,114];letI s:=[((92:UInt8),[(124:UInt8)]).fst,(124:UInt8)];letI r:=Value.int .i64 (IntKind.wrap .i64 (Int.ofNat v1));letI p:=d1=d1;letI m:=a1=a1;letI n:=b1=b1;letI k:=[(92:UInt8),124]=s;letI h:=SubF y y j [];letI g:=SubF u u u1 [];letI f:=Nat.beq j j&&(Nat.ble (u1*1) u1&&Nat.blt u1 9223372036854775808&&(Nat.ble (v1*24) 140737488355328&&(Nat.ble v1 140737488355328&&true)));letI e:=∃(j':Nat),Nat.le j' u1/\u1-j'<u1-j/\n1/\r1/\g/\n/\r=Value.int .i64 (Int.ofNat j')/\gd (Nat.beq v1 j') False;letI a:=br t e e;br v (gd v (gd (Nat.blt j u1) (br p1 (n1/\(p1=true/\WT t1/\0<g1/\g1<=2147483647)/\gd z (p/\m/\∀(x:s1),letI q1:=List.length x;letI m1:=q1-0;letI e1:=Int.ofNat q1;x=t1->gd (decide (e1<=e1)) (n1/\((∀(b:UInt8),b∈x->UInt8.toNat b<128)/\q1<=70368744177664/\TD.Ok T)/\0+m1<=q1/\List.take m1 x=x/\∀(x_1:s1),x_1=trim x->n1/\(0<2/\List.length x_1<=70368744177664/\2<=70368744177664/\1+1<=2)/\x_1=x_1/\w/\k/\∀(x:s1),x=rpF x_1 h1 s->n1/\((∀(b:UInt8),b∈x->UInt8.toNat b≠7)/\List.length x<=70368744177664)/\x=x/\∀(x_2:s1),letI c:=∃(j':Nat),Nat.le j' u1/\u1-j'<u1-j/\n1/\r1/\g/\n/\r=Value.int .i64 (Int.ofNat j')/\gd (Nat.beq v1 j') (r1/\j'=v1/\h/\x_2=ct T i j/\c1);x_2=x->gd f (br f1 (br t c c) a)))) (n1/\p1=false/\gd z (p/\m/\∀(x:Unit),True->n1/\((∀(b:UInt8),b∈[]->UInt8.toNat b<128)/\0<=70368744177664/\TD.Ok T)/\([]:s1)=[]/\∀(x:s1),x=trim []->n1/\(0<2/\List.length x<=70368744177664/\2<=70368744177664/\1+1<=2)/\x=x/\w/\k/\∀(x_1:s1),x_1=rpF x h1 s->n1/\((∀(b:UInt8),b∈x_1->UInt8.toNat b≠7)/\List.length x_1<=70368744177664)/\x_1=x_1/\∀(x:s1),letI d:=∃(j':Nat),Nat.le j' u1/\u1-j'<u1-j/\n1/\r1/\g/\n/\r=Value.int .i64 (Int.ofNat j')/\gd (Nat.beq v1 j') (r1/\j'=v1/\h/\x=ct T i j/\c1);x=x_1->gd f (br f1 (br t d d) a)))))) (∃(x:Unit),True/\n1/\gd (Nat.beq u1 j) (j=u1/\j=j/\h/\True))
def ccR(T:TD)(i:Nat):Prop:=
 letI g:=T.C i;letI f:=True/\True;letI e:=a_f T=a_f T;letI b:=Int.ofNat 281474976710656;letI a:=Value.int .i64 (Int.ofNat 0);e/\(i<T.R/\0<g/\g<=12)/\gd (Nat.beq i i&&true&&true) (∀(x:Nat),letI h:=T.C x;letI d:=Int.ofNat h;x=i->gd (decide (d<=b)&&(decide (Int.ofNat (24*h)<=b)&&true)) (Nat.le 0 g/\(e/\h=g/\SubF (fun(q:Nat)=>AVal.sp (SId.mk 5 x q) 0) (fun(q:Nat)=>AVal.sp (SId.mk 5 i q) 0) h []/\Value.int .i64 d=Value.int .i64 (Int.ofNat g)/\a=a/\h=g/\0=0/\0=0/\gd (Nat.ble g (h*1)) True)/\∀(x:Unit),True->∃(x:Nat),x=i/\e/\((∀(i:Nat),letI c:=AVal.by_ (ct T x i);i<T.C x->SubA 0 c c)/\True)/\((((((True/\f)/\f)/\f)/\f)/\f)/\True)/\g=T.C x/\SubF (fun(q:Nat)=>AVal.by_ (ct T i q)) (fun(q:Nat)=>AVal.by_ (ct T x q)) g []/\True))
theorem q_L(T:TD):TabOk Tryz.prog (ccU T):=by
 refine⟨fun f s h=>?_,fun f s h=>?_⟩
 ·unfold ccU at h
  simp only at h
  split at h
  ·cases h;exact a_d q_C (B_G T).1
  ·cases h;exact d_a (a_d e_a (B_V T).1) (a_d e_a (B_2 T).1)
  ·cases h;exact a_d q_J (v_J T).1
  ·cases h;exact a_d v_M (C_b T).1
  ·cases h;exact a_d q_K (v_N T).1
  ·cases h
 ·cases h
theorem C_j(T:TD)(i j:Nat)(hd:i<T.R/\T.Ok)(h:j<=T.C i):C_i T i j:=by
 unfold C_i
 obtain⟨h1,ok⟩:=hd
 have c2:=ok.c2 i
 have tk:∀l:By,List.take l.length l=l:=fun l=>List.take_length
 have e1:IntKind.wrap IntKind.i64 (Int.ofNat (j+1))=Int.ofNat (j+1):=ae
 have w:=d_W (ok.w i j)
 have hl:=ok.l i j
 have m7:∀b∈trim (T.tx i j),b.toNat≠7:=fun b hb=>by have:=w b (e_R hb);unfold wc at this;omega
 have m8:∀b∈T.tx i j,b.toNat<128:=fun b hb=>by have:=w b hb;unfold wc at this;omega
 have hr:rpF (trim (T.tx i j)) [7,124] [92,124]=trim (T.tx i j):=q_d m7
 have hr0:rpF (trim []) [7,124] [92,124]=trim []:=q_d (by rw[m_L];simp)
 have tl:=e_S (l:=T.tx i j)
 have tl0:(trim []).length=0:=by rw[m_L];rfl
 have z7:∀b∈trim [],b.toNat≠7:=by rw[m_L];simp
 simp only[e1,tk,Nat.sub_zero]
 simp only[sj3,m_B,forall_eq,hr,hr0,tk,Nat.sub_zero,tl0,sj2,a_e,sj0]
 have s1:SubF (fun q=>AVal.sp {k:=5,i:=i,j:=q} 0) (fun q=>AVal.sp {k:=5,i:=i,j:=q} 0) (T.C i) []:=fun _ _ _=>a_7
 have s2:∀n,SubF (fun q=>AVal.by_ (ct T i q)) (fun q=>AVal.by_ (ct T i q)) n []:=fun n _ _ _=>byA
 have fin:∀x:By,x=ct T i j->j<T.C i->∃j',j'<=T.C i/\T.C i-j'<T.C i-j/\SubF (fun q=>AVal.sp {k:=5,i:=i,j:=q} 0) (fun q=>AVal.sp {k:=5,i:=i,j:=q} 0) (T.C i) []/\Value.int IntKind.i64 ((j+1:Nat):Int)=Value.int IntKind.i64 (j':Nat)/\j+1=j'/\j'=j+1/\SubF (fun q=>AVal.by_ (ct T i q)) (fun q=>AVal.by_ (ct T i q)) j []/\x=ct T i j/\T.C i<=T.C i:=fun x hx g=>⟨j+1,ac,ac,s1,rfl,rfl,rfl,s2 _,hx,Nat.le_refl _⟩
 have ne:T.hasT i j=true->0<(T.tx i j).length:=fun h=>List.length_pos_iff.2 (f_m h)
 have em:T.hasT i j=false->trim []=ct T i j:=fun h=>by
  have:T.tx i j=[]:=by
   cases e:T.tx i j with
   |nil=>rfl
   |cons a b=>simp[TD.hasT,e,b_X] at h
  unfold ct;rw[this]
 exact⟨fun g=>⟨g,g,fun ht=>⟨⟨ht,w,ne ht,hl⟩,Nat.le_refl _,⟨m8,ac,ok⟩,Nat.le_refl _,⟨ac,ac,ac,ac⟩,⟨m7,ac⟩,by refine⟨?_,?_⟩<;>omega,fun _=>⟨fun _=>fin _ rfl g,fun _=>fin _ rfl g⟩,fun h=>absurd g ac⟩,fun ht=>⟨ht,fun _=>⟨⟨an,ac,ok⟩,⟨ac,ac,ac,ac⟩,⟨z7,ac⟩,by refine⟨?_,?_⟩<;>omega,fun _=>⟨fun _=>fin _ (em ht) g,fun _=>fin _ (em ht) g⟩,fun h=>absurd g ac⟩⟩⟩,fun ng=>⟨ac,ac,s2 _⟩⟩
theorem C_k(T:TD)(i:Nat)(hd:i<T.R/\T.Ok):(ccD T i).Body Tryz.prog (sub (a_b Tryz.f436) [0,0,1,0,1,1,1,1]):=by
 refine LoopD.bodyH (root:=(a_b Tryz.f436)) [0,0,1,0,1,1,1,1] a_l (q_L T) (LTok.nil) 1000 ?_
 exact fun j hj=>Ho.of (C_i T i j) aa (C_j T i j hd hj)
theorem H_N(T:TD)(i:Nat)(hd:i<T.R/\T.Ok):ccR T i:=by
 unfold ccR
 obtain⟨h1,ok⟩:=hd
 have c2:=ok.c2 i
 simp only[sj3,eq_self,implies_true,Nat.le_eq,forall_eq,sj2,a_e,sj0]
 trace_state
 exact⟨⟨h1,ok.c i h1,c2⟩,⟨ac,ac⟩,Nat.zero_le _,⟨fun _ _ _=>a_7,ac⟩,fun _ _=>⟨fun _ _=>byA,fun _ _ _=>byA⟩⟩
theorem v_O:a_t Tryz.prog 436:=⟨Tryz.f436,aa,rfl,aa⟩
theorem C_l(T:TD):(ccS T).Body Tryz.prog 436/\(ccS T).BodyD Tryz.prog 436:=by
 refine a_c (fn:=Tryz.f436) (b:=a_b Tryz.f436) (LT:=fun i=>[([0,1,0,1,1,1,1],(ccD T i).at (0:Nat))]) a_l (q_L T) 1000 (fun i ha=>LTok.cons (fun fr H K hk=>LoopD.ok (C_k T i ha) hk) (LTok.nil)) aa aa ?_
 exact fun a ha=>Ho.of (ccR T a) aa (H_N T a ha)
def C_m(T:TD)(n:Nat)(i:Nat)(j:Nat):Prop:=
 letI k:=Int.ofNat 1;letI h:=a_f T=a_f T;letI g:=Nat.blt i n&&true;letI f:=fun(x:Nat)=>AVal.e0;letI e:=Int.ofNat j-k;letI d:=decide (Int.ofNat i<Int.ofNat n);letI c:=Int.toNat e;letI b:=Nat.blt c n;letI a:=decide (Int.ofNat 0<=e)&&decide (e<Int.ofNat n);br (decide (Int.ofNat i<e)) (gd a (gd b (gd d (gd (Nat.blt i n) (gd d (gd g (gd a (gd (b&&true) (∃(j':Nat×Nat),(j'.fst<=n/\j'.snd<=n)/\n+1+j'.snd-j'.fst<n+1+j-i/\h/\gd (Nat.beq n n) (Value.int .i64 (IntKind.wrap .i64 (Int.ofNat (i+1)))=Value.int .i64 (Int.ofNat j'.fst)/\Value.int .i64 (IntKind.wrap .i64 (e-k))=Value.int .i64 (Int.ofNat j'.snd-k)/\n=n/\SubF f f n [(c,AVal.e0),(i,AVal.e0)]/\gd (b&&(!Nat.beq c i&&true)) (gd g True))))))))))) (∃(x:Unit),True/\h/\n<=n/\SubF f f n []/\True)
def rvR(T:TD)(n:Nat):Prop:=
 letI e:=a_f T=a_f T;letI d:=List (Nat×AVal);letI c:=fun(x:Nat)=>AVal.e0;letI b:=Int.ofNat n-Int.ofNat 1;letI a:=Value.int .i64 (Int.ofNat 0);(0<=n/\n<=n)/\(e/\gd (Nat.beq n n) (a=a/\Value.int .i64 (IntKind.wrap .i64 b)=Value.int .i64 b/\n<=n/\SubF c c n []/\True))/\∀(x:Unit),True->∃(x:Nat),x=n/\e/\True/\(([]:d)=([]:d)/\([]:List AVal)=([]:List AVal)/\∀(i:Nat),i<x->SubA 0 AVal.e0 AVal.e0)/\x<=n/\SubF c c x []/\True
theorem C_n(T:TD)(n i j:Nat)(hd:n<=100)(h:i<=n/\j<=n):C_m T n i j:=by
 unfold C_m
 have sf:∀us,SubF (fun _=>AVal.e0) (fun _=>AVal.e0) n us:=fun us _ _ _=>a_g rfl
 cases j with
 |zero=>
  have hf:decide (Int.ofNat i<Int.ofNat 0-Int.ofNat 1)=false:=decide_eq_false ab
  rw[hf]
  exact⟨(),trivial,rfl,Nat.le_refl _,sf _,trivial⟩
 |succ j=>
  have e0:Int.ofNat (j+1)-Int.ofNat 1=Int.ofNat j:=ab
  have e1:IntKind.wrap IntKind.i64 (Int.ofNat (i+1))=Int.ofNat (i+1):=a_o ab ab
  have e2:IntKind.wrap IntKind.i64 (Int.ofNat j-Int.ofNat 1)=Int.ofNat j-Int.ofNat 1:=a_o ab ab
  have tn:∀n:Nat,Int.toNat (Int.ofNat n)=n:=fun n=>rfl
  simp only[e0,e1,e2,tn]
  simp only[sj3,eq_self,implies_true,Bool.not_eq_true',a_X,sj2,a_e,sj0]
  refine⟨fun g=>?_,fun _=>⟨Nat.le_refl _,sf _⟩⟩
  repeat' (first|omega|exact sf _|exact rfl|refine⟨(i+1,j),⟨ac,ac⟩,aJ,?_⟩|refine And.intro ?_ ?_)
theorem C_o(T:TD)(n:Nat)(hd:n<=100):(rvD T n).Body Tryz.prog (sub (a_b Tryz.f450) [0,0,1]):=by
 refine LoopD.bodyH (root:=(a_b Tryz.f450)) [0,0,1] a_l (a_y) (LTok.nil) 1000 ?_
 exact fun j hj=>Ho.of (C_m T n j.1 j.2) aa (C_n T n j.1 j.2 hd hj)
theorem H_O(T:TD)(n:Nat)(hd:n<=100):rvR T n:=by
 unfold rvR
 have e1:IntKind.wrap IntKind.i64 (Int.ofNat n-Int.ofNat 1)=Int.ofNat n-Int.ofNat 1:=a_o ab ab
 simp only[e1]
 simp only[sj3,eq_self,implies_true,sj2,a_e,sj0]
 exact⟨⟨Nat.zero_le _,Nat.le_refl _⟩,⟨Nat.le_refl _,fun _ _ _=>a_g rfl⟩,fun _ _=>⟨fun _ _=>a_g rfl,Nat.le_refl _,fun _ _ _=>a_g rfl⟩⟩
theorem v_P:a_t Tryz.prog 450:=⟨Tryz.f450,aa,rfl,aa⟩
theorem C_p(T:TD):(rvS T).Body Tryz.prog 450/\(rvS T).BodyD Tryz.prog 450:=by
 refine a_c (fn:=Tryz.f450) (b:=a_b Tryz.f450) (LT:=fun n=>[([0,1],(rvD T n).at (0,n))]) a_l (a_y) 1000 (fun n ha=>LTok.cons (fun fr H K hk=>LoopD.ok (C_o T n ha) hk) (LTok.nil)) aa aa ?_
 exact fun a ha=>Ho.of (rvR T a) aa (H_O T a ha)
def C_q(T:TD)(f:Nat->AVal)(n:Nat)(m:Nat)(c:Nat)(k:Nat):Prop:=
 letI g:=Nat.beq n n;letI h:=Nat.ble c c;letI e:=a_f T=a_f T;letI d:=fun(x:Nat)=>AVal.e0;letI b:=Value.int .i64 (Int.ofNat m);letI a:=decide (Int.ofNat k<Int.ofNat m);br a (gd a (gd (Nat.blt k m) (∃(j':Nat),Nat.le j' m/\m-j'<m-k/\e/\gd g (c=c/\gd (Nat.beq m m) (b=b/\Value.int .i64 (IntKind.wrap .i64 (Int.ofNat (k+1)))=Value.int .i64 (Int.ofNat j')/\n<=n/\SubF f f n []/\gd h (m<=m/\SubF d d m []/\True)))))) (∃(x:Unit),True/\e/\gd g (c=c/\n<=n/\SubF f f n []/\gd h True))
def gmR(T:TD)(f:Nat->AVal)(n:Nat)(m:Nat)(c:Nat):Prop:=
 letI k:=Nat.beq m m;letI h:=a_f T=a_f T;letI g:=List (Nat×AVal);letI e:=fun(x:Nat)=>AVal.e0;letI b:=Value.int .i64 (Int.ofNat m);letI d:=Value.int .i64 (Int.ofNat 0);letI a:=SubF e e m [];h/\Nat.le m 100/\gd k (m<=m/\a/\∀(x:Nat),x=m->Nat.le 0 m/\(h/\gd (Nat.beq n n) (c=c/\gd k (b=b/\d=d/\n<=n/\SubF f f n []/\gd (Nat.ble c c) (m<=x/\a/\True))))/\∀(x:Unit),True->∃(x:(Nat->AVal)×Nat×Nat×Nat),x=(f,n,m,c)/\h/\True/\(([]:g)=([]:g)/\([]:List AVal)=([]:List AVal)/\∀(i:Nat),i<x.2.fst->SubA 0 (x.1 i) (x.1 i))/\gd (Nat.beq n x.2.fst) (c=x.snd.2.snd/\x.2.fst<=n/\SubF f x.1 x.2.fst []/\gd (Nat.ble x.snd.2.snd c) True))
theorem q_M(T:TD):TabOk Tryz.prog (gmU T):=by
 refine⟨fun f s h=>?_,fun f s h=>?_⟩
 ·unfold gmU at h
  simp only at h
  split at h
  ·cases h;exact a_d v_P (C_p T).1
  ·cases h
 ·cases h
theorem C_r(T:TD)(f:Nat->AVal)(n m c:Nat)(k:Nat)(hd:(∀i,SubA 0 (f i) (f i))/\m<=100/\n<=c)(h:k<=m):C_q T f n m c k:=by
 unfold C_q
 obtain⟨hf,hm,hn⟩:=hd
 have sff:SubF f f n []:=fun i _ _=>hf i
 have se:SubF (fun _=>AVal.e0) (fun _=>AVal.e0) m []:=fun _ _ _=>a_g rfl
 simp only[sj3,eq_self,implies_true,Nat.le_eq,sj2,a_e,sj0]
 exact⟨fun g=>⟨g,g,k+1,ac,ac,congrArg _ (a_o ac ac),Nat.le_refl _,sff,Nat.le_refl _,Nat.le_refl _,se⟩,fun _=>⟨Nat.le_refl _,sff,Nat.le_refl _⟩⟩
theorem C_s(T:TD)(f:Nat->AVal)(n m c:Nat)(hd:(∀i,SubA 0 (f i) (f i))/\m<=100/\n<=c):(gmD T f n m c).Body Tryz.prog (sub (a_b Tryz.f437) [0,0,1,0,1,1]):=by
 refine LoopD.bodyH (root:=(a_b Tryz.f437)) [0,0,1,0,1,1] a_l (q_M T) (LTok.nil) 1000 ?_
 exact fun j hj=>Ho.of (C_q T f n m c j) aa (C_r T f n m c j hd hj)
theorem H_P(T:TD)(f:Nat->AVal)(n m c:Nat)(hd:(∀i,SubA 0 (f i) (f i))/\m<=100/\n<=c):gmR T f n m c:=by
 unfold gmR
 obtain⟨hf,hm,hn⟩:=hd
 have sff:SubF f f n []:=fun i _ _=>hf i
 have se:SubF (fun _=>AVal.e0) (fun _=>AVal.e0) m []:=fun _ _ _=>a_g rfl
 simp only[sj3,eq_self,implies_true,Nat.le_eq,forall_eq,sj2,a_e,sj0]
 trace_state
 exact⟨hm,Nat.le_refl _,se,Nat.zero_le _,⟨Nat.le_refl _,sff,Nat.le_refl _,Nat.le_refl _,se⟩,fun _ _=>⟨fun i _=>hf i,Nat.le_refl _,sff,Nat.le_refl _⟩⟩
theorem v_Q:a_t Tryz.prog 437:=⟨Tryz.f437,aa,rfl,aa⟩
theorem C_t(T:TD):(gmS T).Body Tryz.prog 437/\(gmS T).BodyD Tryz.prog 437:=by
 refine a_c (fn:=Tryz.f437) (b:=a_b Tryz.f437) (LT:=fun a=>[([0,1,0,1,1],(gmD T a.1 a.2.1 a.2.2.1 a.2.2.2).at (0:Nat))]) a_l (q_M T) 1000 (fun a ha=>LTok.cons (fun fr H K hk=>LoopD.ok (C_s T a.1 a.2.1 a.2.2.1 a.2.2.2 ha) hk) (LTok.nil)) aa aa ?_
 exact fun a ha=>Ho.of (gmR T a.1 a.2.1 a.2.2.1 a.2.2.2) aa (H_P T a.1 a.2.1 a.2.2.1 a.2.2.2 ha)
def C_u(T:TD)(g:Nat->By)(n:Nat)(k:Nat):Prop:=
 letI f:=a_f T=a_f T;letI e:=Value.bool false;letI d:=Value.int .i64 (Int.ofNat n);letI b:=fun(c:Nat)=>AVal.by_ (g c);letI a:=decide (Int.ofNat k<Int.ofNat n);br a (gd a (gd (Nat.blt k n) (br (decide (Int.ofNat (List.length (g k))>Int.ofNat 0)) (∃(x:Unit),rowE g n=false/\f/\e=e/\True) (∃(j':Nat),(j'<=n/\rowI g j')/\n-j'<n-k/\f/\n=n/\SubF b b n []/\d=d/\Value.int .i64 (IntKind.wrap .i64 (Int.ofNat (k+1)))=Value.int .i64 (Int.ofNat j')/\True)))) (∃(x:Unit),rowE g n=true/\f/\True)
def ieR(T:TD)(g:Nat->By)(n:Nat):Prop:=
 letI e:=rowE g n;letI d:=a_f T=a_f T;letI a:=Value.int .i64 (Int.ofNat n);letI b:=Value.int .i64 (Int.ofNat 0);(0<=n/\rowI g 0)/\(d/\n=n/\SubF (fun(c:Nat)=>AVal.by_ ((g,n).fst c)) (fun(c:Nat)=>AVal.by_ (g c)) n []/\a=a/\b=b/\True)/\(∀(x:Unit),e=true->∃(x:Bool),x=e/\d/\True/\True/\Value.bool true=Value.bool x/\True)/\∀(x:Unit),e=false->∃(x:Bool),x=e/\d/\True/\True/\Value.bool false=Value.bool x/\True
theorem C_v(T:TD)(g:Nat->By)(n:Nat)(k:Nat)(hd:n<=1000)(h:k<=n/\rowI g k):C_u T g n k:=by
 unfold C_u
 have e1:IntKind.wrap IntKind.i64 (Int.ofNat (k+1))=Int.ofNat (k+1):=a_o ab ab
 simp only[e1]
 simp only[sj3,eq_self,implies_true,Nat.le_eq,sj2,a_e,sj0]
 exact⟨fun g1=>⟨g1,g1,fun h2=>q_e ac g1,fun h2=>⟨k+1,⟨g1,u_e h.2 ac⟩,ac,fun _ _ _=>byA,rfl⟩⟩,fun g1=>(show k=n by omega)▸h.2⟩
theorem C_w(T:TD)(g:Nat->By)(n:Nat)(hd:n<=1000):(ieD T g n).Body Tryz.prog (sub (a_b Tryz.f454) [0,0,1,0,1]):=by
 refine LoopD.bodyH (root:=(a_b Tryz.f454)) [0,0,1,0,1] a_l (a_y) (LTok.nil) 1000 ?_
 exact fun j hj=>Ho.of (C_u T g n j) aa (C_v T g n j hd hj)
theorem H_Q(T:TD)(g:Nat->By)(n:Nat):ieR T g n:=by
 unfold ieR
 exact⟨⟨Nat.zero_le _,u_d⟩,⟨rfl,rfl,fun _ _ _=>byA,rfl,rfl,trivial⟩,fun _ h=>⟨_,rfl,rfl,trivial,trivial,by rw[h],trivial⟩,fun _ h=>⟨_,rfl,rfl,trivial,trivial,by rw[h],trivial⟩⟩
theorem n_3:a_t Tryz.prog 454:=⟨Tryz.f454,aa,rfl,aa⟩
theorem s_Q(T:TD):(ieS T).Body Tryz.prog 454/\(ieS T).BodyD Tryz.prog 454:=by
 refine a_c (fn:=Tryz.f454) (b:=a_b Tryz.f454) (LT:=fun a=>[([0,1,0,1],(ieD T a.1 a.2).at (0:Nat))]) a_l (a_y) 1000 (fun a ha=>LTok.cons (fun fr H K hk=>LoopD.ok (C_w T a.1 a.2 ha) hk) (LTok.nil)) aa aa ?_
 exact fun a ha=>Ho.of (ieR T a.1 a.2) aa (H_Q T a.1 a.2)
def C_x(T:TD)(rn:Nat->Nat)(rc:Nat->Nat->By)(n:Nat)(c:Nat)(k:Nat):Prop:=
 letI v:=Int.ofNat k;letI w:=Nat.ble c c;letI t:=a_f T=a_f T;letI u:=fS (eR rn rc) n;letI r:=Value.int .i64 (Int.ofNat n);letI s:=Value.int .i64 v;letI p:=decide (v<Int.ofNat n);letI m:=fun(c:Nat)=>h_P (AVal.by_ (rc k c));letI h:=(m,rn k);letI g:=h.snd;letI f:=Value.int .i64 (IntKind.wrap .i64 (Int.ofNat (k+1)));letI e:=fun(q:Nat)=>AVal.famx (fun(k:Nat)=>AVal.by_ (rc q k)) (rn q);letI b:=SubF e e n [];letI a:=∃(j':Nat),letI d:=f=Value.int .i64 (Int.ofNat j');(j'<=n/\fI (eR rn rc) j')/\n-j'<n-k/\t/\gd (Nat.beq n n) (c=c/\r=r/\d/\n<=n/\b/\gd w (d/\True));br p (gd p (gd (Nat.blt k n) (br (v==Int.ofNat 0) a (t/\Nat.le g 1000/\rn k=g/\SubF (fun(k_1:Nat)=>AVal.by_ (rc k k_1)) (fun(c:Nat)=>AVal.by_ (h.fst c)) (rn k) []/\∀(x:Bool),x=rowE m g->br x (∃(x:Nat×Nat),(x.fst=u/\x.fst<n/\x.snd=x.fst+1)/\t/\s=Value.int .i64 (Int.ofNat x.fst)/\n<=n/\b/\gd w (f=Value.int .i64 (Int.ofNat x.snd)/\True)) a)))) (∃(x:Unit),u=n/\t/\n<=n/\b/\gd w (s=r/\True))
def xfR(T:TD)(rn:Nat->Nat)(rc:Nat->Nat->By)(n:Nat)(c:Nat):Prop:=
 letI s:=True/\True;letI p:=a_f T=a_f T;letI r:=fS (eR rn rc) n;letI m:=Nat×Nat×Bool;letI g:=Value.int .i64 (Int.ofNat n);letI h:=Value.int .i64 (Int.ofNat 0);letI f:=Value.int .i64 (Int.negSucc 0);letI d:=h=h;(0<=n/\fI (eR rn rc) 0)/\(p/\gd (Nat.beq n n) (c=c/\g=g/\d/\n<=n/\SubF (fun(q:Nat)=>AVal.famx (fun(k:Nat)=>AVal.by_ ((rc,n,c).fst q k)) ((rn,rc,n,c).fst q)) (fun(q:Nat)=>AVal.famx (fun(k:Nat)=>AVal.by_ (rc q k)) (rn q)) n []/\gd (Nat.ble c c) (d/\True)))/\(∀(x:Unit),r=n->∃(x:m),letI b:=g=Value.int .i64 (Int.ofNat x.2.fst)/\True;(x.fst=r/\(x.2.snd=true->x.2.fst=x.fst+1)/\x.2.snd=Nat.blt x.fst n)/\p/\s/\True/\br x.2.snd (f=Value.int .i64 (Int.ofNat x.fst)/\b) (f=f/\b))/\∀(x:Nat×Nat),letI e:=Value.int .i64 (Int.ofNat x.fst);x.fst=r/\x.fst<n/\x.snd=x.fst+1->∃(x_1:m),letI a:=Value.int .i64 (Int.ofNat x.snd)=Value.int .i64 (Int.ofNat x_1.2.fst)/\True;(x_1.fst=r/\(x_1.2.snd=true->x_1.2.fst=x_1.fst+1)/\x_1.2.snd=Nat.blt x_1.fst n)/\p/\s/\True/\br x_1.2.snd (e=Value.int .i64 (Int.ofNat x_1.fst)/\a) (e=f/\a)
theorem n_4(T:TD):TabOk Tryz.prog (xfU T):=by
 refine⟨fun f s h=>?_,fun f s h=>?_⟩
 ·unfold xfU at h
  simp only at h
  split at h
  ·cases h;exact a_d n_3 (s_Q T).1
  ·cases h
 ·cases h
theorem C_y(T:TD)(rn:Nat->Nat)(rc:Nat->Nat->By)(n c:Nat)(k:Nat)(hd:(∀q,rn q<=1000)/\1<=n/\n<=100/\n<=c)(h:k<=n/\fI (eR rn rc) k):C_x T rn rc n c k:=by
 unfold C_x
 obtain⟨hrn,h1,h100,hc⟩:=hd
 have e1:IntKind.wrap IntKind.i64 (Int.ofNat (k+1))=Int.ofNat (k+1):=a_o ab ab
 have sf:∀us,SubF (fun q=>AVal.famx (fun k=>AVal.by_ (rc q k)) (rn q)) (fun q=>AVal.famx (fun k=>AVal.by_ (rc q k)) (rn q)) n us:=fun _ _ _ _=>SubA.famx fun _ _=>byA
 have sb:SubF (fun k_1=>AVal.by_ (rc k k_1)) (fun k_1=>AVal.by_ (rc k k_1)) (rn k) []:=fun _ _ _=>byA
 simp only[e1,h_P]
 simp only[sj3,eq_self,implies_true,Nat.le_eq,forall_eq,b_F,b_P,sj2,a_e,sj0]
 exact⟨fun g=>⟨g,g,fun e=>⟨k+1,⟨g,by subst e;exact G_K⟩,ac,rfl,Nat.le_refl _,sf _,Nat.le_refl _,rfl⟩,fun e=>⟨hrn k,sb,fun he=>⟨(k,k+1),⟨(u_g h.2 g ac he).symm,g,rfl⟩,rfl,Nat.le_refl _,sf _,Nat.le_refl _,rfl⟩,fun he=>⟨k+1,⟨g,G_L h.2 he⟩,ac,rfl,Nat.le_refl _,sf _,Nat.le_refl _,rfl⟩⟩⟩,fun g=>⟨q_f h.2 ac,Nat.le_refl _,sf _,Nat.le_refl _,by rw[show k=n by omega]⟩⟩
theorem C_z(T:TD)(rn:Nat->Nat)(rc:Nat->Nat->By)(n c:Nat)(hd:(∀q,rn q<=1000)/\1<=n/\n<=100/\n<=c):(xfD T rn rc n c).Body Tryz.prog (sub (a_b Tryz.f461) [0,0,1,0,1]):=by
 refine LoopD.bodyH (root:=(a_b Tryz.f461)) [0,0,1,0,1] a_l (n_4 T) (LTok.nil) 1000 ?_
 exact fun j hj=>Ho.of (C_x T rn rc n c j) aa (C_y T rn rc n c j hd hj)
theorem H_R(T:TD)(rn:Nat->Nat)(rc:Nat->Nat->By)(n c:Nat)(hd:(∀q,rn q<=1000)/\1<=n/\n<=100/\n<=c):xfR T rn rc n c:=by
 unfold xfR
 obtain⟨hrn,h1,h100,hc⟩:=hd
 have sf:SubF (fun q=>AVal.famx (fun k=>AVal.by_ (rc q k)) (rn q)) (fun q=>AVal.famx (fun k=>AVal.by_ (rc q k)) (rn q)) n []:=fun _ _ _=>SubA.famx fun _ _=>byA
 simp only[sj3,eq_self,implies_true,sj2,a_e,sj0]
 exact⟨⟨Nat.zero_le _,G_J⟩,⟨Nat.le_refl _,sf,Nat.le_refl _⟩,fun _ e=>⟨(n,n,false),⟨e.symm,fun h=>am,(a_C.2 (Nat.le_refl _)).symm⟩,fun h=>am,fun _=>rfl⟩,fun x e=>⟨(x.1,x.2,true),⟨e.1,fun _=>e.2.2,(a_z.2 e.2.1).symm⟩,fun _=>⟨rfl,rfl⟩,fun h=>am⟩⟩
theorem v_R:a_t Tryz.prog 461:=⟨Tryz.f461,aa,rfl,aa⟩
theorem C_A(T:TD):(xfS T).Body Tryz.prog 461/\(xfS T).BodyD Tryz.prog 461:=by
 refine a_c (fn:=Tryz.f461) (b:=a_b Tryz.f461) (LT:=fun a=>[([0,1,0,1],(xfD T a.1 a.2.1 a.2.2.1 a.2.2.2).at (0:Nat))]) a_l (n_4 T) 1000 (fun a ha=>LTok.cons (fun fr H K hk=>LoopD.ok (C_z T a.1 a.2.1 a.2.2.1 a.2.2.2 ha) hk) (LTok.nil)) aa aa ?_
 exact fun a ha=>Ho.of (xfR T a.1 a.2.1 a.2.2.1 a.2.2.2) aa (H_R T a.1 a.2.1 a.2.2.1 a.2.2.2 ha)
end Tk

