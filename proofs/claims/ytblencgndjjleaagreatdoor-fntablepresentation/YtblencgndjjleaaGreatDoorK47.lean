/- Lemmas of this claim; the last text says what is proved. -/
import Derived.Test.YtblencgndjjleaaGreatDoorK44
import Derived.Test.YtblencgndjjleaaGreatDoorK46
set_option linter.all false
set_option maxRecDepth 1000000
namespace Tk
open Go Go.Sx Go.Proofs
open Q
variable [Syms]
def G_m(T:TD)(L:List By)(n:Nat)(m:Nat->Nat)(C:List By):Prop:=
 letI a1:=noSt=noSt;letI b1:=Nat.beq n n;letI y:=List.length C;letI z:=List.length L;letI w:=Value.bool false;letI v:=y+1;letI u:=Int.ofNat y;letI t:=Value.int .i64 (Int.ofNat 1);letI s:=z=z;letI p:=fun(q:Nat)=>AVal.str (atS L q);letI r:=fun(q:Nat)=>AVal.str (atS C q);letI k:=a1/\gd b1 False;letI g:=Value.int .i64 (Int.ofNat z);letI h:=Value.int .i64 u;letI f:=decide (Int.ofNat 0<u);letI d:=t=t;letI e:=fun(q:Nat)=>AVal.fam (fun(x:Nat)=>AVal.top) (m q);letI c:=g=g;letI b:=SubF p p z [];letI a:=SubF e e n [];br f (gd f (gd (Nat.blt 0 y) (a1/\Nat.le (List.length (atS C 0)) 1099511627776/\atS C 0=atS C 0/\∀(x:Int×Bool),True->br (!x.snd) ((∃(x:Unit),True/\a1/\w=w/\True)\/False) ((∃(j':Unit),True/\v<v/\k)\/∃(j':Nat),(0<j'/\j'<=y)/\y-j'<v/\a1/\gd b1 (gd (Nat.beq 1 j') (s/\b/\c/\d/\y=y/\SubF r r y []/\h=h/\t=Value.int .i64 (Int.ofNat j')/\n<=n/\a/\j'=1/\True)))))) ((∃(x:Unit),True/\a1/\gd b1 (s/\b/\c/\d/\n<=n/\a/\True))\/(∃(x:Unit),True/\k)\/False)
def G_n(T:TD)(L:List By)(n:Nat)(m:Nat->Nat)(C:List By)(k:Nat):Prop:=
 letI e1:=k+1;letI c1:=noSt=noSt;letI d1:=Nat.beq n n;letI a1:=List.length C;letI b1:=List.length L;letI z:=Value.bool false;letI y:=a1-k;letI v:=Int.ofNat a1;letI w:=fun(x:Nat)=>AVal.top;letI u:=Value.int .i64 (Int.ofNat 1);letI t:=b1=b1;letI r:=fun(q:Nat)=>AVal.str (atS L q);letI s:=fun(q:Nat)=>AVal.str (atS C q);letI p:=c1/\gd d1 False;letI g:=Value.int .i64 (Int.ofNat b1);letI h:=Value.int .i64 v;letI f:=decide (Int.ofNat k<v);letI d:=u=u;letI e:=fun(q:Nat)=>AVal.fam w (m q);letI c:=g=g;letI b:=SubF r r b1 [];letI a:=SubF e e n [];br f (gd f (gd (Nat.blt k a1) (c1/\Nat.le (List.length (atS C k)) 1099511627776/\atS C k=atS C k/\∀(x:Int×Bool),True->br (!x.snd) ((∃(x:Unit),True/\c1/\z=z/\True)\/False) (gd (Nat.beq k k&&(Nat.ble (e1*8) 140737488355328&&(Nat.ble e1 140737488355328&&true))) ((∃(j':Unit),True/\a1+1<y/\p)\/∃(j':Nat),(0<j'/\j'<=a1)/\a1-j'<y/\c1/\gd d1 (gd (Nat.beq e1 j') (t/\b/\c/\d/\a1=a1/\SubF s s a1 []/\h=h/\Value.int .i64 (IntKind.wrap .i64 (Int.ofNat e1))=Value.int .i64 (Int.ofNat j')/\n<=n/\a/\j'=e1/\SubF w w k []/\True))))))) ((∃(x:Unit),True/\p)\/(∃(x:Unit),True/\c1/\gd d1 (gd (Nat.beq k a1) (t/\b/\c/\d/\n<=n/\a/\a1<=k/\SubF w w a1 []/\True)))\/False)
def G_o(T:TD)(L:List By):Prop:=
 letI p:=atS L 0;letI m:=noSt=noSt;letI n:=Nat->Nat;letI k:=List.length L;letI g:=Value.bool false;letI f:=k+1;letI e:=List.length p;letI d:=Int.ofNat k;letI c:=fun(q:Nat)=>AVal.str (atS L q);letI b:=Value.int .i64 d;letI a:=decide (Int.ofNat 0<d);br a (gd a (gd (Nat.blt 0 k) (m/\(ASC p/\e<=1099511627776)/\p=p/\∀(x:List By×Bool),letI h:=List.length x.1;h<=e/\lnL e x.1/\(UInt8.toNat (List.getD p 0 (0:UInt8))≠124->x.snd=false)->br (!x.snd) ((∃(x:Unit),True/\m/\g=g/\True)\/False) ((∃(j':Unit),True/\f<f/\m/\False)\/(∃(j':Nat×Nat×n),((0<j'.fst/\j'.fst<=k)/\(0<j'.2.fst/\j'.2.fst<=j'.fst)/\barL L)/\k-j'.fst<f/\m/\gd (Nat.beq 1 j'.2.fst) (k=k/\SubF c c k []/\b=b/\Value.int .i64 (Int.ofNat 1)=Value.int .i64 (Int.ofNat j'.fst)/\j'.2.fst=1/\h=j'.2.snd 0/\SubF (fun(q:Nat)=>AVal.str (atS x.1 q)) (fun(x:Nat)=>AVal.top) h []/\True))\/(∃(j':Nat×Nat×n×Nat),((1<j'.fst/\j'.fst<=k)/\(0<j'.2.fst/\j'.2.fst<=j'.fst)/\barL L)/\k-j'.fst<f/\m/\gd (Nat.beq 1 j'.2.fst) False)\/False)))) ((∃(x:Unit),barL L/\m/\True)\/False)
def t_i(T:TD)(L:List By)(i:Nat)(n:Nat)(m:Nat->Nat):Prop:=
 letI q1:=n+1;letI p1:=barL L;letI n1:=atS L i;letI g1:=Int.ofNat i;letI h1:=noSt=noSt;letI k1:=Int.ofNat 0;letI m1:=Nat->Nat;letI e1:=List.length L;letI c1:=e1-i;letI b1:=List.length n1;letI z:=Int.ofNat e1;letI a1:=fun(x:Nat)=>AVal.top;letI y:=Nat×Nat×m1;letI u:=Value.int .i64 k1;letI v:=Value.int .i64 (Int.ofNat 2);letI t:=e1=e1;letI s:=Nat×Nat×m1×Nat;letI r:=fun(q:Nat)=>AVal.str (atS L q);letI k:=Value.int .i64 z;letI h:=decide (g1<z);letI f:=fun(q:Nat)=>AVal.fam a1 ((n,m).snd q);letI e:=k=k;letI d:=∃(j':Unit),True/\e1+1<c1/\h1/\False;letI c:=(∃(x:Unit),True/\h1/\Value.bool false=Value.bool false/\True)\/False;letI b:=SubF r r e1 [];br h (gd h (gd (Nat.blt i e1) (h1/\(ASC n1/\b1<=1099511627776)/\n1=n1/\∀(x:List By×Bool),letI d1:=List.length x.1;letI w:=Int.ofNat d1;letI p:=fun(q:Nat)=>AVal.str (atS x.1 q);letI a:=br (g1 !=Int.ofNat 1) (gd (Nat.beq n n&&(Nat.ble (q1*24) 140737488355328&&(Nat.ble q1 140737488355328&&true))) (d\/(∃(j':y),((0<j'.fst/\j'.fst<=e1)/\(0<j'.2.fst/\j'.2.fst<=j'.fst)/\p1)/\e1-j'.fst<c1/\h1/\gd (Nat.beq q1 j'.2.fst) (t/\b/\e/\Value.int .i64 (IntKind.wrap .i64 (Int.ofNat (i+1)))=Value.int .i64 (Int.ofNat j'.fst)/\j'.2.fst=q1/\SubF f (fun(q:Nat)=>AVal.fam a1 (j'.2.snd q)) n []/\d1=j'.2.snd n/\SubF p a1 d1 []/\True))\/(∃(j':s),((1<j'.fst/\j'.fst<=e1)/\(0<j'.2.fst/\j'.2.fst<=j'.fst)/\p1)/\e1-j'.fst<c1/\h1/\gd (Nat.beq q1 j'.2.fst) False)\/False)) (∃(n_1:Nat),∃(m_1:m1),letI g:=fun(q:Nat)=>AVal.fam a1 (m_1 q);∃(C:List By),letI f1:=List.length C;((0<n_1/\n_1<=1)/\f1<=1099511627776/\lnL 1099511627776 C)/\True/\(h1/\gd (Nat.beq n n_1) (t/\b/\e/\Value.int .i64 g1=Value.int .i64 (Int.ofNat 1)/\d1=f1/\SubF p (fun(q:Nat)=>AVal.str (atS C q)) d1 []/\Value.int .i64 w=Value.int .i64 (Int.ofNat f1)/\u=u/\n_1<=n/\SubF f g n_1 []/\True))/\(∀(x:Unit),True->d\/(∃(j':y),((0<j'.fst/\j'.fst<=e1)/\(0<j'.2.fst/\j'.2.fst<=j'.fst)/\p1)/\e1-j'.fst<c1/\h1/\gd (Nat.beq n_1 j'.2.fst) (t/\b/\e/\v=Value.int .i64 (Int.ofNat j'.fst)/\j'.2.fst<=n_1/\SubF g (fun(q:Nat)=>AVal.fam a1 (j'.2.snd q)) j'.2.fst []/\True))\/(∃(j':s),((1<j'.fst/\j'.fst<=e1)/\(0<j'.2.fst/\j'.2.fst<=j'.fst)/\p1)/\e1-j'.fst<c1/\h1/\gd (Nat.beq n_1 j'.2.fst) False)\/False)/\(∀(x:Unit),True->d\/(∃(j':y),((0<j'.fst/\j'.fst<=e1)/\(0<j'.2.fst/\j'.2.fst<=j'.fst)/\p1)/\e1-j'.fst<c1/\h1/\gd (Nat.beq n_1 j'.2.fst) False)\/(∃(j':s),((1<j'.fst/\j'.fst<=e1)/\(0<j'.2.fst/\j'.2.fst<=j'.fst)/\p1)/\e1-j'.fst<c1/\h1/\gd (Nat.beq n_1 j'.2.fst) (gd (Nat.beq f1 j'.snd.2.snd) (t/\b/\e/\v=Value.int .i64 (Int.ofNat j'.fst)/\j'.2.fst<=n_1/\SubF g (fun(q:Nat)=>AVal.fam a1 (j'.snd.2.fst q)) j'.2.fst []/\j'.snd.2.snd<=f1/\SubF a1 a1 j'.snd.2.snd []/\True)))\/False)/\∀(x:Unit),True->c);d1<=b1/\lnL b1 x.1/\(UInt8.toNat (List.getD n1 0 (0:UInt8))≠124->x.snd=false)->br (!x.snd) c (br (decide (g1>k1)) (gd (decide (k1<Int.ofNat n)) (gd (Nat.blt 0 n) (br (w !=Int.ofNat ((n,m).snd 0)) c a))) a)))) ((∃(x:Unit),p1/\h1/\True)\/False)
def t_j(T:TD)(L:List By)(i:Nat)(n:Nat)(m:Nat->Nat)(p:Nat):Prop:=
 letI k1:=n+1;letI h1:=barL L;letI g1:=atS L i;letI d1:=Int.ofNat i;letI e1:=noSt=noSt;letI f1:=Nat->Nat;letI b1:=List.length L;letI z:=b1-i;letI y:=List.length g1;letI v:=Int.ofNat b1;letI w:=fun(x:Nat)=>AVal.top;letI u:=Nat×Nat×f1;letI t:=Value.int .i64 (Int.ofNat 2);letI s:=b1=b1;letI r:=Nat×Nat×f1×Nat;letI k:=fun(q:Nat)=>AVal.str (atS L q);letI h:=Value.int .i64 v;letI g:=decide (d1<v);letI e:=h=h;letI d:=∃(j':Unit),True/\b1+1<z/\e1/\False;letI c:=(∃(x:Unit),True/\e1/\Value.bool false=Value.bool false/\True)\/False;letI b:=SubF k k b1 [];br g (gd g (gd (Nat.blt i b1) (e1/\(ASC g1/\y<=1099511627776)/\g1=g1/\∀(x:List By×Bool),letI a1:=List.length x.1;letI a:=br (d1 !=Int.ofNat 1) (gd (Nat.beq n n&&(Nat.ble (k1*24) 140737488355328&&(Nat.ble k1 140737488355328&&true))) (d\/(∃(j':u),((0<j'.fst/\j'.fst<=b1)/\(0<j'.2.fst/\j'.2.fst<=j'.fst)/\h1)/\b1-j'.fst<z/\e1/\gd (Nat.beq k1 j'.2.fst) False)\/(∃(j':r),((1<j'.fst/\j'.fst<=b1)/\(0<j'.2.fst/\j'.2.fst<=j'.fst)/\h1)/\b1-j'.fst<z/\e1/\gd (Nat.beq k1 j'.2.fst) (gd (Nat.beq p j'.snd.2.snd) (s/\b/\e/\Value.int .i64 (IntKind.wrap .i64 (Int.ofNat (i+1)))=Value.int .i64 (Int.ofNat j'.fst)/\j'.2.fst=k1/\SubF (fun(q:Nat)=>AVal.fam w ((m,p).fst q)) (fun(q:Nat)=>AVal.fam w (j'.snd.2.fst q)) n []/\a1=j'.snd.2.fst n/\SubF (fun(q:Nat)=>AVal.str (atS x.1 q)) w a1 []/\j'.snd.2.snd<=p/\SubF w w j'.snd.2.snd []/\True)))\/False)) (∃(n_1:Nat),∃(m:f1),letI f:=fun(q:Nat)=>AVal.fam w (m q);∃(C:List By),letI c1:=List.length C;((0<n_1/\n_1<=1)/\c1<=1099511627776/\lnL 1099511627776 C)/\True/\(e1/\gd (Nat.beq n n_1) False)/\(∀(x:Unit),True->d\/(∃(j':u),((0<j'.fst/\j'.fst<=b1)/\(0<j'.2.fst/\j'.2.fst<=j'.fst)/\h1)/\b1-j'.fst<z/\e1/\gd (Nat.beq n_1 j'.2.fst) (s/\b/\e/\t=Value.int .i64 (Int.ofNat j'.fst)/\j'.2.fst<=n_1/\SubF f (fun(q:Nat)=>AVal.fam w (j'.2.snd q)) j'.2.fst []/\True))\/(∃(j':r),((1<j'.fst/\j'.fst<=b1)/\(0<j'.2.fst/\j'.2.fst<=j'.fst)/\h1)/\b1-j'.fst<z/\e1/\gd (Nat.beq n_1 j'.2.fst) False)\/False)/\(∀(x:Unit),True->d\/(∃(j':u),((0<j'.fst/\j'.fst<=b1)/\(0<j'.2.fst/\j'.2.fst<=j'.fst)/\h1)/\b1-j'.fst<z/\e1/\gd (Nat.beq n_1 j'.2.fst) False)\/(∃(j':r),((1<j'.fst/\j'.fst<=b1)/\(0<j'.2.fst/\j'.2.fst<=j'.fst)/\h1)/\b1-j'.fst<z/\e1/\gd (Nat.beq n_1 j'.2.fst) (gd (Nat.beq c1 j'.snd.2.snd) (s/\b/\e/\t=Value.int .i64 (Int.ofNat j'.fst)/\j'.2.fst<=n_1/\SubF f (fun(q:Nat)=>AVal.fam w (j'.snd.2.fst q)) j'.2.fst []/\j'.snd.2.snd<=c1/\SubF w w j'.snd.2.snd []/\True)))\/False)/\∀(x:Unit),True->c);a1<=y/\lnL y x.1/\(UInt8.toNat (List.getD g1 0 (0:UInt8))≠124->x.snd=false)->br (!x.snd) c (br (decide (d1>Int.ofNat 0)) (gd (decide (Int.ofNat 0<Int.ofNat n)) (gd (Nat.blt 0 n) (br (Int.ofNat a1 !=Int.ofNat ((m,p).fst 0)) c a))) a)))) ((∃(x:Unit),h1/\e1/\True)\/False)
def g8R(T:TD)(a:By):Prop:=
 letI n:=noSt=noSt;letI h:=List.length a;letI g:=True/\True/\True;letI e:=Value.int .i64 (Int.ofNat 0);letI d:=∀(c:UInt8),c∈a->UInt8.toNat c≠124;letI b:=∃(x:Bool),(d->x=false)/\n/\g/\True/\Value.bool false=Value.bool x/\True;n/\Nat.le h 1099511627776/\a=a/\∀(x:List By),letI k:=List.length x;letI f:=Int.ofNat k;0<k/\k<=h+1/\lnI a x->br (decide (f<Int.ofNat 2)) b (∃(L:List By),letI m:=List.length L;lnA L/\True/\(n/\k=m/\SubF (fun(q:Nat)=>AVal.str (atS x q)) (fun(q:Nat)=>AVal.str (atS L q)) k []/\Value.int .i64 f=Value.int .i64 (Int.ofNat m)/\e=e/\True)/\(∀(x:Unit),barL L->∃(x:Bool),(d->x=false)/\n/\g/\True/\Value.bool true=Value.bool x/\True)/\∀(x:Unit),True->b)
set_option maxHeartbeats 2000000
theorem i_R(T:TD):TabOk Tryz.prog (g8U T):=by
 refine⟨fun f s h=>?_,fun f s h=>?_⟩
 ·unfold g8U at h
  simp only at h
  split at h
  ·cases h;exact a_d w_6 (F_7 T).1
  ·cases h;exact a_d x_e (G_l T).1
  ·cases h;exact a_d w_5 (F_1 T).1
  ·cases h
 ·cases h
theorem G_p(T:TD)(L:List By)(n:Nat)(m:Nat->Nat)(C:List By)(hd:(0<n/\n<=1)/\C.length<=1099511627776/\lnL 1099511627776 C):G_m T L n m C:=by
 unfold G_m
 obtain⟨⟨n1,n2⟩,c1,c2⟩:=hd
 have lq:=o_s c2
 have hb:=lq
 have lc:=lq
 have sB:∀us,SubF (fun q=>AVal.str (atS L q)) (fun q=>AVal.str (atS L q)) L.length us:=fun us q _ _=>a_g rfl
 have aA:∀p:Nat,SubA p .top .top:=fun p=>a_N
 have sZ:∀(n:Nat) us,SubF (fun _=>AVal.top) (fun _=>AVal.top) n us:=fun n us q _ _=>aA _
 have sM:∀(m:Nat->Nat) (n:Nat) us,SubF (fun q=>AVal.fam (fun _=>AVal.top) (m q)) (fun q=>AVal.fam (fun _=>AVal.top) (m q)) n us:=fun m n us q _ _=>SubA.fam fun _ _=>aA _
 have sS:∀(m:Nat->Nat) (n c:Nat),SubF (fun q=>AVal.fam (fun _=>AVal.top) (m q)) (fun q=>AVal.fam (fun _=>AVal.top) (mS m n c q)) n []:=fun m n c q hq _=>by
  show SubA _ (AVal.fam _ _) (AVal.fam _ _)
  rw[o_t hq];exact SubA.fam fun _ _=>aA _
 have sC:∀us,SubF (fun q=>AVal.str (atS C q)) (fun q=>AVal.str (atS C q)) C.length us:=fun us q _ _=>a_g rfl
 ·skip
  simp only[a_V,sj1,exists_eq_left',sj6,gt_iff_lt,ge_iff_le,exists_const,Int.ofNat_le,implies_true,Bool.true_eq,Value.bool.injEq,d_p,bne_iff_ne,ne_eq,bne_eq_false_iff_eq,Bool.not_eq_true',Bool.not_eq_false',beq_iff_eq,Int.natCast_inj]
  repeat' (first|done|exact sM _ _ []|exact sS _ _ _|exact lq _|exact sC []|(refine a_k.2 ?_;omega)|exact fun y hy=>Nat.le_trans (x2 y hy) (lq _).2|exact fun _ _ _=>a_N|exact fun _ _ _=>a_g rfl|exact mS_eq.symm|intro _|refine And.intro ?_ ?_|omega|(dsimp only;omega)|(refine⟨1,?_⟩;(repeat' (first|done|exact sM _ _ []|exact sS _ _ _|exact lq _|exact sC []|(refine a_k.2 ?_;omega)|exact fun y hy=>Nat.le_trans (x2 y hy) (lq _).2|exact fun _ _ _=>a_N|exact fun _ _ _=>a_g rfl|exact mS_eq.symm|refine And.intro ?_ ?_|omega|(dsimp only;omega)|(simp;done)));done)|(refine⟨(),?_⟩;(repeat' (first|done|exact sM _ _ []|exact sS _ _ _|exact lq _|exact sC []|(refine a_k.2 ?_;omega)|exact fun y hy=>Nat.le_trans (x2 y hy) (lq _).2|exact fun _ _ _=>a_N|exact fun _ _ _=>a_g rfl|exact mS_eq.symm|refine And.intro ?_ ?_|omega|(dsimp only;omega)|(simp;done)));done)|(simp;done))
theorem G_q(T:TD)(L:List By)(n:Nat)(m:Nat->Nat)(C:List By)(k:Nat)(hd:(0<n/\n<=1)/\C.length<=1099511627776/\lnL 1099511627776 C)(h:0<k/\k<=C.length):G_n T L n m C k:=by
 unfold G_n
 obtain⟨⟨n1,n2⟩,c1,c2⟩:=hd
 have lq:=o_s c2
 have hb:=lq
 have lc:=lq
 have sB:∀us,SubF (fun q=>AVal.str (atS L q)) (fun q=>AVal.str (atS L q)) L.length us:=fun us q _ _=>a_g rfl
 have aA:∀p:Nat,SubA p .top .top:=fun p=>a_N
 have sZ:∀(n:Nat) us,SubF (fun _=>AVal.top) (fun _=>AVal.top) n us:=fun n us q _ _=>aA _
 have sM:∀(m:Nat->Nat) (n:Nat) us,SubF (fun q=>AVal.fam (fun _=>AVal.top) (m q)) (fun q=>AVal.fam (fun _=>AVal.top) (m q)) n us:=fun m n us q _ _=>SubA.fam fun _ _=>aA _
 have sS:∀(m:Nat->Nat) (n c:Nat),SubF (fun q=>AVal.fam (fun _=>AVal.top) (m q)) (fun q=>AVal.fam (fun _=>AVal.top) (mS m n c q)) n []:=fun m n c q hq _=>by
  show SubA _ (AVal.fam _ _) (AVal.fam _ _)
  rw[o_t hq];exact SubA.fam fun _ _=>aA _
 have sC:∀us,SubF (fun q=>AVal.str (atS C q)) (fun q=>AVal.str (atS C q)) C.length us:=fun us q _ _=>a_g rfl
 have w:k<C.length->IntKind.wrap IntKind.i64 (Int.ofNat (k+1))=Int.ofNat (k+1):=fun g=>a_o ab ab
 by_cases g:k<C.length
 ·simp only[w g]
  simp only[a_V,sj1,exists_eq_left',sj6,gt_iff_lt,ge_iff_le,exists_const,Int.ofNat_le,implies_true,Bool.true_eq,Value.bool.injEq,d_p,bne_iff_ne,ne_eq,bne_eq_false_iff_eq,Bool.not_eq_true',Bool.not_eq_false',beq_iff_eq,Int.natCast_inj]
  repeat' (first|done|exact sM _ _ []|exact sS _ _ _|exact lq _|exact sC []|(refine a_k.2 ?_;omega)|exact fun y hy=>Nat.le_trans (x2 y hy) (lq _).2|exact fun _ _ _=>a_N|exact fun _ _ _=>a_g rfl|exact mS_eq.symm|intro _|refine And.intro ?_ ?_|omega|(dsimp only;omega)|(refine⟨k+1,?_⟩;(repeat' (first|done|exact sM _ _ []|exact sS _ _ _|exact lq _|exact sC []|(refine a_k.2 ?_;omega)|exact fun y hy=>Nat.le_trans (x2 y hy) (lq _).2|exact fun _ _ _=>a_N|exact fun _ _ _=>a_g rfl|exact mS_eq.symm|refine And.intro ?_ ?_|omega|(dsimp only;omega)|(simp;done)));done)|(refine⟨(),?_⟩;(repeat' (first|done|exact sM _ _ []|exact sS _ _ _|exact lq _|exact sC []|(refine a_k.2 ?_;omega)|exact fun y hy=>Nat.le_trans (x2 y hy) (lq _).2|exact fun _ _ _=>a_N|exact fun _ _ _=>a_g rfl|exact mS_eq.symm|refine And.intro ?_ ?_|omega|(dsimp only;omega)|(simp;done)));done)|(simp;done))
 ·simp only[a_V,sj1,exists_eq_left',sj6,gt_iff_lt,ge_iff_le,exists_const,Int.ofNat_le,implies_true,Bool.true_eq,Value.bool.injEq,d_p,bne_iff_ne,ne_eq,bne_eq_false_iff_eq,Bool.not_eq_true',Bool.not_eq_false',beq_iff_eq,Int.natCast_inj]
  repeat' (first|done|exact sM _ _ []|exact sS _ _ _|exact lq _|exact sC []|(refine a_k.2 ?_;omega)|exact fun y hy=>Nat.le_trans (x2 y hy) (lq _).2|exact fun _ _ _=>a_N|exact fun _ _ _=>a_g rfl|exact mS_eq.symm|intro _|refine And.intro ?_ ?_|omega|(dsimp only;omega)|(refine⟨k+1,?_⟩;(repeat' (first|done|exact sM _ _ []|exact sS _ _ _|exact lq _|exact sC []|(refine a_k.2 ?_;omega)|exact fun y hy=>Nat.le_trans (x2 y hy) (lq _).2|exact fun _ _ _=>a_N|exact fun _ _ _=>a_g rfl|exact mS_eq.symm|refine And.intro ?_ ?_|omega|(dsimp only;omega)|(simp;done)));done)|(refine⟨(),?_⟩;(repeat' (first|done|exact sM _ _ []|exact sS _ _ _|exact lq _|exact sC []|(refine a_k.2 ?_;omega)|exact fun y hy=>Nat.le_trans (x2 y hy) (lq _).2|exact fun _ _ _=>a_N|exact fun _ _ _=>a_g rfl|exact mS_eq.symm|refine And.intro ?_ ?_|omega|(dsimp only;omega)|(simp;done)));done)|(simp;done))
theorem t_k(T:TD)(L:List By)(n:Nat)(m:Nat->Nat)(C:List By)(hd:(0<n/\n<=1)/\C.length<=1099511627776/\lnL 1099511627776 C):(g8I T L n m C).Body2 (I_L T L n m C) Tryz.prog (sub (a_b Tryz.f8) [0,0,1,1,1,1,1,0,0,1,1,0,0,1,0,1,1,1,1,1]):=by
 refine LoopD.bodyH2 (root:=(a_b Tryz.f8)) (LT:=[]) [0,0,1,1,1,1,1,0,0,1,1,0,0,1,0,1,1,1,1,1] a_l (i_R T) (LTok.nil) 1000 ?_ ?_
 ·exact fun j hj=>Ho.of (G_m T L n m C) aa (G_p T L n m C hd)
 ·exact fun j hj=>Ho.of (G_n T L n m C j) aa (G_q T L n m C j hd hj)
theorem G_r(T:TD)(L:List By)(hd:lnA L):G_o T L:=by
 unfold G_o
 obtain⟨⟨l1,l2⟩,lq⟩:=hd
 have sB:∀us,SubF (fun q=>AVal.str (atS L q)) (fun q=>AVal.str (atS L q)) L.length us:=fun us q _ _=>a_g rfl
 have aA:∀p:Nat,SubA p .top .top:=fun p=>a_N
 have sZ:∀(n:Nat) us,SubF (fun _=>AVal.top) (fun _=>AVal.top) n us:=fun n us q _ _=>aA _
 have sM:∀(m:Nat->Nat) (n:Nat) us,SubF (fun q=>AVal.fam (fun _=>AVal.top) (m q)) (fun q=>AVal.fam (fun _=>AVal.top) (m q)) n us:=fun m n us q _ _=>SubA.fam fun _ _=>aA _
 have sS:∀(m:Nat->Nat) (n c:Nat),SubF (fun q=>AVal.fam (fun _=>AVal.top) (m q)) (fun q=>AVal.fam (fun _=>AVal.top) (mS m n c q)) n []:=fun m n c q hq _=>by
  show SubA _ (AVal.fam _ _) (AVal.fam _ _)
  rw[o_t hq];exact SubA.fam fun _ _=>aA _
 have key:∀x:List By×Bool,(¬((atS L 0).getD 0 0).toNat=124->x.2=false)->x.2=true->barL L:=fun x h e=>by
  unfold barL
  exact Decidable.byContradiction fun n=>Bool.noConfusion ((h n).symm.trans e)
 simp only[a_V,sj1,exists_eq_left',sj6,gt_iff_lt,ge_iff_le,exists_const,Int.ofNat_le,implies_true,Bool.true_eq,Value.bool.injEq,d_p,bne_iff_ne,ne_eq,bne_eq_false_iff_eq,Bool.not_eq_true',Bool.not_eq_false',beq_iff_eq,Int.natCast_inj]
 refine⟨fun _=>⟨ac,ac,lq 0,?_⟩,fun n=>absurd (show 0<L.length by omega) n⟩
 rintro x ⟨h1,h2,h3⟩
 intro e
 have hb:=key x h3 e
 first|(refine⟨(1,1,fun _=>x.1.length),?_⟩;(repeat' (first|done|exact sM _ _ []|exact sS _ _ _|exact(lq _).1|(refine a_k.2 ?_;omega)|exact fun y hy=>Nat.le_trans (x2 y hy) (lq _).2|exact fun _ _ _=>a_N|exact fun _ _ _=>a_g rfl|exact mS_eq.symm|refine And.intro ?_ ?_|omega|(dsimp only;omega)|(simp;done)));done)
theorem x_f(T:TD)(L:List By)(i n:Nat)(m:Nat->Nat)(hd:lnA L)(h:(0<i/\i<=L.length)/\(0<n/\n<=i)/\barL L):t_i T L i n m:=by
 unfold t_i
 obtain⟨⟨l1,l2⟩,lq⟩:=hd
 obtain⟨⟨i1,i2⟩,⟨n1,n2⟩,hb⟩:=h
 have q1:=(lq i).2
 have sB:∀us,SubF (fun q=>AVal.str (atS L q)) (fun q=>AVal.str (atS L q)) L.length us:=fun us q _ _=>a_g rfl
 have aA:∀p:Nat,SubA p .top .top:=fun p=>a_N
 have sZ:∀(n:Nat) us,SubF (fun _=>AVal.top) (fun _=>AVal.top) n us:=fun n us q _ _=>aA _
 have sM:∀(m:Nat->Nat) (n:Nat) us,SubF (fun q=>AVal.fam (fun _=>AVal.top) (m q)) (fun q=>AVal.fam (fun _=>AVal.top) (m q)) n us:=fun m n us q _ _=>SubA.fam fun _ _=>aA _
 have sS:∀(m:Nat->Nat) (n c:Nat),SubF (fun q=>AVal.fam (fun _=>AVal.top) (m q)) (fun q=>AVal.fam (fun _=>AVal.top) (mS m n c q)) n []:=fun m n c q hq _=>by
  show SubA _ (AVal.fam _ _) (AVal.fam _ _)
  rw[o_t hq];exact SubA.fam fun _ _=>aA _
 have w:i<L.length->IntKind.wrap IntKind.i64 (Int.ofNat (i+1))=Int.ofNat (i+1):=fun g=>a_o ab ab
 by_cases g:i<L.length
 ·simp only[w g]
  simp only[a_V,sj1,exists_eq_left',sj6,gt_iff_lt,ge_iff_le,exists_const,Int.ofNat_le,implies_true,Bool.true_eq,Value.bool.injEq,d_p,bne_iff_ne,ne_eq,bne_eq_false_iff_eq,Bool.not_eq_true',Bool.not_eq_false',beq_iff_eq,Int.natCast_inj]
  repeat' (first|done|exact sM _ _ []|exact sS _ _ _|exact(lq _).1|(refine a_k.2 ?_;omega)|exact fun y hy=>Nat.le_trans (x2 y hy) (lq _).2|exact fun _ _ _=>a_N|exact fun _ _ _=>a_g rfl|exact mS_eq.symm|(refine fun(x:List By×Bool) ⟨x1,x2,x3⟩=>?_)|(refine⟨n,m,x.1,⟨⟨?_,?_⟩,?_,?_⟩,?_,fun _ _=>⟨(2,n,m),?_⟩,fun _ _=>⟨(2,n,m,x.1.length),?_⟩⟩)|intro _|refine And.intro ?_ ?_|omega|(dsimp only;omega)|(refine⟨(i+1,n+1,mS m n x.1.length),?_⟩;(repeat' (first|done|exact sM _ _ []|exact sS _ _ _|exact(lq _).1|(refine a_k.2 ?_;omega)|exact fun y hy=>Nat.le_trans (x2 y hy) (lq _).2|exact fun _ _ _=>a_N|exact fun _ _ _=>a_g rfl|exact mS_eq.symm|refine And.intro ?_ ?_|omega|(dsimp only;omega)|(simp;done)));done)|(refine⟨(),?_⟩;(repeat' (first|done|exact sM _ _ []|exact sS _ _ _|exact(lq _).1|(refine a_k.2 ?_;omega)|exact fun y hy=>Nat.le_trans (x2 y hy) (lq _).2|exact fun _ _ _=>a_N|exact fun _ _ _=>a_g rfl|exact mS_eq.symm|refine And.intro ?_ ?_|omega|(dsimp only;omega)|(simp;done)));done)|(simp;done))
 ·simp only[a_V,sj1,exists_eq_left',sj6,gt_iff_lt,ge_iff_le,exists_const,Int.ofNat_le,implies_true,Bool.true_eq,Value.bool.injEq,d_p,bne_iff_ne,ne_eq,bne_eq_false_iff_eq,Bool.not_eq_true',Bool.not_eq_false',beq_iff_eq,Int.natCast_inj]
  repeat' (first|done|exact sM _ _ []|exact sS _ _ _|exact(lq _).1|(refine a_k.2 ?_;omega)|exact fun y hy=>Nat.le_trans (x2 y hy) (lq _).2|exact fun _ _ _=>a_N|exact fun _ _ _=>a_g rfl|exact mS_eq.symm|(refine fun(x:List By×Bool) ⟨x1,x2,x3⟩=>?_)|(refine⟨n,m,x.1,⟨⟨?_,?_⟩,?_,?_⟩,?_,fun _ _=>⟨(2,n,m),?_⟩,fun _ _=>⟨(2,n,m,x.1.length),?_⟩⟩)|intro _|refine And.intro ?_ ?_|omega|(dsimp only;omega)|(refine⟨(i+1,n+1,mS m n x.1.length),?_⟩;(repeat' (first|done|exact sM _ _ []|exact sS _ _ _|exact(lq _).1|(refine a_k.2 ?_;omega)|exact fun y hy=>Nat.le_trans (x2 y hy) (lq _).2|exact fun _ _ _=>a_N|exact fun _ _ _=>a_g rfl|exact mS_eq.symm|refine And.intro ?_ ?_|omega|(dsimp only;omega)|(simp;done)));done)|(refine⟨(),?_⟩;(repeat' (first|done|exact sM _ _ []|exact sS _ _ _|exact(lq _).1|(refine a_k.2 ?_;omega)|exact fun y hy=>Nat.le_trans (x2 y hy) (lq _).2|exact fun _ _ _=>a_N|exact fun _ _ _=>a_g rfl|exact mS_eq.symm|refine And.intro ?_ ?_|omega|(dsimp only;omega)|(simp;done)));done)|(simp;done))
theorem x_g(T:TD)(L:List By)(i n:Nat)(m:Nat->Nat)(p:Nat)(hd:lnA L)(h:(1<i/\i<=L.length)/\(0<n/\n<=i)/\barL L):t_j T L i n m p:=by
 unfold t_j
 obtain⟨⟨l1,l2⟩,lq⟩:=hd
 obtain⟨⟨i1,i2⟩,⟨n1,n2⟩,hb⟩:=h
 have q1:=(lq i).2
 have sB:∀us,SubF (fun q=>AVal.str (atS L q)) (fun q=>AVal.str (atS L q)) L.length us:=fun us q _ _=>a_g rfl
 have aA:∀p:Nat,SubA p .top .top:=fun p=>a_N
 have sZ:∀(n:Nat) us,SubF (fun _=>AVal.top) (fun _=>AVal.top) n us:=fun n us q _ _=>aA _
 have sM:∀(m:Nat->Nat) (n:Nat) us,SubF (fun q=>AVal.fam (fun _=>AVal.top) (m q)) (fun q=>AVal.fam (fun _=>AVal.top) (m q)) n us:=fun m n us q _ _=>SubA.fam fun _ _=>aA _
 have sS:∀(m:Nat->Nat) (n c:Nat),SubF (fun q=>AVal.fam (fun _=>AVal.top) (m q)) (fun q=>AVal.fam (fun _=>AVal.top) (mS m n c q)) n []:=fun m n c q hq _=>by
  show SubA _ (AVal.fam _ _) (AVal.fam _ _)
  rw[o_t hq];exact SubA.fam fun _ _=>aA _
 have w:i<L.length->IntKind.wrap IntKind.i64 (Int.ofNat (i+1))=Int.ofNat (i+1):=fun g=>a_o ab ab
 by_cases g:i<L.length
 ·simp only[w g]
  simp only[a_V,sj1,exists_eq_left',sj6,gt_iff_lt,ge_iff_le,exists_const,Int.ofNat_le,implies_true,Bool.true_eq,Value.bool.injEq,d_p,bne_iff_ne,ne_eq,bne_eq_false_iff_eq,Bool.not_eq_true',Bool.not_eq_false',beq_iff_eq,Int.natCast_inj]
  repeat' (first|done|exact sM _ _ []|exact sS _ _ _|exact(lq _).1|(refine a_k.2 ?_;omega)|exact fun y hy=>Nat.le_trans (x2 y hy) (lq _).2|exact fun _ _ _=>a_N|exact fun _ _ _=>a_g rfl|exact mS_eq.symm|(refine fun(x:List By×Bool) ⟨x1,x2,x3⟩=>?_)|intro _|refine And.intro ?_ ?_|omega|(dsimp only;omega)|(refine⟨(i+1,n+1,mS m n x.1.length,p),?_⟩;(repeat' (first|done|exact sM _ _ []|exact sS _ _ _|exact(lq _).1|(refine a_k.2 ?_;omega)|exact fun y hy=>Nat.le_trans (x2 y hy) (lq _).2|exact fun _ _ _=>a_N|exact fun _ _ _=>a_g rfl|exact mS_eq.symm|refine And.intro ?_ ?_|omega|(dsimp only;omega)|(simp;done)));done)|(refine⟨(),?_⟩;(repeat' (first|done|exact sM _ _ []|exact sS _ _ _|exact(lq _).1|(refine a_k.2 ?_;omega)|exact fun y hy=>Nat.le_trans (x2 y hy) (lq _).2|exact fun _ _ _=>a_N|exact fun _ _ _=>a_g rfl|exact mS_eq.symm|refine And.intro ?_ ?_|omega|(dsimp only;omega)|(simp;done)));done)|(simp;done))
 ·simp only[a_V,sj1,exists_eq_left',sj6,gt_iff_lt,ge_iff_le,exists_const,Int.ofNat_le,implies_true,Bool.true_eq,Value.bool.injEq,d_p,bne_iff_ne,ne_eq,bne_eq_false_iff_eq,Bool.not_eq_true',Bool.not_eq_false',beq_iff_eq,Int.natCast_inj]
  repeat' (first|done|exact sM _ _ []|exact sS _ _ _|exact(lq _).1|(refine a_k.2 ?_;omega)|exact fun y hy=>Nat.le_trans (x2 y hy) (lq _).2|exact fun _ _ _=>a_N|exact fun _ _ _=>a_g rfl|exact mS_eq.symm|(refine fun(x:List By×Bool) ⟨x1,x2,x3⟩=>?_)|intro _|refine And.intro ?_ ?_|omega|(dsimp only;omega)|(refine⟨(i+1,n+1,mS m n x.1.length,p),?_⟩;(repeat' (first|done|exact sM _ _ []|exact sS _ _ _|exact(lq _).1|(refine a_k.2 ?_;omega)|exact fun y hy=>Nat.le_trans (x2 y hy) (lq _).2|exact fun _ _ _=>a_N|exact fun _ _ _=>a_g rfl|exact mS_eq.symm|refine And.intro ?_ ?_|omega|(dsimp only;omega)|(simp;done)));done)|(refine⟨(),?_⟩;(repeat' (first|done|exact sM _ _ []|exact sS _ _ _|exact(lq _).1|(refine a_k.2 ?_;omega)|exact fun y hy=>Nat.le_trans (x2 y hy) (lq _).2|exact fun _ _ _=>a_N|exact fun _ _ _=>a_g rfl|exact mS_eq.symm|refine And.intro ?_ ?_|omega|(dsimp only;omega)|(simp;done)));done)|(simp;done))
theorem G_s(T:TD)(L:List By)(hd:lnA L):(g8D T L).Bodyn (I_K T L) Tryz.prog (sub (a_b Tryz.f8) [0,0,1,0,1,1,1,1,1]):=by
 refine List.forall_mem_cons.2 ⟨b_G (root:=(a_b Tryz.f8)) (LT:=[([0,1,1,1,1,1,0,0,1,1,0,0,1,0,1,1,1,1,1],(fun fr H K=>∃n m C,((0<n/\n<=1)/\C.length<=1099511627776/\lnL 1099511627776 C)/\(g8I T L n m C).at () fr H K))]) [0,0,1,0,1,1,1,1,1] a_l (i_R T) (LTok.cons (fun fr H K (hk:∃n m C,((0<n/\n<=1)/\C.length<=1099511627776/\lnL 1099511627776 C)/\(g8I T L n m C).at () fr H K)=>hk.elim fun n hk=>hk.elim fun m hk=>hk.elim fun C hk=>LoopD.ok2 (t_k T L n m C hk.1) hk.2) (LTok.nil)) 1000 ?_,List.forall_mem_cons.2 ⟨b_G (root:=(a_b Tryz.f8)) (LT:=[([0,1,1,1,1,1,0,0,1,1,0,0,1,0,1,1,1,1,1],(fun fr H K=>∃n m C,((0<n/\n<=1)/\C.length<=1099511627776/\lnL 1099511627776 C)/\(g8I T L n m C).at () fr H K))]) [0,0,1,0,1,1,1,1,1] a_l (i_R T) (LTok.cons (fun fr H K (hk:∃n m C,((0<n/\n<=1)/\C.length<=1099511627776/\lnL 1099511627776 C)/\(g8I T L n m C).at () fr H K)=>hk.elim fun n hk=>hk.elim fun m hk=>hk.elim fun C hk=>LoopD.ok2 (t_k T L n m C hk.1) hk.2) (LTok.nil)) 1000 ?_,List.forall_mem_cons.2 ⟨b_G (root:=(a_b Tryz.f8)) (LT:=[([0,1,1,1,1,1,0,0,1,1,0,0,1,0,1,1,1,1,1],(fun fr H K=>∃n m C,((0<n/\n<=1)/\C.length<=1099511627776/\lnL 1099511627776 C)/\(g8I T L n m C).at () fr H K))]) [0,0,1,0,1,1,1,1,1] a_l (i_R T) (LTok.cons (fun fr H K (hk:∃n m C,((0<n/\n<=1)/\C.length<=1099511627776/\lnL 1099511627776 C)/\(g8I T L n m C).at () fr H K)=>hk.elim fun n hk=>hk.elim fun m hk=>hk.elim fun C hk=>LoopD.ok2 (t_k T L n m C hk.1) hk.2) (LTok.nil)) 1000 ?_,fun _ h=>absurd h List.not_mem_nil⟩⟩⟩
 ·exact fun j hj=>Ho.of (G_o T L) aa (G_r T L hd)
 ·exact fun j hj=>Ho.of (t_i T L j.1 j.2.1 j.2.2) aa (x_f T L j.1 j.2.1 j.2.2 hd hj)
 ·exact fun j hj=>Ho.of (t_j T L j.1 j.2.1 j.2.2.1 j.2.2.2) aa (x_g T L j.1 j.2.1 j.2.2.1 j.2.2.2 hd hj)
theorem I_8(T:TD)(a:By)(hd:ASC a/\a.length<=1099511627776):g8R T a:=by
 unfold g8R
 obtain⟨ha,hl⟩:=hd
 simp only[a_V,sj1,exists_eq_left',sj6,gt_iff_lt,ge_iff_le,exists_const,Int.ofNat_le,implies_true,Bool.true_eq,Value.bool.injEq,d_p,bne_iff_ne,ne_eq,bne_eq_false_iff_eq,Bool.not_eq_true',Bool.not_eq_false',beq_iff_eq,Int.natCast_inj]
 refine⟨hl,?_⟩
 rintro x ⟨h1,h2,h3⟩
 refine⟨fun _=>⟨false,fun _=>rfl,rfl⟩,fun g=>⟨x,w_J h3 ha hl ac h2,⟨rfl,fun q _ _=>a_g rfl,rfl⟩,fun _ hb=>⟨true,fun n=>?_,rfl⟩,fun _ _=>⟨false,fun _=>rfl,rfl⟩⟩⟩
 obtain⟨c,hc,e⟩:=s_8 h3 hb
 exact absurd e (n c hc)
theorem x_h:a_t Tryz.prog 8:=⟨Tryz.f8,aa,rfl,aa⟩
theorem G_t(T:TD):(g8S T).Body Tryz.prog 8/\(g8S T).BodyD Tryz.prog 8:=by
 refine a_c (fn:=Tryz.f8) (b:=a_b Tryz.f8) (LT:=fun a=>[([0,1,0,1,1,1,1,1],(fun fr H K=>∃L,lnA L/\(g8D T L).at () fr H K))]) a_l (i_R T) 1000 (fun a ha=>LTok.cons (fun fr H K (hk:∃L,lnA L/\(g8D T L).at () fr H K)=>hk.elim fun L hk=>LoopD.okn (G_s T L hk.1) hk.2) (LTok.nil)) aa aa ?_
 exact fun a ha=>Ho.of (g8R T a) aa (I_8 T a ha)
end Tk

