/- Lemmas of this claim; the last text says what is proved. -/
import Derived.Test.YtblencgndjjleaaGreatDoorK41
set_option linter.all false
set_option maxRecDepth 1000000
namespace Tk
open Go Go.Sx Go.Proofs
open Q
variable [Syms]
def F_2(T:TD)(l:By)(k:Nat):Prop:=
 letI u:=l=l;letI t:=noSt=noSt;letI s:=List.length l;letI q:=0<=0/\True;letI p:=s-k;letI h:=Nat×Nat×List By;letI g:=Int.ofNat s;letI f:=Value.int .i64 (Int.ofNat 0);letI e:=Value.int .i64 g;letI d:=decide (Int.ofNat k<g);letI c:=Value.int .i64 (IntKind.wrap .i64 (Int.ofNat (k+1)));letI b:=f=f;letI a:=e=e;br d (gd d (br (Int.ofNat (UInt8.toNat (List.getD l k (0:UInt8)))==Int.ofNat 10) (gd (decide (Int.ofNat k<=g)) ((∃(j':Nat),Nat.le j' s/\s-j'<p/\t/\False)\/∃(j':h),letI m:=List.length j'.snd.2;(j'.fst<=s/\j'.2.fst<=j'.fst/\0<m/\m<=j'.fst/\lnI l j'.snd.2)/\s-j'.fst<p/\t/\gd (Nat.beq 1 m) (u/\c=Value.int .i64 (Int.ofNat j'.2.fst)/\a/\c=Value.int .i64 (Int.ofNat j'.fst)/\m=1/\List.drop 0 (List.take k l)=atS j'.snd.2 0/\True))) ((∃(j':Nat),Nat.le j' s/\s-j'<p/\t/\0=0/\u/\b/\a/\c=Value.int .i64 (Int.ofNat j')/\True)\/∃(j':h),letI n:=List.length j'.snd.2;(j'.fst<=s/\j'.2.fst<=j'.fst/\0<n/\n<=j'.fst/\lnI l j'.snd.2)/\s-j'.fst<p/\t/\gd (Nat.beq 0 n) (u/\f=Value.int .i64 (Int.ofNat j'.2.fst)/\a/\c=Value.int .i64 (Int.ofNat j'.fst)/\n=0/\q)))) ((∃(x:Unit),True/\t/\0=0/\u/\b/\True)\/(∃(x:Nat×List By),letI r:=List.length x.2;(x.fst<=s/\0<r/\r<=s/\lnI l x.2)/\t/\gd (Nat.beq 0 r) (u/\f=Value.int .i64 (Int.ofNat x.fst)/\r=0/\q))\/False)
def F_3(T:TD)(l:By)(k:Nat)(f:Nat)(L:List By):Prop:=
 letI y:=Int.ofNat k;letI z:=noSt=noSt;letI v:=List.length l;letI w:=List.length L;letI s:=w+1;letI t:=v-k;letI n:=Nat×Nat×List By;letI m:=Int.ofNat v;letI h:=Value.int .i64 (Int.ofNat f);letI g:=fun(q:Nat)=>AVal.str (atS L q);letI e:=Value.int .i64 m;letI d:=decide (y<m);letI c:=z/\gd (Nat.beq w 0) False;letI b:=Value.int .i64 (IntKind.wrap .i64 (Int.ofNat (k+1)));letI a:=e=e;br d (gd d (br (Int.ofNat (UInt8.toNat (List.getD l k (0:UInt8)))==Int.ofNat 10) (gd (decide (Int.ofNat f<=y)&&decide (y<=m)) (gd (Nat.beq w (w+0)&&(Nat.ble (0+w+1+w+1+w+1+w+1+w+1+w+1+w+1+w+1+w+1+w+1+w+1+w+1+w+1+w+1+w+1+w+1) 140737488355328&&(Nat.ble s 140737488355328&&true))) ((∃(j':Nat),Nat.le j' v/\v-j'<t/\z/\False)\/∃(j':n),letI p:=List.length j'.snd.2;(j'.fst<=v/\j'.2.fst<=j'.fst/\0<p/\p<=j'.fst/\lnI l j'.snd.2)/\v-j'.fst<t/\z/\gd (Nat.beq s p) (l=l/\b=Value.int .i64 (Int.ofNat j'.2.fst)/\a/\b=Value.int .i64 (Int.ofNat j'.fst)/\p=s/\SubF g (fun(q:Nat)=>AVal.str (atS j'.snd.2 q)) w []/\List.drop f (List.take k l)=atS j'.snd.2 w/\True)))) ((∃(j':Nat),Nat.le j' v/\v-j'<t/\c)\/∃(j':n),letI r:=List.length j'.snd.2;(j'.fst<=v/\j'.2.fst<=j'.fst/\0<r/\r<=j'.fst/\lnI l j'.snd.2)/\v-j'.fst<t/\z/\gd (Nat.beq w r) (l=l/\h=Value.int .i64 (Int.ofNat j'.2.fst)/\a/\b=Value.int .i64 (Int.ofNat j'.fst)/\r<=w/\SubF g (fun(q:Nat)=>AVal.str (atS j'.snd.2 q)) r []/\True)))) ((∃(x:Unit),True/\c)\/(∃(x:Nat×List By),letI u:=List.length x.2;(x.fst<=v/\0<u/\u<=v/\lnI l x.2)/\z/\gd (Nat.beq w u) (l=l/\h=Value.int .i64 (Int.ofNat x.fst)/\u<=w/\SubF g (fun(q:Nat)=>AVal.str (atS x.2 q)) u []/\True))\/False)
def g6R(T:TD)(l:By):Prop:=
 letI s:=noSt=noSt;letI p:=List.length l;letI k:=p+1;letI e:=Int.ofNat p;letI d:=Value.int .i64 (Int.ofNat 0);letI c:=Value.int .i64 e;letI b:=d=d;letI a:=decide (e<=e);Nat.le 0 p/\(s/\0=0/\l=l/\b/\c=c/\b/\True)/\(∀(x:Unit),True->gd a (∃(x:List By),letI r:=List.length x;(0<r/\r<=k/\lnI l x)/\s/\(∀(i:Nat),letI h:=AVal.str (atS x i);i<r->SubA 0 h h)/\True/\1=r/\1=1/\l=atS x 0/\True))/\∀(x:Nat×List By),letI m:=List.length x.2;letI g:=m+1;x.fst<=p/\0<m/\m<=p/\lnI l x.2->gd (decide (Int.ofNat x.fst<=e)&&a) (gd (Nat.beq m (m+0)&&(Nat.ble (0+m+1+m+1+m+1+m+1+m+1+m+1+m+1+m+1+m+1+m+1+m+1+m+1+m+1+m+1+m+1+m+1) 140737488355328&&(Nat.ble g 140737488355328&&true))) (∃(x_1:List By),letI n:=List.length x_1;(0<n/\n<=k/\lnI l x_1)/\s/\(∀(i:Nat),letI f:=AVal.str (atS x_1 i);i<n->SubA 0 f f)/\True/\g=n/\g=g/\SubF (fun(q:Nat)=>AVal.str (atS x.2 q)) (fun(q:Nat)=>AVal.str (atS x_1 q)) m []/\List.drop x.fst l=atS x_1 m/\True))
theorem F_4(T:TD)(l:By)(k:Nat)(hd:l.length<=1099511627776)(h:k<=l.length):F_2 T l k:=by
 unfold F_2
 have w:k<l.length->IntKind.wrap IntKind.i64 (Int.ofNat (k+1))=Int.ofNat (k+1):=fun g=>a_o ab ab
 have ct:∀a n:Nat,(List.drop a (List.take n l)).length<=l.length:=fun a n=>af
 have cm:∀a n:Nat,∀b∈List.drop a (List.take n l),b∈l:=fun a n b hb=>List.mem_of_mem_take (List.mem_of_mem_drop hb)
 by_cases g:k<l.length
 ·simp only[w g]
  simp only[a_V,sj1,exists_eq_left',sj6,gt_iff_lt,ge_iff_le,exists_const,Int.ofNat_le,implies_true,Bool.true_eq,Value.bool.injEq,d_p]
  exact⟨fun _=>⟨g,fun _=>⟨h,(k+1,k+1,[List.drop 0 (List.take k l)]),⟨g,Nat.le_refl _,an,an,j_i o_r (cm 0 k) (ct 0 k)⟩,by dsimp only;omega,rfl,rfl,rfl,rfl,rfl⟩,fun _=>.inl ⟨k+1,g,ac,rfl⟩⟩,fun n=>absurd g n⟩
 ·simp only[a_V,sj1,exists_eq_left',sj6,gt_iff_lt,ge_iff_le,exists_const,Int.ofNat_le,implies_true,Bool.true_eq,Value.bool.injEq,d_p]
  exact⟨fun n=>absurd n g,fun _=>.inl trivial⟩
theorem F_5(T:TD)(l:By)(k f:Nat)(L:List By)(hd:l.length<=1099511627776)(h:k<=l.length/\f<=k/\0<L.length/\L.length<=k/\lnI l L):F_3 T l k f L:=by
 unfold F_3
 obtain⟨h1,h2,h3,h4,h5⟩:=h
 have sA:∀x:By,SubF (fun q=>AVal.str (atS L q)) (fun q=>AVal.str (atS (L++[x]) q)) L.length []:=fun x q hq _=>by
  show SubA _ (AVal.str _) (AVal.str _)
  rw[g_I hq];exact a_g rfl
 have sB:∀us,SubF (fun q=>AVal.str (atS L q)) (fun q=>AVal.str (atS L q)) L.length us:=fun us q _ _=>a_g rfl
 have w:k<l.length->IntKind.wrap IntKind.i64 (Int.ofNat (k+1))=Int.ofNat (k+1):=fun g=>a_o ab ab
 have ct:∀a n:Nat,(List.drop a (List.take n l)).length<=l.length:=fun a n=>af
 have cm:∀a n:Nat,∀b∈List.drop a (List.take n l),b∈l:=fun a n b hb=>List.mem_of_mem_take (List.mem_of_mem_drop hb)
 by_cases g:k<l.length
 ·simp only[w g]
  simp only[a_V,sj1,exists_eq_left',sj6,gt_iff_lt,ge_iff_le,exists_const,Int.ofNat_le,implies_true,Bool.true_eq,Value.bool.injEq,d_p]
  refine⟨fun _=>⟨g,fun _=>⟨⟨h2,h1⟩,?_,(k+1,k+1,L++[List.drop f (List.take k l)]),?_⟩,fun _=>⟨(k+1,f,L),?_⟩⟩,fun n=>absurd g n⟩
  all_goals repeat' (first|done|omega|exact trivial|exact rfl|exact sB []|exact sA _|exact g|exact h3|exact h5|exact Nat.beq_refl _|exact a_k.2 (Nat.add_zero _).symm|exact a_k.2 an|exact j_i h5 (cm _ _) (ct _ _)|exact j_i h5 h_N an|exact sB|exact sA _|exact atS_eq.symm|exact Nat.le_refl _|(simp;done)|(dsimp only;omega)|(simp;omega)|refine And.intro ?_ ?_)
 ·simp only[a_V,sj1,exists_eq_left',sj6,gt_iff_lt,ge_iff_le,exists_const,Int.ofNat_le,implies_true,Bool.true_eq,Value.bool.injEq,d_p]
  refine⟨fun n=>absurd n g,fun _=>⟨(f,L),?_⟩⟩
  all_goals repeat' (first|done|omega|exact trivial|exact rfl|exact sB []|exact sA _|exact g|exact h3|exact h5|exact Nat.beq_refl _|exact a_k.2 (Nat.add_zero _).symm|exact a_k.2 an|exact j_i h5 (cm _ _) (ct _ _)|exact j_i h5 h_N an|exact sB|exact sA _|exact atS_eq.symm|exact Nat.le_refl _|(simp;done)|(dsimp only;omega)|(simp;omega)|refine And.intro ?_ ?_)
theorem F_6(T:TD)(l:By)(hd:l.length<=1099511627776):(g6D T l).Body2 (I_D T l) Tryz.prog (sub (a_b Tryz.f20) [0,0,1,0,1,1,1]):=by
 refine LoopD.bodyH2 (root:=(a_b Tryz.f20)) (LT:=[]) [0,0,1,0,1,1,1] a_l (a_y) (LTok.nil) 1000 ?_ ?_
 ·exact fun j hj=>Ho.of (F_2 T l j) aa (F_4 T l j hd hj)
 ·exact fun j hj=>Ho.of (F_3 T l j.1 j.2.1 j.2.2) aa (F_5 T l j.1 j.2.1 j.2.2 hd hj)
theorem I_2(T:TD)(l:By)(hd:l.length<=1099511627776):g6R T l:=by
 unfold g6R
 simp only[a_V,sj1,exists_eq_left',sj6,gt_iff_lt,ge_iff_le,exists_const,Int.ofNat_le,implies_true,Bool.true_eq,Value.bool.injEq,d_p]
 refine⟨Nat.zero_le _,fun _ _=>⟨Nat.le_refl _,[l],?_⟩,?_⟩
 ·repeat' (first|done|omega|exact trivial|exact rfl|exact fun _ _=>a_g rfl|exact j_i o_r (fun _ h=>h) (Nat.le_refl _)|(simp;done)|refine And.intro ?_ ?_)
 ·rintro⟨f,L⟩ ⟨h1,h3,h4,h5⟩
  dsimp only at h1 h3 h4 h5⊢
  have sA:∀x:By,SubF (fun q=>AVal.str (atS L q)) (fun q=>AVal.str (atS (L++[x]) q)) L.length []:=fun x q hq _=>by
   show SubA _ (AVal.str _) (AVal.str _)
   rw[g_I hq];exact a_g rfl
  have sB:∀us,SubF (fun q=>AVal.str (atS L q)) (fun q=>AVal.str (atS L q)) L.length us:=fun us q _ _=>a_g rfl
  have g:=h1
  refine⟨⟨h1,Nat.le_refl _⟩,?_,L++[List.drop f l],?_⟩
  all_goals repeat' (first|done|omega|exact trivial|exact rfl|exact fun _ _=>a_g rfl|exact sB []|exact sA _|exact g|exact h3|exact h5|exact Nat.beq_refl _|exact a_k.2 (Nat.add_zero _).symm|exact a_k.2 an|exact j_i h5 h_N an|exact sB|exact sA _|exact atS_eq.symm|exact Nat.le_refl _|(simp;done)|(dsimp only;omega)|(simp;omega)|refine And.intro ?_ ?_)
theorem w_6:a_t Tryz.prog 20:=⟨Tryz.f20,aa,rfl,aa⟩
theorem F_7(T:TD):(g6S T).Body Tryz.prog 20/\(g6S T).BodyD Tryz.prog 20:=by
 refine a_c (fn:=Tryz.f20) (b:=a_b Tryz.f20) (LT:=fun a=>[([0,1,0,1,1,1],(g6D T a).at (0:Nat))]) a_l (a_y) 1000 (fun a ha=>LTok.cons (fun fr H K hk=>LoopD.ok2 (F_6 T a ha) hk) (LTok.nil)) aa aa ?_
 exact fun a ha=>Ho.of (g6R T a) aa (I_2 T a ha)
def g1R(T:TD)(c:Nat):Prop:=
 letI b:=Int.ofNat c;letI a:=∃(x:Bool),True/\noSt=noSt/\True/\True/\Value.bool true=Value.bool x/\True;br (decide (Int.ofNat (c % 4294967296)<=Int.ofNat 255)) (br (b==Int.ofNat 9) a (br (b==Int.ofNat 10) a (br (b==Int.ofNat 11) a (br (b==Int.ofNat 12) a (br (b==Int.ofNat 13) a (br (b==Int.ofNat 32) a (br (b==Int.ofNat 133) a (br (b==Int.ofNat 160) a (∃(x:Bool),True/\noSt=noSt/\True/\True/\Value.bool false=Value.bool x/\True))))))))) (gd (Syms.gn 0 0) False)
theorem I_3(T:TD)(c:Nat)(hd:c<=127):g1R T c:=by
 unfold g1R
 simp only[a_V,sj1,exists_eq_left',sj6,gt_iff_lt,ge_iff_le,exists_const,Int.ofNat_le,implies_true,Bool.true_eq,Value.bool.injEq]
 repeat' (first|done|exact⟨_,rfl⟩|(exfalso;omega)|intro _|refine And.intro ?_ ?_)
theorem w_7:a_t Tryz.prog 71:=⟨Tryz.f71,aa,rfl,aa⟩
theorem F_8(T:TD):(g1S T).Body Tryz.prog 71/\(g1S T).BodyD Tryz.prog 71:=by
 refine a_c (fn:=Tryz.f71) (b:=a_b Tryz.f71) (LT:=fun a=>[]) a_l (a_y) 1000 (fun a ha=>LTok.nil) aa aa ?_
 exact fun a ha=>Ho.of (g1R T a) aa (I_3 T a ha)
def F_9(T:TD)(l:By)(a:Nat)(j:Nat):Prop:=
 letI e:=noSt=noSt;letI d:=List.drop a l;letI c:=Value.int .i64 (Int.ofNat a);letI b:=c=c;br (Nat.blt j (List.length d)) (br (decide (Int.ofNat j>Int.ofNat 0)) (∃(x:Unit),True/\e/\Value.int .i64 (Int.ofNat j)=Value.int .i64 (Int.ofNat 1)/\True) (∃(j':Nat),Nat.le j' 1/\2-j'<2-j/\e/\l=l/\b/\d=d/\j+(Utf8.decode (ByteArray.mk (Array.mk d)) j).snd=j'/\True)) (∃(x:Unit),List.length l=a+1/\e/\l=l/\b/\True)
def g2R(T:TD)(l:By)(a:Nat):Prop:=
 letI f:=Int.ofNat a;letI g:=noSt=noSt;letI e:=List.length l;letI d:=Int.ofNat e;letI b:=Value.int .i64 f;letI c:=Value.int .i64 (Int.ofNat 1);gd (decide (f<=d)&&decide (d<=d)) (Nat.le 0 1/\(g/\l=l/\b=b/\List.drop a l=List.drop a l/\0=0/\True)/\(∀(x:Unit),e=a+1->∃(x:Unit),True/\g/\True/\True/\Value.int .i64 (IntKind.wrap .i64 (d-f))=c/\True)/\∀(x:Unit),True->∃(x:Unit),True/\g/\True/\True/\c=c/\True)
theorem G_a(T:TD)(l:By)(a:Nat)(j:Nat)(hd:ASC l/\a<l.length/\l.length<=1099511627776)(h:j<=1):F_9 T l a j:=by
 unfold F_9
 obtain⟨h1,h2,h3⟩:=hd
 have hl:(List.drop a l).length=l.length-a:=List.length_drop
 have e:j<l.length-a->(Utf8.decode (ByteArray.mk (Array.mk (List.drop a l))) j).snd=1:=fun g=>congrArg Prod.snd (r_h (p_K h1 a) (p:=j) ac)
 simp only[a_V,sj1,exists_eq_left',sj6,gt_iff_lt,ge_iff_le,exists_const,Int.ofNat_le,implies_true,Bool.true_eq,Value.bool.injEq,d_p,hl]
 repeat' (first|done|omega|exact trivial|exact rfl|(rw[e ac];omega)|refine⟨1,?_⟩|intro _|refine And.intro ?_ ?_)
theorem G_b(T:TD)(l:By)(a:Nat)(hd:ASC l/\a<l.length/\l.length<=1099511627776):(g2D T l a).Body Tryz.prog (sub (a_b Tryz.f72) [0,0,1,0,1]):=by
 refine LoopD.bodyH (root:=(a_b Tryz.f72)) [0,0,1,0,1] a_l (a_y) (LTok.nil) 1000 ?_
 exact fun j hj=>Ho.of (F_9 T l a j) aa (G_a T l a j hd hj)
theorem I_4(T:TD)(l:By)(a:Nat)(hd:ASC l/\a<l.length/\l.length<=1099511627776):g2R T l a:=by
 unfold g2R
 obtain⟨h1,h2,h3⟩:=hd
 have w:IntKind.wrap IntKind.i64 (Int.ofNat l.length-Int.ofNat a)=Int.ofNat (l.length-a):=h_h ac ac
 simp only[w]
 simp only[a_V,sj1,exists_eq_left',sj6,gt_iff_lt,ge_iff_le,exists_const,Int.ofNat_le,implies_true,Bool.true_eq,Value.bool.injEq,d_p]
 repeat' (first|done|omega|exact trivial|exact rfl|exact⟨(),trivial⟩|intro _|refine And.intro ?_ ?_)
theorem w_8:a_t Tryz.prog 72:=⟨Tryz.f72,aa,rfl,aa⟩
theorem G_c(T:TD):(g2S T).Body Tryz.prog 72/\(g2S T).BodyD Tryz.prog 72:=by
 refine a_c (fn:=Tryz.f72) (b:=a_b Tryz.f72) (LT:=fun a=>[([0,1,0,1],(g2D T a.1 a.2).at (0:Nat))]) a_l (a_y) 1000 (fun a ha=>LTok.cons (fun fr H K hk=>LoopD.ok (G_b T a.1 a.2 ha) hk) (LTok.nil)) aa aa ?_
 exact fun a ha=>Ho.of (g2R T a.1 a.2) aa (I_4 T a.1 a.2 ha)
def G_d(T:TD)(l:By)(k:Nat)(f:Int)(t:Nat):Prop:=
 letI c1:=l=l;letI a1:=noSt=noSt;letI b1:=Int.ofNat 0;letI y:=List.length l;letI z:=Int.negSucc 0;letI v:=Value.int .i64 f;letI s:=Nat×Int×Nat;letI u:=y-k;letI m:=Value.int .i64 (Int.ofNat t);letI n:=Value.int .i64 (Int.ofNat k);letI h:=Utf8.decode (ByteArray.mk (Array.mk l)) k;letI g:=h.fst;letI e:=k+h.snd;letI d:=Value.int .i64 (IntKind.wrap .i64 (Int.ofNat (k+1)));letI c:=n=n;letI b:=ASC l/\k<y/\y<=1099511627776;letI a:=Value.int IntKind.i32 (Int.ofNat g);br (Nat.blt k y) (a1/\Nat.le g 127/\a=a/\∀(x:Bool),True->br x (∃(j':s),letI p:=Int.ofNat j'.2.snd;(j'.fst<=y/\(j'.2.fst=z/\j'.2.snd=0\/b1<=j'.2.fst/\j'.2.fst<p/\j'.2.snd<=j'.fst))/\y-j'.fst<u/\a1/\c1/\v=Value.int .i64 j'.2.fst/\m=Value.int .i64 p/\c1/\e=j'.fst/\True) (br (decide (f<b1)) (a1/\b/\c1/\c/\∀(x:Unit),True->∃(j':s),letI q:=Int.ofNat j'.2.snd;(j'.fst<=y/\(j'.2.fst=z/\j'.2.snd=0\/b1<=j'.2.fst/\j'.2.fst<q/\j'.2.snd<=j'.fst))/\y-j'.fst<u/\a1/\c1/\n=Value.int .i64 j'.2.fst/\d=Value.int .i64 q/\c1/\e=j'.fst/\True) (a1/\b/\c1/\c/\∀(x:Unit),True->∃(j':s),letI r:=Int.ofNat j'.2.snd;(j'.fst<=y/\(j'.2.fst=z/\j'.2.snd=0\/b1<=j'.2.fst/\j'.2.fst<r/\j'.2.snd<=j'.fst))/\y-j'.fst<u/\a1/\c1/\v=Value.int .i64 j'.2.fst/\d=Value.int .i64 r/\c1/\e=j'.fst/\True))) (∃(x:Int×Nat),letI w:=Int.ofNat x.snd;(x.fst<b1\/b1<=x.fst/\x.fst<w/\x.snd<=y)/\a1/\c1/\v=Value.int .i64 x.fst/\m=Value.int .i64 w/\True)
def g3R(T:TD)(l:By):Prop:=
 letI m:=Int.ofNat 0;letI n:=noSt=noSt;letI g:=List.length l;letI h:=Int.negSucc 0;letI k:=True/\True;letI c:=Int.ofNat g;letI b:=Value.int .i64 m;letI a:=Value.int .i64 h;(0<=g/\(h=h/\0=0\/m<=h/\h<m/\0<=0))/\(n/\l=l/\a=a/\b=b/\l=l/\0=0/\True)/\∀(x:Int×Nat),letI f:=Int.ofNat x.snd;letI e:=x.fst<m;letI d:=m<=x.fst;e\/d/\x.fst<f/\x.snd<=g->br (decide e) (∃(x:By×Int),Nat.le (List.length x.fst) g/\n/\k/\True/\[]=x.fst/\Value.int .i64 c=Value.int .i64 x.snd/\True) (gd (decide d&&(decide (x.fst<=f)&&decide (f<=c))) (∃(x_1:By×Int),Nat.le (List.length x_1.fst) g/\n/\k/\True/\List.drop (Int.toNat x.fst) (List.take x.snd l)=x_1.fst/\Value.int .i64 x.fst=Value.int .i64 x_1.snd/\True))
theorem r_m(T:TD):TabOk Tryz.prog (g3U T):=by
 refine⟨fun f s h=>?_,fun f s h=>?_⟩
 ·unfold g3U at h
  simp only at h
  split at h
  ·cases h;exact a_d w_7 (F_8 T).1
  ·cases h;exact a_d w_8 (G_c T).1
  ·cases h
 ·cases h
theorem G_e(T:TD)(l:By)(k:Nat)(f:Int)(t:Nat)(hd:ASC l/\l.length<=1099511627776)(h:k<=l.length/\((f= -1/\t=0)\/(0<=f/\f<t/\t<=k))):G_d T l k f t:=by
 unfold G_d
 obtain⟨h1,h2⟩:=hd
 obtain⟨i1,i2⟩:=h
 by_cases g:k<l.length
 ·have e:=r_h h1 g
  have e1:(Utf8.decode (ByteArray.mk (Array.mk l)) k).snd=1:=congrArg Prod.snd e
  have e2:(Utf8.decode (ByteArray.mk (Array.mk l)) k).fst=(l.getD k 0).toNat:=congrArg Prod.fst e
  have b:=o_q h1 g
  have w:IntKind.wrap IntKind.i64 (Int.ofNat (k+1))=Int.ofNat (k+1):=a_o ab ab
  simp only[e1,e2,w]
  simp only[a_V,sj1,exists_eq_left',sj6,gt_iff_lt,ge_iff_le,exists_const,Int.ofNat_le,implies_true,Bool.true_eq,Value.bool.injEq,d_p]
  repeat' (first|done|omega|exact trivial|exact rfl|exact h1|(refine⟨(k+1,f,t),?_⟩;dsimp only;omega)|(refine⟨(k+1,(k:Int),k+1),?_⟩;dsimp only;omega)|(refine⟨(k+1,f,k+1),?_⟩;dsimp only;omega)|intro _|refine And.intro ?_ ?_)
 ·simp only[a_V,sj1,exists_eq_left',sj6,gt_iff_lt,ge_iff_le,exists_const,Int.ofNat_le,implies_true,Bool.true_eq,Value.bool.injEq,d_p]
  repeat' (first|done|omega|exact trivial|exact rfl|(refine⟨(f,t),?_⟩;dsimp only;omega)|intro _|refine And.intro ?_ ?_)
theorem G_f(T:TD)(l:By)(hd:ASC l/\l.length<=1099511627776):(g3D T l).Body Tryz.prog (sub (a_b Tryz.f41) [0,0,1,0,1,1]):=by
 refine LoopD.bodyH (root:=(a_b Tryz.f41)) [0,0,1,0,1,1] a_l (r_m T) (LTok.nil) 1000 ?_
 exact fun j hj=>Ho.of (G_d T l j.1 j.2.1 j.2.2) aa (G_e T l j.1 j.2.1 j.2.2 hd hj)
theorem I_5(T:TD)(l:By)(hd:ASC l/\l.length<=1099511627776):g3R T l:=by
 unfold g3R
 obtain⟨h1,h2⟩:=hd
 simp only[a_V,sj1,exists_eq_left',sj6,gt_iff_lt,ge_iff_le,exists_const,Int.ofNat_le,implies_true,Bool.true_eq,Value.bool.injEq,d_p]
 repeat' (first|done|omega|exact trivial|exact rfl|exact .inl trivial|exact⟨([],_),an,rfl,rfl⟩|exact⟨(_,_),af,rfl,rfl⟩|intro _|refine And.intro ?_ ?_)
theorem w_9:a_t Tryz.prog 41:=⟨Tryz.f41,aa,rfl,aa⟩
theorem G_g(T:TD):(g3S T).Body Tryz.prog 41/\(g3S T).BodyD Tryz.prog 41:=by
 refine a_c (fn:=Tryz.f41) (b:=a_b Tryz.f41) (LT:=fun a=>[([0,1,0,1,1],(g3D T a).at (0,-1,0))]) a_l (r_m T) 1000 (fun a ha=>LTok.cons (fun fr H K hk=>LoopD.ok (G_f T a ha) hk) (LTok.nil)) aa aa ?_
 exact fun a ha=>Ho.of (g3R T a) aa (I_5 T a ha)
def g4R(T:TD)(c:Nat):Prop:=
 letI e:=Int.ofNat c;letI f:=noSt=noSt;letI d:=∃(x:Bool),True/\f/\True/\True/\Value.bool false=Value.bool x/\True;letI b:=br (decide (e≥Int.ofNat 65)) (∃(x:Bool),True/\f/\True/\True/\(Value.bool !decide (e<=Int.ofNat 90))=Value.bool x/\True) (∃(x:Bool),True/\f/\True/\True/\Value.bool true=Value.bool x/\True);letI a:=br (decide (e≥Int.ofNat 97)) (br (!decide (e<=Int.ofNat 122)) b d) b;br (decide (e>Int.ofNat 32)) (br (decide (e<Int.ofNat 127)) (br (decide (e≥Int.ofNat 48)) (br (!decide (e<=Int.ofNat 57)) a d) a) d) d
theorem I_6(T:TD)(c:Nat):g4R T c:=by
 unfold g4R
 simp only[a_V,sj1,exists_eq_left',sj6,gt_iff_lt,ge_iff_le,exists_const,Int.ofNat_le,implies_true,Bool.true_eq,Value.bool.injEq]
 repeat' (first|done|exact⟨_,rfl⟩|(exfalso;omega)|intro _|refine And.intro ?_ ?_)
theorem x_a:a_t Tryz.prog 40:=⟨Tryz.f40,aa,rfl,aa⟩
theorem G_h(T:TD):(g4S T).Body Tryz.prog 40/\(g4S T).BodyD Tryz.prog 40:=by
 refine a_c (fn:=Tryz.f40) (b:=a_b Tryz.f40) (LT:=fun a=>[]) a_l (a_y) 1000 (fun a ha=>LTok.nil) aa aa ?_
 exact fun a ha=>Ho.of (g4R T a) aa (I_6 T a)
end Tk

