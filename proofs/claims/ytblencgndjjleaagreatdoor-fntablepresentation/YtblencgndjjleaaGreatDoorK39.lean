/- Lemmas of this claim; the last text says what is proved. -/
import Derived.Test.YtblencgndjjleaaGreatDoorK38
set_option linter.all false
set_option maxRecDepth 1000000
namespace Tk
open Go Go.Sx Go.Proofs
open Q
variable [Syms]
def mcR(T:TD)(h:By)(t:By):Prop:=
 letI q:=By×By;letI p:=noSt=noSt;letI n:=([]:List UInt8)=[];letI m:=n/\True;letI f:=Value.int IntKind.u32 (Int.ofNat 3);letI g:=Value.int IntKind.u32 (Int.ofNat 0);letI k:=Value.int IntKind.u32 (Int.ofNat 1);letI c:=f=f;letI d:=k=k;letI e:=g=g;letI b:=True/\True/\True/\True/\True/\True/\True/\True/\True/\True;letI a:=b/\b;br (eqL h [(99:UInt8),97,112,116,105,111,110]) (∃(x:q),x=(h,t)/\p/\True/\a/\c/\Value.int IntKind.u32 (Int.ofNat 140295)=g/\h=x.fst/\n/\d/\e/\t=x.snd/\m) (br (eqL h [(108:UInt8),105]) (∃(x:q),x=(h,t)/\p/\True/\a/\c/\Value.int IntKind.u32 (Int.ofNat 45570)=g/\h=x.fst/\n/\d/\e/\t=x.snd/\m) (∃(x:q),x=(h,t)/\p/\True/\a/\c/\e/\h=x.fst/\n/\d/\e/\t=x.snd/\m))
theorem I_s(T:TD)(h t:By)(ht:thd h/\t≠[]):mcR T h t:=by
 unfold mcR
 obtain⟨rfl|rfl,_⟩:=ht<;>simp[a_j,a_p,thL,tdL,eqL]
theorem e_D:a_t Tryz.prog 30:=⟨Tryz.f30,aa,rfl,aa⟩
theorem E_W(T:TD):(mcS T).Body Tryz.prog 30/\(mcS T).BodyD Tryz.prog 30:=by
 refine a_c (fn:=Tryz.f30) (b:=a_b Tryz.f30) (LT:=fun _=>[]) a_l (a_y) 1000 (fun a ha=>LTok.nil) aa aa ?_
 exact fun a ha=>Ho.of (mcR T a.1 a.2) aa (I_s T a.1 a.2 ha)
def meR(T:TD)(h:By)(t:By):Prop:=
 letI g:=By×By;letI f:=noSt=noSt;letI e:=([]:List UInt8)=[]/\True;letI c:=Value.int IntKind.u32 (Int.ofNat 3);letI d:=Value.int IntKind.u32 (Int.ofNat 0);letI b:=c=c;letI a:=True/\True/\True/\True/\True/\True/\True/\True/\True/\True;br (eqL h [(99:UInt8),97,112,116,105,111,110]) (∃(x:g),x=(h,t)/\f/\True/\a/\b/\Value.int IntKind.u32 (Int.ofNat 140295)=d/\h=x.fst/\e) (br (eqL h [(108:UInt8),105]) (∃(x:g),x=(h,t)/\f/\True/\a/\b/\Value.int IntKind.u32 (Int.ofNat 45570)=d/\h=x.fst/\e) (∃(x:g),x=(h,t)/\f/\True/\a/\b/\d=d/\h=x.fst/\e))
theorem I_t(T:TD)(h t:By)(ht:thd h/\t=[]):meR T h t:=by
 unfold meR
 obtain⟨rfl|rfl,_⟩:=ht<;>simp[a_j,a_p,thL,tdL,eqL]
theorem E_X(T:TD):(meS T).Body Tryz.prog 30/\(meS T).BodyD Tryz.prog 30:=by
 refine a_c (fn:=Tryz.f30) (b:=a_b Tryz.f30) (LT:=fun _=>[]) a_l (a_y) 1000 (fun a ha=>LTok.nil) aa aa ?_
 exact fun a ha=>Ho.of (meR T a.1 a.2) aa (I_t T a.1 a.2 ha)
def E_Y(T:TD)(h:Nat->By)(t:Nat->By)(n:Nat):Prop:=
 letI a2:=ATot.n 10;letI w1:=Int.ofNat 0;letI y1:=AVal.str [];letI z1:=noSt=noSt;letI v1:=AVal.ptr 2 0;letI u1:=AVal.ptr (2+1) 0;letI r1:=[(116:UInt8),114];letI q1:=([]:List UInt8)=[];letI m1:=Value.int .i64 (Int.ofNat 1);letI n1:=Value.int .i64 w1;letI p1:=Value.int .i64 (Int.ofNat n);letI k1:=AVal.lit (Value.pointer none);letI h1:=AVal.lit (Value.slice none 0 0);letI g1:=decide (w1<Int.ofNat n);letI e1:=Value.int IntKind.u32 (Int.ofNat 3);letI f1:=Value.int IntKind.u32 w1;letI c1:=AVal.lit m1;letI d1:=AVal.lit n1;letI b1:=r1=r1;letI z:=AVal.lit e1;letI a1:=AVal.lit f1;letI y:=p1=p1;letI v:=e1=e1;letI w:=f1=f1;letI u:=[c1,y1,AVal.str (t 0),h1,h1];letI s:=(h 0,a_V u);letI q:=s.snd;letI r:=s.fst;letI p:=AVal.str r;letI g:=[d1,AVal.str (h 0),y1,h1,AVal.fmw (fun(x:Nat)=>u) 5 (kidN (t 0))];letI f:=[AVal.agg g];letI e:=some (ABlk.row g 29 (ATot.n 5));letI d:=some (ABlk.row [k1,v1,v1,k1,k1,z,a1,AVal.str r1,y1,h1] 173 a2);letI c:=r=[(116:UInt8),104]\/r=[(116:UInt8),100];letI b:=∀(k:Nat),letI m:=[d1,AVal.str (h k),y1,h1,AVal.fmw (fun(x:Nat)=>[c1,y1,AVal.str (t k),h1,h1]) 5 (kidN (t k))];k<n->SubL 0 m m;letI a:=∃(j':Unit),True/\n+1<n+1/\z1/\n=n/\b/\y/\m1=n1/\False;br g1 (gd g1 (br (b_X q) (z1/\(c/\q=[])/\SubL 0 f [AVal.agg [d1,p,y1,h1,AVal.e0]]/\∀(x:By×By),x=s->a\/∃(j':Nat),letI s1:= !b_X (t (j'-1));(0<j'/\j'<=n)/\n-j'<n+1/\z1/\n=n/\b/\y/\m1=Value.int .i64 (Int.ofNat j')/\v/\w/\b1/\q1/\br s1 False (br s1 False (br (Nat.beq j' 1) (v/\w/\x.fst=h (j'-1)/\q1/\MPok (AHeap.mk (Tr.node d (Tr.node e Tr.nil Tr.nil) (Tr.node (some (ABlk.row [AVal.ptr 0 0,k1,k1,k1,k1,z,a1,AVal.str x.fst,y1,h1] 173 a2)) Tr.nil Tr.nil)) 3 [] [] noSt) h1 (qT h t j') [(0,Nm.fz 1),(1,Nm.id 2),(2,Nm.id 2),(0,Nm.id 0)]/\True) False))) (z1/\(c/\q≠[])/\SubL 0 f [AVal.agg [d1,p,y1,h1,AVal.fmw (fun(x:Nat)=>[c1,y1,AVal.str q,h1,h1]) 5 1]]/\∀(x:By×By),x=s->a\/∃(j':Nat),letI t1:= !b_X (t (j'-1));(0<j'/\j'<=n)/\n-j'<n+1/\z1/\n=n/\b/\y/\m1=Value.int .i64 (Int.ofNat j')/\v/\w/\b1/\q1/\br t1 (br t1 (br (Nat.beq j' 1) (v/\w/\x.fst=h (j'-1)/\q1/\MPok (AHeap.mk (Tr.node d (Tr.node e (Tr.node (some (ABlk.row [v1,k1,k1,k1,k1,AVal.lit (Value.int IntKind.u32 (Int.ofNat 1)),a1,AVal.str x.snd,y1,h1] 173 a2)) Tr.nil Tr.nil) Tr.nil) (Tr.node (some (ABlk.row [AVal.ptr 0 0,u1,u1,k1,k1,z,a1,AVal.str x.fst,y1,h1] 173 a2)) Tr.nil Tr.nil)) 4 [] [] noSt) h1 (qT h t j') [(0,Nm.fz 3),(0,Nm.fz 1),(3,Nm.id (2+1)),(1,Nm.id 2),(2,Nm.id 2),(0,Nm.id 0)]/\True) False) False) False))) ((∃(x:Unit),True/\z1/\False)\/False)
def E_Z(T:TD)(h:Nat->By)(t:Nat->By)(n:Nat)(k:Nat):Prop:=
 letI n2:=ATot.n 10;letI k2:=AVal.str [];letI m2:=noSt=noSt;letI c2:=AVal.ptr 6 0;letI d2:=AVal.ptr 0 0;letI e2:=AVal.ptr 1 0;letI f2:=(0,Nm.fz 1);letI g2:=(2,Nm.id 2);letI h2:=(0,Nm.id 0);letI z1:=AVal.mp (qT h t k);letI b2:=AVal.ptr (6+1) 0;letI v1:=[(116:UInt8),114];letI w1:=AVal.str (h (k-1));letI u1:=([]:List UInt8)=[];letI s1:=Value.int .i64 (Int.ofNat 0);letI t1:=Value.int .i64 (Int.ofNat n);letI q1:=AVal.lit (Value.pointer none);letI r1:=AVal.str v1;letI p1:=AVal.lit (Value.slice none 0 0);letI n1:=decide (Int.ofNat k<Int.ofNat n);letI k1:=Value.int IntKind.u32 (Int.ofNat 3);letI m1:=Value.int IntKind.u32 (Int.ofNat 0);letI g1:=AVal.lit (Value.int .i64 (Int.ofNat 1));letI h1:=AVal.lit s1;letI f1:=v1=v1;letI d1:=AVal.lit k1;letI e1:=AVal.lit m1;letI c1:=Value.int .i64 (IntKind.wrap .i64 (Int.ofNat (k+1)));letI b1:=t1=t1;letI a1:=AVal.ite (Nat.beq k 1) q1 (AVal.ptr 4 0);letI y:=k1=k1;letI z:=m1=m1;letI w:=AVal.ite (!b_X (t (k-1))) (AVal.ptr 3 0) q1;letI v:=[g1,k2,AVal.str (t k),p1,p1];letI u:=(h k,a_V v);letI r:=u.snd;letI s:=u.fst;letI q:=AVal.str s;letI m:=[h1,AVal.str (h k),k2,p1,AVal.fmw (fun(x:Nat)=>v) 5 (kidN (t k))];letI g:=[AVal.agg m];letI f:=some (ABlk.row [q1,AVal.ptr 2 0,c2,q1,q1,d1,e1,r1,k2,p1] 173 n2);letI e:=Tr.node (some (ABlk.row m 29 (ATot.n 5))) Tr.nil Tr.nil;letI d:=s=[(116:UInt8),104]\/s=[(116:UInt8),100];letI c:=some (ABlk.row [d2,w,w,a1,c2,d1,e1,w1,k2,z1] 173 n2);letI b:=∀(k:Nat),letI p:=[h1,AVal.str (h k),k2,p1,AVal.fmw (fun(x:Nat)=>[g1,k2,AVal.str (t k),p1,p1]) 5 (kidN (t k))];k<n->SubL 0 p p;letI a:=∃(j':Unit),True/\n+1<n-k/\m2/\n=n/\b/\b1/\c1=s1/\False;br n1 (gd n1 (br (b_X r) (m2/\(d/\r=[])/\SubL 0 g [AVal.agg [h1,q,k2,p1,AVal.e0]]/\∀(x:By×By),x=u->a\/∃(j':Nat),letI y1:= !b_X (t (j'-1));(0<j'/\j'<=n)/\n-j'<n-k/\m2/\n=n/\b/\b1/\c1=Value.int .i64 (Int.ofNat j')/\y/\z/\f1/\u1/\br y1 False (br y1 False (br (Nat.beq j' 1) False (y/\z/\x.fst=h (j'-1)/\u1/\MPok (AHeap.mk (Tr.node f (Tr.node c Tr.nil e) (Tr.node none Tr.nil (Tr.node (some (ABlk.row [d2,q1,q1,e2,q1,d1,e1,AVal.str x.fst,k2,p1] 173 n2)) Tr.nil Tr.nil))) 7 [] [] noSt) p1 (qT h t j') [(0,Nm.fz 5),f2,(4,Nm.id 1),(1,Nm.id 6),g2,h2]/\True)))) (m2/\(d/\r≠[])/\SubL 0 g [AVal.agg [h1,q,k2,p1,AVal.fmw (fun(x:Nat)=>[g1,k2,AVal.str r,p1,p1]) 5 1]]/\∀(x:By×By),x=u->a\/∃(j':Nat),letI a2:= !b_X (t (j'-1));(0<j'/\j'<=n)/\n-j'<n-k/\m2/\n=n/\b/\b1/\c1=Value.int .i64 (Int.ofNat j')/\y/\z/\f1/\u1/\br a2 (br a2 (br (Nat.beq j' 1) False (y/\z/\x.fst=h (j'-1)/\u1/\MPok (AHeap.mk (Tr.node f (Tr.node c (Tr.node none (Tr.node (some (ABlk.row [c2,q1,q1,q1,q1,AVal.lit (Value.int IntKind.u32 (Int.ofNat 1)),e1,AVal.str x.snd,k2,p1] 173 n2)) Tr.nil Tr.nil) Tr.nil) e) (Tr.node none Tr.nil (Tr.node (some (ABlk.row [d2,b2,b2,e2,q1,d1,e1,AVal.str x.fst,k2,p1] 173 n2)) Tr.nil Tr.nil))) 8 [] [] noSt) p1 (qT h t j') [(0,Nm.fz 7),(0,Nm.fz 5),f2,(4,Nm.id 1),(3,Nm.id (6+1)),(1,Nm.id 6),g2,h2]/\True)) False) False))) ((∃(x:Unit),True/\m2/\y/\z/\f1/\u1/\MPok (AHeap.mk (Tr.node (some (ABlk.row [q1,AVal.ptr 2 0,e2,q1,q1,d1,e1,r1,k2,p1] 173 n2)) (Tr.node (some (ABlk.row [d2,w,w,a1,q1,d1,e1,w1,k2,z1] 173 n2)) Tr.nil Tr.nil) Tr.nil) 5 [] [] noSt) p1 (qR h t n) [f2,(1,Nm.id 1),g2,h2]/\True)\/False)
def mrR(T:TD)(h:Nat->By)(t:Nat->By)(n:Nat):Prop:=
 letI y:=Int.ofNat 0;letI z:=AVal.str [];letI v:=AVal.mp (qR h t n);letI u:=[(116:UInt8),114];letI s:=([]:List UInt8)=[];letI q:=Value.int .i64 y;letI r:=Value.int .i64 (Int.ofNat n);letI p:=AVal.lit (Value.pointer none);letI m:=AVal.lit (Value.slice none 0 0);letI f:=Value.int IntKind.u32 (Int.ofNat 3);letI g:=Value.int IntKind.u32 y;letI d:=AVal.lit q;letI e:=AVal.lit (Value.int .i64 (Int.ofNat 1));letI c:=u=u;letI a:=f=f;letI b:=g=g;True/\(noSt=noSt/\n=n/\(∀(k:Nat),letI w:=(t,n).fst k;k<n->SubL 0 [d,AVal.str ((h,t,n).fst k),z,m,AVal.fmw (fun(x:Nat)=>[e,z,AVal.str w,m,m]) 5 (kidN w)] [d,AVal.str (h k),z,m,AVal.fmw (fun(x:Nat)=>[e,z,AVal.str (t k),m,m]) 5 (kidN (t k))])/\r=r/\q=q/\a/\b/\c/\s/\True)/\∀(x:Unit),True->∃(x:(Nat->By)×(Nat->By)×Nat),x=(h,t,n)/\noSt=noSt/\True/\(True/\True/\True/\True/\True/\True/\True/\True/\True/\True)/\a/\b/\c/\s/\MPok (AHeap.mk (Tr.node (some (ABlk.row [p,AVal.ptr 2 0,AVal.ptr 1 0,p,p,AVal.lit f,AVal.lit g,AVal.str u,z,v] 173 (ATot.n 10))) Tr.nil Tr.nil) 3 [] [] noSt) v (qR x.1 x.snd.1 x.2.snd) [(1,Nm.id 1),(2,Nm.id 2),(0,Nm.id 0)]/\True
theorem r_e(T:TD):TabOk Tryz.prog (mrU T):=by
 refine⟨fun f s h=>?_,fun f s h=>?_⟩
 ·unfold mrU at h
  simp only at h
  split at h
  ·cases h;exact d_a (b_z e_D (E_X T).1) (b_z e_D (E_W T).1)
  ·cases h
 ·cases h
theorem E_0(T:TD)(h:Nat->By)(t:Nat->By)(n:Nat)(hd:(0<n/\n<=1000)/\∀j,j<n->thd (h j)):E_Y T h t n:=by
 unfold E_Y
 simp only[a_V,sj1,exists_eq_left',sj6]
 refine⟨fun _=>⟨hd.1.1,fun hn=>⟨⟨hd.2 0 hd.1.1,q_b hn⟩,m_D hn,1,⟨ac,hd.1.1⟩,ac,fun k _=>a_2,rfl,fun g=>?_,fun _=>⟨fun g=>?_,fun _=>⟨fun _=>⟨rfl,j_Q (b:=2) (bt:=0) rfl rfl rfl rfl rfl (fun g=>by rw[hn] at g;cases g)⟩,fun g=>by cases g⟩⟩⟩,fun hn=>⟨⟨hd.2 0 hd.1.1,fun g=>?_⟩,m_C hn,1,⟨ac,hd.1.1⟩,ac,fun k _=>a_2,rfl,fun _=>⟨fun _=>⟨fun _=>⟨rfl,j_Q (b:=2) (bt:=3) rfl rfl rfl rfl rfl (fun _=>⟨rfl,rfl,bq⟩)⟩,fun g=>by cases g⟩,fun g=>?_⟩,fun g=>?_⟩⟩,fun g=>?_⟩
 ·rw[show 1-1=0 from rfl,hn] at g;cases g
 ·rw[show 1-1=0 from rfl,hn] at g;cases g
 ·rw[g] at hn;cases hn
 ·rw[show 1-1=0 from rfl,hn] at g;cases g
 ·rw[show 1-1=0 from rfl,hn] at g;cases g
 ·omega
theorem E_1(T:TD)(h:Nat->By)(t:Nat->By)(n:Nat)(k:Nat)(hd:(0<n/\n<=1000)/\∀j,j<n->thd (h j))(h1:0<k/\k<=n):E_Z T h t n k:=by
 unfold E_Z
 have e0:IntKind.wrap IntKind.i64 (Int.ofNat (k+1))=Int.ofNat (k+1):=a_o ab ab
 simp only[e0]
 simp only[a_V,sj1,exists_eq_left',sj6]
 refine⟨fun g=>⟨g,fun hn=>⟨⟨hd.2 k g,q_b hn⟩,m_D hn,k+1,⟨ac,ac⟩,ac,fun k _=>a_2,rfl,fun e=>?_,fun _=>⟨fun e=>?_,fun _=>⟨fun e=>?_,fun _=>⟨rfl,m_F (b:=6) (bt:=0) h1.1 rfl rfl rfl rfl bq rfl rfl (fun g=>by rw[hn] at g;cases g)⟩⟩⟩⟩,fun hn=>⟨⟨hd.2 k g,fun e=>?_⟩,m_C hn,k+1,⟨ac,ac⟩,ac,fun k _=>a_2,rfl,fun _=>⟨fun _=>⟨fun e=>?_,fun _=>⟨rfl,m_F (b:=6) (bt:=7) h1.1 rfl rfl rfl rfl bq rfl rfl (fun _=>⟨rfl,rfl,bq⟩)⟩⟩,fun e=>?_⟩,fun e=>?_⟩⟩,fun g=>?_⟩
 ·rw[show k+1-1=k from rfl,hn] at e;cases e
 ·rw[show k+1-1=k from rfl,hn] at e;cases e
 ·have:=a_k.1 e;omega
 ·rw[e] at hn;cases hn
 ·have:=a_k.1 e;omega
 ·rw[show k+1-1=k from rfl,hn] at e;cases e
 ·rw[show k+1-1=k from rfl,hn] at e;cases e
 ·obtain rfl:k=n:=ac
  exact⟨(),r_4 h1.1 rfl rfl rfl bq rfl⟩
theorem E_2(T:TD)(h:Nat->By)(t:Nat->By)(n:Nat)(hd:(0<n/\n<=1000)/\∀j,j<n->thd (h j)):(mrD T h t n).Body2 (I_q T h t n) Tryz.prog (sub (a_b Tryz.f30) [0,0,1,0,1,1,1]):=by
 refine LoopD.bodyH2 (root:=(a_b Tryz.f30)) (LT:=[]) [0,0,1,0,1,1,1] a_l (r_e T) (LTok.nil) 1000 ?_ ?_
 ·exact fun j hj=>Ho.of (E_Y T h t n) aa (E_0 T h t n hd)
 ·exact fun j hj=>Ho.of (E_Z T h t n j) aa (E_1 T h t n j hd hj)
theorem I_u(T:TD)(h:Nat->By)(t:Nat->By)(n:Nat)(hd:(0<n/\n<=1000)/\∀j,j<n->thd (h j)):mrR T h t n:=by
 unfold mrR
 simp only[a_V,sj1,exists_eq_left',sj6]
 exact⟨fun _ _=>a_2,fun _ _=>r_5 rfl rfl rfl⟩
theorem E_3(T:TD):(mrS T).Body Tryz.prog 30/\(mrS T).BodyD Tryz.prog 30:=by
 refine a_c (fn:=Tryz.f30) (b:=a_b Tryz.f30) (LT:=fun a=>[([0,1,0,1,1,1],(mrD T a.1 a.2.1 a.2.2).at ())]) a_l (r_e T) 1000 (fun a ha=>LTok.cons (fun fr H K hk=>LoopD.ok2 (E_2 T a.1 a.2.1 a.2.2 ha) hk) (LTok.nil)) aa aa ?_
 exact fun a ha=>Ho.of (mrR T a.1 a.2.1 a.2.2) aa (I_u T a.1 a.2.1 a.2.2 ha)
def E_4(T:TD)(h:Nat->Nat->By)(t:Nat->Nat->By)(C:Nat->Nat)(n:Nat):Prop:=
 letI r1:=Int.ofNat 0;letI s1:=noSt=noSt;letI t1:=AVal.str [];letI q1:=[(116:UInt8),114];letI p1:=([]:List UInt8)=[];letI k1:=Value.int .i64 (Int.ofNat 1);letI m1:=Value.int .i64 r1;letI n1:=Value.int .i64 (Int.ofNat n);letI g1:=AVal.str q1;letI h1:=AVal.lit (Value.pointer none);letI f1:=AVal.lit (Value.slice none 0 0);letI d1:=decide (r1<Int.ofNat n);letI e1:=[(116:UInt8),98,111,100,121];letI b1:=Value.int IntKind.u32 (Int.ofNat 3);letI c1:=Value.int IntKind.u32 r1;letI z:=AVal.lit k1;letI a1:=AVal.lit m1;letI w:=AVal.lit b1;letI y:=AVal.lit c1;letI v:=n1=n1;letI s:=b1=b1;letI u:=c1=c1;letI q:=fun(j:Nat)=>(h 0 j,a_V [z,t1,AVal.str (t 0 j),f1,f1]).snd;letI p:=(q,C 0);letI m:=p.snd;letI f:=(fun(j:Nat)=>(h 0 j,a_V [z,t1,AVal.str (t 0 j),f1,f1]).fst,q,C 0);letI e:=f.fst;letI b:=[a1,g1,t1,f1,AVal.fmw (fun(j:Nat)=>[a1,AVal.str (h 0 j),t1,f1,AVal.fmw (fun(x:Nat)=>[z,t1,AVal.str (t 0 j),f1,f1]) 5 (kidN (t 0 j))]) 5 (C 0)];letI a:=∀(k:Nat),letI c:=[a1,g1,t1,f1,AVal.fmw (fun(j:Nat)=>[a1,AVal.str (h k j),t1,f1,AVal.fmw (fun(x:Nat)=>[z,t1,AVal.str (t k j),f1,f1]) 5 (kidN (t k j))]) 5 (C k)];k<n->SubL 0 c c;br d1 (gd d1 (s1/\((0<m/\m<=1000)/\∀(j:Nat),letI d:=e j;j<m->d=[(116:UInt8),104]\/d=[(116:UInt8),100])/\SubL 0 [AVal.agg b] [AVal.agg [a1,g1,t1,f1,AVal.fmw (fun(j:Nat)=>letI g:=p.fst j;[a1,AVal.str (e j),t1,f1,AVal.fmw (fun(x:Nat)=>[z,t1,AVal.str g,f1,f1]) 5 (kidN g)]) 5 m]]/\∀(x:(Nat->By)×(Nat->By)×Nat),letI r:=AVal.mp (MP.ren (fun(i:Nat)=>bif false then 0 else 2+i) (qR x.1 x.snd.1 x.2.snd));x=f->(∃(j':Unit),True/\n+1<n+1/\s1/\n=n/\a/\v/\k1=m1/\False)\/∃(j':Nat),(0<j'/\j'<=n)/\n-j'<n+1/\s1/\n=n/\a/\v/\k1=Value.int .i64 (Int.ofNat j')/\s/\u/\e1=e1/\p1/\br (Nat.beq j' 1) (s/\u/\q1=q1/\p1/\MPok (AHeap.mk (Tr.node (some (ABlk.row [h1,AVal.ptr 2 0,AVal.ptr 2 0,h1,h1,w,y,AVal.str e1,t1,f1] 173 (ATot.n 10))) (Tr.node (some (ABlk.row b 29 (ATot.n 5))) Tr.nil Tr.nil) (Tr.node (some (ABlk.row [AVal.ptr 0 0,AVal.ptr (2+1+1) 0,AVal.ptr (2+1) 0,h1,h1,w,y,g1,t1,r] 173 (ATot.n 10))) Tr.nil Tr.nil)) 5 [] [] noSt) r (qU h t C j') [(0,Nm.fz 1),(6,Nm.id (2+1)),(5,Nm.id (2+1+1)),(1,Nm.id 2),(2,Nm.id 2),(0,Nm.id 0)]/\True) False)) ((∃(x:Unit),True/\s1/\False)\/False)
def E_5(T:TD)(h:Nat->Nat->By)(t:Nat->Nat->By)(C:Nat->Nat)(n:Nat)(k:Nat):Prop:=
 letI z1:=ATot.n 10;letI w1:=noSt=noSt;letI y1:=AVal.str [];letI v1:=AVal.ptr 0 0;letI t1:=[(116:UInt8),114];letI u1:=AVal.mp (qU h t C k);letI s1:=([]:List UInt8)=[];letI q1:=Value.int .i64 (Int.ofNat 0);letI r1:=Value.int .i64 (Int.ofNat n);letI n1:=AVal.str t1;letI p1:=AVal.lit (Value.pointer none);letI m1:=AVal.lit (Value.slice none 0 0);letI h1:=decide (Int.ofNat k<Int.ofNat n);letI k1:=[(116:UInt8),98,111,100,121];letI f1:=Value.int IntKind.u32 (Int.ofNat 3);letI g1:=Value.int IntKind.u32 (Int.ofNat 0);letI d1:=AVal.lit (Value.int .i64 (Int.ofNat 1));letI e1:=AVal.lit q1;letI c1:=AVal.str k1;letI a1:=AVal.lit f1;letI b1:=AVal.lit g1;letI z:=Value.int .i64 (IntKind.wrap .i64 (Int.ofNat (k+1)));letI y:=r1=r1;letI w:=AVal.ite (Nat.beq k 1) p1 (AVal.ptr 4 0);letI v:=k1=k1;letI s:=f1=f1;letI u:=g1=g1;letI q:=fun(j:Nat)=>(h k j,a_V [d1,y1,AVal.str (t k j),m1,m1]).snd;letI p:=(q,C k);letI m:=p.snd;letI f:=(fun(j:Nat)=>(h k j,a_V [d1,y1,AVal.str (t k j),m1,m1]).fst,q,C k);letI e:=f.fst;letI b:=[e1,n1,y1,m1,AVal.fmw (fun(j:Nat)=>[e1,AVal.str (h k j),y1,m1,AVal.fmw (fun(x:Nat)=>[d1,y1,AVal.str (t k j),m1,m1]) 5 (kidN (t k j))]) 5 (C k)];letI a:=∀(k:Nat),letI c:=[e1,n1,y1,m1,AVal.fmw (fun(j:Nat)=>[e1,AVal.str (h k j),y1,m1,AVal.fmw (fun(x:Nat)=>[d1,y1,AVal.str (t k j),m1,m1]) 5 (kidN (t k j))]) 5 (C k)];k<n->SubL 0 c c;br h1 (gd h1 (w1/\((0<m/\m<=1000)/\∀(j:Nat),letI d:=e j;j<m->d=[(116:UInt8),104]\/d=[(116:UInt8),100])/\SubL 0 [AVal.agg b] [AVal.agg [e1,n1,y1,m1,AVal.fmw (fun(j:Nat)=>letI g:=p.fst j;[e1,AVal.str (e j),y1,m1,AVal.fmw (fun(x:Nat)=>[d1,y1,AVal.str g,m1,m1]) 5 (kidN g)]) 5 m]]/\∀(x:(Nat->By)×(Nat->By)×Nat),letI r:=AVal.mp (MP.ren (fun(i:Nat)=>bif false then 0 else 8+i) (qR x.1 x.snd.1 x.2.snd));x=f->(∃(j':Unit),True/\n+1<n-k/\w1/\n=n/\a/\y/\z=q1/\False)\/∃(j':Nat),(0<j'/\j'<=n)/\n-j'<n-k/\w1/\n=n/\a/\y/\z=Value.int .i64 (Int.ofNat j')/\s/\u/\v/\s1/\br (Nat.beq j' 1) False (s/\u/\t1=t1/\s1/\MPok (AHeap.mk (Tr.node (some (ABlk.row [p1,AVal.ptr 2 0,AVal.ptr 8 0,p1,p1,a1,b1,c1,y1,m1] 173 z1)) (Tr.node (some (ABlk.row [v1,AVal.ptr 5 0,AVal.ptr 6 0,w,AVal.ptr 8 0,a1,b1,n1,y1,u1] 173 z1)) (Tr.node none (Tr.node (some (ABlk.row b 29 (ATot.n 5))) Tr.nil Tr.nil) Tr.nil) Tr.nil) (Tr.node none (Tr.node none (Tr.node (some (ABlk.row [v1,AVal.ptr (8+1+1) 0,AVal.ptr (8+1) 0,AVal.ptr 1 0,p1,a1,b1,n1,y1,r] 173 z1)) Tr.nil Tr.nil) Tr.nil) Tr.nil)) 11 [] [] noSt) r (qU h t C j') [(0,Nm.fz 7),(0,Nm.fz 1),(4,Nm.id 1),(6,Nm.id (8+1)),(5,Nm.id (8+1+1)),(1,Nm.id 8),(2,Nm.id 2),(0,Nm.id 0)]/\True))) ((∃(x:Unit),True/\w1/\s/\u/\v/\s1/\MPok (AHeap.mk (Tr.node (some (ABlk.row [p1,AVal.ptr 2 0,AVal.ptr 1 0,p1,p1,a1,b1,c1,y1,m1] 173 z1)) (Tr.node (some (ABlk.row [v1,AVal.ptr 5 0,AVal.ptr 6 0,w,p1,a1,b1,n1,y1,u1] 173 z1)) Tr.nil Tr.nil) Tr.nil) 7 [] [] noSt) m1 (qV h t C n 0 1 2 [0]) [(0,Nm.fz 1),(1,Nm.id 1),(2,Nm.id 2),(0,Nm.id 0)]/\True)\/False)
def mgR(T:TD)(h:Nat->Nat->By)(t:Nat->Nat->By)(C:Nat->Nat)(n:Nat):Prop:=
 letI a1:=AVal.str [];letI y:=Nat->Nat->By;letI w:=([]:List UInt8)=[];letI u:=Value.int .i64 (Int.ofNat 0);letI v:=Value.int .i64 (Int.ofNat n);letI r:=AVal.str [(116:UInt8),114];letI s:=AVal.lit (Value.pointer none);letI q:=AVal.mp (qV h t C n 0 1 2 [0]);letI p:=AVal.lit (Value.slice none 0 0);letI m:=[(116:UInt8),98,111,100,121];letI f:=Value.int IntKind.u32 (Int.ofNat 3);letI g:=Value.int IntKind.u32 (Int.ofNat 0);letI d:=AVal.lit u;letI e:=AVal.lit (Value.int .i64 (Int.ofNat 1));letI c:=m=m;letI a:=f=f;letI b:=g=g;True/\(noSt=noSt/\n=n/\(∀(k:Nat),k<n->SubL 0 [d,r,a1,p,AVal.fmw (fun(j:Nat)=>letI z:=(t,C,n).fst k j;[d,AVal.str ((h,t,C,n).fst k j),a1,p,AVal.fmw (fun(x:Nat)=>[e,a1,AVal.str z,p,p]) 5 (kidN z)]) 5 ((C,n).fst k)] [d,r,a1,p,AVal.fmw (fun(j:Nat)=>[d,AVal.str (h k j),a1,p,AVal.fmw (fun(x:Nat)=>[e,a1,AVal.str (t k j),p,p]) 5 (kidN (t k j))]) 5 (C k)])/\v=v/\u=u/\a/\b/\c/\w/\True)/\∀(x:Unit),True->∃(x:y×y×(Nat->Nat)×Nat),x=(h,t,C,n)/\noSt=noSt/\True/\(True/\True/\True/\True/\True/\True/\True/\True/\True/\True)/\a/\b/\c/\w/\MPok (AHeap.mk (Tr.node (some (ABlk.row [s,AVal.ptr 2 0,AVal.ptr 1 0,s,s,AVal.lit f,AVal.lit g,AVal.str m,a1,q] 173 (ATot.n 10))) Tr.nil Tr.nil) 3 [] [] noSt) q (qV x.1 x.snd.1 x.snd.snd.1 x.snd.2.snd 0 1 2 [0]) [(1,Nm.id 1),(2,Nm.id 2),(0,Nm.id 0)]/\True
theorem r_f(T:TD):TabOk Tryz.prog (mgU T):=by
 refine⟨fun f s h=>?_,fun f s h=>?_⟩
 ·unfold mgU at h
  simp only at h
  split at h
  ·cases h;exact b_z e_D (E_3 T).1
  ·cases h
 ·cases h
theorem E_6(T:TD)(h:Nat->Nat->By)(t:Nat->Nat->By)(C:Nat->Nat)(n:Nat)(hd:(0<n/\n<=1000)/\∀i,i<n->(0<C i/\C i<=1000)/\∀j,j<C i->thd (h i j)):E_4 T h t C n:=by
 unfold E_4
 simp only[a_V,sj1,exists_eq_left',sj6]
 exact⟨fun _=>⟨hd.1.1,hd.2 0 hd.1.1,i_s,1,⟨ac,ac⟩,ac,fun k _=>b_k,rfl,fun _=>p_k (b:=2) (bf:=4) (bl:=3) rfl rfl rfl rfl rfl rfl rfl rfl rfl,fun e=>aW⟩,fun g=>ac⟩
theorem E_7(T:TD)(h:Nat->Nat->By)(t:Nat->Nat->By)(C:Nat->Nat)(n:Nat)(k:Nat)(hd:(0<n/\n<=1000)/\∀i,i<n->(0<C i/\C i<=1000)/\∀j,j<C i->thd (h i j))(h1:0<k/\k<=n):E_5 T h t C n k:=by
 unfold E_5
 have e0:IntKind.wrap IntKind.i64 (Int.ofNat (k+1))=Int.ofNat (k+1):=a_o ab ab
 simp only[e0]
 simp only[a_V,sj1,exists_eq_left',sj6]
 refine⟨fun g=>⟨g,hd.2 k g,i_s,k+1,⟨ac,ac⟩,ac,fun k _=>b_k,rfl,fun e=>(by have:=a_k.1 e;omega),fun _=>s_a (b:=8) (bf:=10) (bl:=9) h1.1 rfl rfl rfl rfl rfl rfl bq rfl rfl rfl rfl⟩,fun g=>?_⟩
 obtain rfl:k=n:=ac
 exact⟨(),s_b h1.1 rfl rfl rfl bq rfl⟩
theorem E_8(T:TD)(h:Nat->Nat->By)(t:Nat->Nat->By)(C:Nat->Nat)(n:Nat)(hd:(0<n/\n<=1000)/\∀i,i<n->(0<C i/\C i<=1000)/\∀j,j<C i->thd (h i j)):(mgD T h t C n).Body2 (I_r T h t C n) Tryz.prog (sub (a_b Tryz.f30) [0,0,1,0,1,1,1]):=by
 refine LoopD.bodyH2 (root:=(a_b Tryz.f30)) (LT:=[]) [0,0,1,0,1,1,1] a_l (r_f T) (LTok.nil) 1000 ?_ ?_
 ·exact fun j hj=>Ho.of (E_4 T h t C n) aa (E_6 T h t C n hd)
 ·exact fun j hj=>Ho.of (E_5 T h t C n j) aa (E_7 T h t C n j hd hj)
theorem I_v(T:TD)(h:Nat->Nat->By)(t:Nat->Nat->By)(C:Nat->Nat)(n:Nat)(hd:(0<n/\n<=1000)/\∀i,i<n->(0<C i/\C i<=1000)/\∀j,j<C i->thd (h i j)):mgR T h t C n:=by
 unfold mgR
 simp only[a_V,sj1,exists_eq_left',sj6]
 exact⟨fun _ _=>b_k,fun _ _=>r_8 rfl rfl rfl⟩
theorem E_9(T:TD):(mgS T).Body Tryz.prog 30/\(mgS T).BodyD Tryz.prog 30:=by
 refine a_c (fn:=Tryz.f30) (b:=a_b Tryz.f30) (LT:=fun a=>[([0,1,0,1,1,1],(mgD T a.1 a.2.1 a.2.2.1 a.2.2.2).at ())]) a_l (r_f T) 1000 (fun a ha=>LTok.cons (fun fr H K hk=>LoopD.ok2 (E_8 T a.1 a.2.1 a.2.2.1 a.2.2.2 ha) hk) (LTok.nil)) aa aa ?_
 exact fun a ha=>Ho.of (mgR T a.1 a.2.1 a.2.2.1 a.2.2.2) aa (I_v T a.1 a.2.1 a.2.2.1 a.2.2.2 ha)
def mhR(T:TD)(h:Nat->Nat->By)(t:Nat->Nat->By)(C:Nat->Nat)(n:Nat):Prop:=
 letI s1:=AVal.str [];letI r1:=(t,C,n).fst;letI q1:=(h,t,C,n).fst;letI n1:=Nat->Nat->By;letI m1:=([]:List UInt8)=[];letI h1:=AVal.str [(116:UInt8),114];letI k1:=AVal.lit (Value.pointer none);letI g1:=AVal.lit (Value.slice none 0 0);letI f1:=[(116:UInt8),97,98,108,101];letI e1:=[(116:UInt8),98,111,100,121];letI c1:=Value.int IntKind.u32 (Int.ofNat 3);letI d1:=Value.int IntKind.u32 (Int.ofNat 0);letI a1:=AVal.lit (Value.int .i64 (Int.ofNat 1));letI b1:=AVal.lit (Value.int .i64 (Int.ofNat 0));letI z:=AVal.str f1;letI y:=AVal.str e1;letI v:=AVal.lit c1;letI w:=AVal.lit d1;letI u:=n1×n1×(Nat->Nat)×Nat;letI r:=c1=c1;letI s:=d1=d1;letI q:=True/\True/\True/\True/\True/\True/\True/\True/\True/\True;letI m:=fun(i j:Nat)=>(q1 i j,a_V [a1,s1,AVal.str (r1 i j),g1,g1]).snd;letI k:=fun(i:Nat)=>(fun(j:Nat)=>(q1 i j,a_V [a1,s1,AVal.str (r1 i j),g1,g1]).snd,(C,n).fst i).snd;letI g:=(k,n).fst;letI d:=(fun(i j:Nat)=>(q1 i j,a_V [a1,s1,AVal.str (r1 i j),g1,g1]).fst,m,k,n);letI c:=d.fst;letI a:=[b1,y,s1,g1,AVal.fmw (fun(i:Nat)=>[b1,h1,s1,g1,AVal.fmw (fun(j:Nat)=>letI p1:=r1 i j;[b1,AVal.str (q1 i j),s1,g1,AVal.fmw (fun(x:Nat)=>[a1,s1,AVal.str p1,g1,g1]) 5 (kidN p1)]) 5 ((C,n).fst i)]) 5 n];noSt=noSt/\((0<n/\n<=1000)/\∀(i:Nat),letI f:=g i;i<n->(0<f/\f<=1000)/\∀(j:Nat),letI b:=c i j;j<f->b=[(116:UInt8),104]\/b=[(116:UInt8),100])/\SubL 0 [AVal.agg a] [AVal.agg [b1,y,s1,g1,AVal.fmw (fun(i:Nat)=>[b1,h1,s1,g1,AVal.fmw (fun(j:Nat)=>letI e:=(m,k,n).fst i j;[b1,AVal.str (c i j),s1,g1,AVal.fmw (fun(x:Nat)=>[a1,s1,AVal.str e,g1,g1]) 5 (kidN e)]) 5 (g i)]) 5 n]]/\∀(x:u),letI p:=AVal.mp (MP.ren (fun(i:Nat)=>bif false then 0 else 3+i) (qV x.1 x.snd.1 x.snd.snd.1 x.snd.2.snd 0 1 2 [0]));x=d->∃(x_1:u),x_1=(h,t,C,n)/\noSt=noSt/\True/\(q/\q)/\r/\s/\f1=f1/\m1/\r/\s/\e1=e1/\m1/\MPok (AHeap.mk (Tr.node (some (ABlk.row [b1,z,s1,g1,AVal.fmw (fun(x:Nat)=>a) 5 1] 29 (ATot.n (1+1+1+1+1)))) (Tr.node (some (ABlk.row [k1,AVal.ptr 3 0,AVal.ptr 3 0,k1,k1,v,w,z,s1,g1] 173 (ATot.n 10))) (Tr.node (some (ABlk.row [AVal.ptr 1 0,AVal.ptr (3+1+1) 0,AVal.ptr (3+1) 0,k1,k1,v,w,y,s1,p] 173 (ATot.n 10))) Tr.nil Tr.nil) Tr.nil) (Tr.node (some (ABlk.row a 29 (ATot.n 5))) Tr.nil Tr.nil)) 6 [] [] noSt) p (qV x_1.1 x_1.snd.1 x_1.snd.snd.1 x_1.snd.2.snd 1 3 2 [0,1]) [(0,Nm.fz 2),(0,Nm.fz 0),(3,Nm.id (3+1)),(2,Nm.id (3+1+1)),(1,Nm.id 3),(0,Nm.id 1)]/\True
theorem r_g(T:TD):TabOk Tryz.prog (mhU T):=by
 refine⟨fun f s h=>?_,fun f s h=>?_⟩
 ·unfold mhU at h
  simp only at h
  split at h
  ·cases h;exact b_z e_D (E_9 T).1
  ·cases h
 ·cases h
theorem I_w(T:TD)(h:Nat->Nat->By)(t:Nat->Nat->By)(C:Nat->Nat)(n:Nat)(hd:(0<n/\n<=1000)/\∀i,i<n->(0<C i/\C i<=1000)/\∀j,j<C i->thd (h i j)):mhR T h t C n:=by
 unfold mhR
 simp only[a_V,sj1,exists_eq_left',sj6]
 exact⟨hd,g_G,p_j rfl rfl rfl⟩
theorem F_a(T:TD):(mhS T).Body Tryz.prog 30/\(mhS T).BodyD Tryz.prog 30:=by
 refine a_c (fn:=Tryz.f30) (b:=a_b Tryz.f30) (LT:=fun _=>[]) a_l (r_g T) 1000 (fun a ha=>LTok.nil) aa aa ?_
 exact fun a ha=>Ho.of (mhR T a.1 a.2.1 a.2.2.1 a.2.2.2) aa (I_w T a.1 a.2.1 a.2.2.1 a.2.2.2 ha)
def miR(T:TD)(h:Nat->Nat->By)(t:Nat->Nat->By)(C:Nat->Nat)(n:Nat):Prop:=
 letI w1:=ATot.n 10;letI v1:=AVal.str [];letI u1:=AVal.ptr 3 0;letI t1:=(t,C,n).fst;letI s1:=(h,t,C,n).fst;letI p1:=Nat->Nat->By;letI q1:=AVal.ptr (3+1) 0;letI n1:=([]:List UInt8)=[];letI k1:=AVal.str [(116:UInt8),114];letI m1:=AVal.lit (Value.pointer none);letI h1:=AVal.lit (Value.slice none 0 0);letI g1:=[(116:UInt8),97,98,108,101];letI f1:=[(116:UInt8),98,111,100,121];letI c1:=Value.int IntKind.u32 (Int.ofNat 2);letI d1:=Value.int IntKind.u32 (Int.ofNat 0);letI e1:=Value.int IntKind.u32 (Int.ofNat 3);letI a1:=AVal.lit (Value.int .i64 (Int.ofNat 1));letI b1:=AVal.lit (Value.int .i64 (Int.ofNat 0));letI z:=AVal.str g1;letI y:=AVal.str f1;letI v:=AVal.lit d1;letI w:=AVal.lit e1;letI u:=p1×p1×(Nat->Nat)×Nat;letI r:=d1=d1;letI s:=e1=e1;letI q:=True/\True/\True/\True/\True/\True/\True/\True/\True/\True;letI m:=fun(i j:Nat)=>(s1 i j,a_V [a1,v1,AVal.str (t1 i j),h1,h1]).snd;letI k:=fun(i:Nat)=>(fun(j:Nat)=>(s1 i j,a_V [a1,v1,AVal.str (t1 i j),h1,h1]).snd,(C,n).fst i).snd;letI g:=(k,n).fst;letI d:=(fun(i j:Nat)=>(s1 i j,a_V [a1,v1,AVal.str (t1 i j),h1,h1]).fst,m,k,n);letI c:=d.fst;letI a:=[b1,z,v1,h1,AVal.fmw (fun(x:Nat)=>[b1,y,v1,h1,AVal.fmw (fun(i:Nat)=>[b1,k1,v1,h1,AVal.fmw (fun(j:Nat)=>letI r1:=t1 i j;[b1,AVal.str (s1 i j),v1,h1,AVal.fmw (fun(x:Nat)=>[a1,v1,AVal.str r1,h1,h1]) 5 (kidN r1)]) 5 ((C,n).fst i)]) 5 n]) 5 1];noSt=noSt/\((0<n/\n<=1000)/\∀(i:Nat),letI f:=g i;i<n->(0<f/\f<=1000)/\∀(j:Nat),letI b:=c i j;j<f->b=[(116:UInt8),104]\/b=[(116:UInt8),100])/\SubL 0 [AVal.agg a] [AVal.agg [b1,z,v1,h1,AVal.fmw (fun(x:Nat)=>[b1,y,v1,h1,AVal.fmw (fun(i:Nat)=>[b1,k1,v1,h1,AVal.fmw (fun(j:Nat)=>letI e:=(m,k,n).fst i j;[b1,AVal.str (c i j),v1,h1,AVal.fmw (fun(x:Nat)=>[a1,v1,AVal.str e,h1,h1]) 5 (kidN e)]) 5 (g i)]) 5 n]) 5 1]]/\∀(x:u),letI p:=AVal.mp (MP.ren (fun(i:Nat)=>bif false then 0 else 3+i) (qV x.1 x.snd.1 x.snd.snd.1 x.snd.2.snd 1 3 2 [0,1]));x=d->∃(x_1:u),x_1=(h,t,C,n)/\noSt=noSt/\True/\(q/\q/\q)/\c1=c1/\r/\n1/\n1/\s/\r/\g1=g1/\n1/\s/\r/\f1=f1/\n1/\MPok (AHeap.mk (Tr.node (some (ABlk.row [AVal.lit (Value.int .i64 (Int.ofNat 3)),v1,v1,h1,AVal.fmw (fun(x:Nat)=>a) 5 1] 29 (ATot.n (1+1+1+1+1)))) (Tr.node (some (ABlk.row [m1,u1,u1,m1,m1,AVal.lit c1,v,v1,v1,h1] 173 w1)) (Tr.node (some (ABlk.row [AVal.ptr 1 0,q1,q1,m1,m1,w,v,z,v1,h1] 173 w1)) Tr.nil Tr.nil) Tr.nil) (Tr.node (some (ABlk.row a 29 (ATot.n 5))) (Tr.node (some (ABlk.row [u1,AVal.ptr (3+1+1) 0,AVal.ptr (3+1+1+1) 0,m1,m1,w,v,y,v1,p] 173 w1)) Tr.nil Tr.nil) Tr.nil)) 7 [] [] noSt) p (qV x_1.1 x_1.snd.1 x_1.snd.snd.1 x_1.snd.2.snd 2 4 3 [0,1,2]) [(0,Nm.fz 2),(0,Nm.fz 0),(4,Nm.id (3+1+1+1)),(3,Nm.id (3+1+1)),(2,Nm.id (3+1)),(1,Nm.id 3),(0,Nm.id 1)]/\True
theorem w_F(T:TD):TabOk Tryz.prog (miU T):=by
 refine⟨fun f s h=>?_,fun f s h=>?_⟩
 ·unfold miU at h
  simp only at h
  split at h
  ·cases h;exact b_z e_D (F_a T).1
  ·cases h
 ·cases h
theorem I_x(T:TD)(h:Nat->Nat->By)(t:Nat->Nat->By)(C:Nat->Nat)(n:Nat)(hd:(0<n/\n<=1000)/\∀i,i<n->(0<C i/\C i<=1000)/\∀j,j<C i->thd (h i j)):miR T h t C n:=by
 unfold miR
 simp only[a_V,sj1,exists_eq_left',sj6]
 exact⟨hd,l_j,p_j rfl rfl rfl⟩
theorem F_b(T:TD):(miS T).Body Tryz.prog 30/\(miS T).BodyD Tryz.prog 30:=by
 refine a_c (fn:=Tryz.f30) (b:=a_b Tryz.f30) (LT:=fun _=>[]) a_l (w_F T) 1000 (fun a ha=>LTok.nil) aa aa ?_
 exact fun a ha=>Ho.of (miR T a.1 a.2.1 a.2.2.1 a.2.2.2) aa (I_x T a.1 a.2.1 a.2.2.1 a.2.2.2 ha)
end Tk

