/- Lemmas of this claim; the last text says what is proved. -/
import Derived.Test.YtblencgndjjleaaGreatDoorK42
set_option linter.all false
set_option maxRecDepth 1000000
namespace Tk
open Go Go.Sx Go.Proofs
open Q
variable [Syms]
def F_B(T:TD):Prop:=
 letI d2:=T.C 0;letI a2:=noSt=noSt;letI b2:=Int.ofNat 1;letI c2:=AVal.str [];letI z1:=Int.ofNat d2;letI y1:=[(116:UInt8),114];letI w1:=([]:List UInt8)=[];letI u1:=Value.int .i64 (Int.ofNat 0);letI v1:=Value.int .i64 b2;letI t1:=Value.int .i64 (Int.ofNat T.R);letI s1:=AVal.lit (Value.slice none 0 0);letI r1:=Value.int .i64 z1;letI q1:=AVal.lit v1;letI p1:=decide (Int.ofNat 0<z1);letI n1:=y1=y1;letI h1:=RowX.mk (T.4 0) (T.12 0) (T.13 0) (T.14 0) (T.15 0) d2;letI m1:=u1=u1;letI b1:=h1.c;letI c1:=h1.r;letI d1:=h1.t;letI e1:=h1.h;letI f1:=h1.a;letI g1:=t1=t1;letI a1:=r1=r1;letI z:=AVal.str (d1 0);letI y:=AVal.lit (Value.bool (e1 0));letI v:=AVal.lit (Value.int .i64 (b1 0));letI w:=AVal.lit (Value.int .i64 (c1 0));letI u:=j_g y;letI q:=k_d v;letI s:=k_d w;letI p:=(q,s);letI m:=p.fst;letI n:=p.snd;letI g:=(p_C z,u,q,s);letI e:=fun(i:Nat)=>letI k1:=RowX.mk (T.4 i) (T.12 i) (T.13 i) (T.14 i) (T.15 i) (T.C i);AVal.fmw (fun(j:Nat)=>[AVal.str (k1.t j),AVal.lit (Value.bool (k1.h j)),AVal.str (k1.a j),AVal.lit (Value.int .i64 (k1.c j)),AVal.lit (Value.int .i64 (k1.r j))]) 5 (T.C i);letI d:=∀(k:Nat),letI f:=[AVal.str (d1 k),AVal.lit (Value.bool (e1 k)),AVal.str (f1 k),AVal.lit (Value.int .i64 (b1 k)),AVal.lit (Value.int .i64 (c1 k))];k<d2->SubL 0 f f;letI b:=SubF e e T.R [];br p1 (gd p1 (a2/\(m<=b2/\n<=b2)/\SubL 0 [AVal.agg [z,y,AVal.str (f1 0),v,w]] [AVal.agg [AVal.str g.fst,AVal.lit (Value.bool (u,q,s).fst),c2,AVal.lit (Value.int .i64 m),AVal.lit (Value.int .i64 n)]]/\∀(x:By×Bool×Int×Int),x=g->(∃(j':Unit),True/\d2+1<d2+1/\a2/\T.R=T.R/\b/\g1/\m1/\d2=d2/\d/\a1/\v1=u1/\m1/\n1/\w1/\False)\/∃(j':Nat),(0<j'/\j'<=d2)/\d2-j'<d2+1/\a2/\T.R=T.R/\b/\g1/\m1/\d2=d2/\d/\a1/\v1=Value.int .i64 (Int.ofNat j')/\m1/\n1/\w1/\gd (Nat.beq 1 j') (j'=1/\m1/\(bif x.2.fst then[(116:UInt8),104] else[(116:UInt8),100])=hT T 0 0/\w1/\kidN x.fst=kidN (T.tx 0 0)/\(∀(k:Nat),k<kidN x.fst->SubL 0 [q1,c2,AVal.str x.fst,s1,s1] [q1,c2,AVal.str (T.tx 0 0),s1,s1])/\True))) ((∃(x:Unit),True/\a2/\T.R=T.R/\b/\g1/\m1/\m1/\n1/\w1/\d2=0/\True)\/False)
def F_C(T:TD)(j:Nat):Prop:=
 letI f2:=T.C 0;letI g2:=j+1;letI c2:=noSt=noSt;letI d2:=Int.ofNat 1;letI e2:=AVal.str [];letI b2:=Int.ofNat f2;letI a2:=[(116:UInt8),114];letI z1:=([]:List UInt8)=[];letI y1:=Value.int .i64 (Int.ofNat 0);letI w1:=Value.int .i64 (Int.ofNat T.R);letI v1:=AVal.lit (Value.slice none 0 0);letI u1:=Value.int .i64 b2;letI t1:=AVal.lit (Value.int .i64 d2);letI s1:=decide (Int.ofNat j<b2);letI r1:=a2=a2;letI q1:=Value.int .i64 (IntKind.wrap .i64 (Int.ofNat g2));letI m1:=RowX.mk (T.4 0) (T.12 0) (T.13 0) (T.14 0) (T.15 0) f2;letI p1:=y1=y1;letI d1:=m1.c;letI e1:=m1.r;letI f1:=m1.t;letI g1:=m1.h;letI h1:=m1.a;letI k1:=w1=w1;letI c1:=u1=u1;letI b1:=AVal.str (f1 j);letI a1:=AVal.lit (Value.bool (g1 j));letI y:=AVal.lit (Value.int .i64 (d1 j));letI z:=AVal.lit (Value.int .i64 (e1 j));letI w:=j_g a1;letI u:=k_d y;letI v:=k_d z;letI s:=(u,v);letI p:=s.fst;letI q:=s.snd;letI m:=(p_C b1,w,u,v);letI f:=fun(i:Nat)=>letI n1:=RowX.mk (T.4 i) (T.12 i) (T.13 i) (T.14 i) (T.15 i) (T.C i);AVal.fmw (fun(j:Nat)=>[AVal.str (n1.t j),AVal.lit (Value.bool (n1.h j)),AVal.str (n1.a j),AVal.lit (Value.int .i64 (n1.c j)),AVal.lit (Value.int .i64 (n1.r j))]) 5 (T.C i);letI e:=∀(k:Nat),letI n:=[AVal.lit y1,AVal.str (hT T 0 k),e2,v1,AVal.fmw (fun(x:Nat)=>[t1,e2,AVal.str (T.tx 0 k),v1,v1]) 5 (kidN (T.tx 0 k))];k<j->SubL 0 n n;letI d:=∀(k:Nat),letI g:=[AVal.str (f1 k),AVal.lit (Value.bool (g1 k)),AVal.str (h1 k),AVal.lit (Value.int .i64 (d1 k)),AVal.lit (Value.int .i64 (e1 k))];k<f2->SubL 0 g g;letI b:=SubF f f T.R [];br s1 (gd s1 (c2/\(p<=d2/\q<=d2)/\SubL 0 [AVal.agg [b1,a1,AVal.str (h1 j),y,z]] [AVal.agg [AVal.str m.fst,AVal.lit (Value.bool (w,u,v).fst),e2,AVal.lit (Value.int .i64 p),AVal.lit (Value.int .i64 q)]]/\∀(x:By×Bool×Int×Int),x=m->gd (Nat.beq j j&&(Nat.ble (g2*7+j+1+j+1+j+1+j+1+j+1+j+1+j+1+j+1+j+1+j+1+j+1+j+1+j+1+j+1+j+1+j+1+j+1+j+1+j+1+j+1+j+1+j+1+j+1+j+1+j+1+j+1+j+1+j+1+j+1+j+1+j+1+j+1+j+1+j+1+j+1+j+1+j+1+j+1+j+1+j+1+j+1+j+1+j+1+j+1+j+1+j+1+j+1+j+1+j+1+j+1+j+1+j+1+j+1+j+1+j+1+j+1+j+1+j+1+j+1+j+1+j+1+j+1+j+1+j+1+j+1+j+1+j+1+j+1+j+1+j+1+j+1+j+1+j+1+j+1+j+1+j+1+j+1+j+1+j+1+j+1+j+1) 140737488355328&&(Nat.ble g2 140737488355328&&true))) ((∃(j':Unit),True/\f2+1<f2-j/\c2/\T.R=T.R/\b/\k1/\p1/\f2=f2/\d/\c1/\q1=y1/\p1/\r1/\z1/\False)\/∃(j':Nat),(0<j'/\j'<=f2)/\f2-j'<f2-j/\c2/\T.R=T.R/\b/\k1/\p1/\f2=f2/\d/\c1/\q1=Value.int .i64 (Int.ofNat j')/\p1/\r1/\z1/\gd (Nat.beq g2 j') (e/\j'=g2/\p1/\(bif x.2.fst then[(116:UInt8),104] else[(116:UInt8),100])=hT T 0 j/\z1/\kidN x.fst=kidN (T.tx 0 j)/\(∀(k:Nat),k<kidN x.fst->SubL 0 [t1,e2,AVal.str x.fst,v1,v1] [t1,e2,AVal.str (T.tx 0 j),v1,v1])/\True)))) ((∃(x:Unit),True/\c2/\T.R=T.R/\b/\k1/\p1/\p1/\r1/\z1/\j=f2/\e/\f2=j/\True)\/False)
def F_D(T:TD)(i:Nat):Prop:=
 letI m2:=T.C i;letI f2:=noSt=noSt;letI g2:=Int.ofNat 1;letI h2:=AVal.str [];letI k2:=Nat.beq i i;letI e2:=Int.ofNat m2;letI d2:=[(116:UInt8),114];letI c2:=([]:List UInt8)=[];letI z1:=Value.int .i64 (Int.ofNat i);letI a2:=Value.int .i64 g2;letI b2:=Value.int .i64 (Int.ofNat 0);letI y1:=Value.int .i64 (Int.ofNat T.R);letI w1:=AVal.lit (Value.slice none 0 0);letI v1:=Value.int .i64 e2;letI t1:=AVal.lit a2;letI u1:=AVal.lit b2;letI s1:=decide (Int.ofNat 0<e2);letI r1:=d2=d2;letI m1:=RowX.mk (T.4 i) (T.12 i) (T.13 i) (T.14 i) (T.15 i) m2;letI p1:=z1=z1;letI q1:=b2=b2;letI d1:=m1.c;letI e1:=m1.r;letI f1:=m1.t;letI g1:=m1.h;letI h1:=m1.a;letI k1:=y1=y1;letI c1:=v1=v1;letI b1:=AVal.str (f1 0);letI a1:=AVal.lit (Value.bool (g1 0));letI y:=AVal.lit (Value.int .i64 (d1 0));letI z:=AVal.lit (Value.int .i64 (e1 0));letI w:=j_g a1;letI u:=k_d y;letI v:=k_d z;letI s:=(u,v);letI p:=s.fst;letI q:=s.snd;letI n:=(p_C b1,w,u,v);letI f:=fun(i:Nat)=>letI n1:=RowX.mk (T.4 i) (T.12 i) (T.13 i) (T.14 i) (T.15 i) (T.C i);AVal.fmw (fun(j:Nat)=>[AVal.str (n1.t j),AVal.lit (Value.bool (n1.h j)),AVal.str (n1.a j),AVal.lit (Value.int .i64 (n1.c j)),AVal.lit (Value.int .i64 (n1.r j))]) 5 (T.C i);letI e:=∀(k:Nat),letI m:=[AVal.str (f1 k),AVal.lit (Value.bool (g1 k)),AVal.str (h1 k),AVal.lit (Value.int .i64 (d1 k)),AVal.lit (Value.int .i64 (e1 k))];k<m2->SubL 0 m m;letI d:=(∀(k:Nat),letI g:=[u1,AVal.str d2,h2,w1,AVal.fmw (fun(j:Nat)=>[u1,AVal.str (hT T k j),h2,w1,AVal.fmw (fun(x:Nat)=>[t1,h2,AVal.str (T.tx k j),w1,w1]) 5 (kidN (T.tx k j))]) 5 (T.C k)];k<i->SubL 0 g g)/\i=i/\True;letI b:=SubF f f T.R [];br s1 (gd s1 (f2/\(p<=g2/\q<=g2)/\SubL 0 [AVal.agg [b1,a1,AVal.str (h1 0),y,z]] [AVal.agg [AVal.str n.fst,AVal.lit (Value.bool (w,u,v).fst),h2,AVal.lit (Value.int .i64 p),AVal.lit (Value.int .i64 q)]]/\∀(x:By×Bool×Int×Int),x=n->(∃(j':Unit),True/\m2+1<m2+1/\f2/\T.R=T.R/\b/\k1/\p1/\m2=m2/\e/\c1/\a2=b2/\gd k2 (q1/\r1/\c2/\False))\/∃(j':Nat),(0<j'/\j'<=m2)/\m2-j'<m2+1/\f2/\T.R=T.R/\b/\k1/\p1/\m2=m2/\e/\c1/\a2=Value.int .i64 (Int.ofNat j')/\gd k2 (q1/\r1/\c2/\gd (Nat.beq 1 j') (j'=1/\q1/\(bif x.2.fst then[(116:UInt8),104] else[(116:UInt8),100])=hT T i 0/\c2/\kidN x.fst=kidN (T.tx i 0)/\(∀(k:Nat),k<kidN x.fst->SubL 0 [t1,h2,AVal.str x.fst,w1,w1] [t1,h2,AVal.str (T.tx i 0),w1,w1])/\d)))) ((∃(x:Unit),True/\f2/\T.R=T.R/\b/\k1/\p1/\gd k2 (q1/\r1/\c2/\m2=0/\d))\/False)
def F_E(T:TD)(i:Nat)(j:Nat):Prop:=
 letI p2:=T.C i;letI q2:=j+1;letI h2:=noSt=noSt;letI k2:=Int.ofNat 1;letI m2:=AVal.str [];letI n2:=Nat.beq i i;letI g2:=Int.ofNat p2;letI f2:=[(116:UInt8),114];letI e2:=([]:List UInt8)=[];letI c2:=Value.int .i64 (Int.ofNat i);letI d2:=Value.int .i64 (Int.ofNat 0);letI b2:=Value.int .i64 (Int.ofNat T.R);letI a2:=AVal.lit (Value.slice none 0 0);letI z1:=Value.int .i64 g2;letI w1:=AVal.lit d2;letI y1:=AVal.lit (Value.int .i64 k2);letI v1:=decide (Int.ofNat j<g2);letI u1:=f2=f2;letI t1:=Value.int .i64 (IntKind.wrap .i64 (Int.ofNat q2));letI p1:=RowX.mk (T.4 i) (T.12 i) (T.13 i) (T.14 i) (T.15 i) p2;letI r1:=c2=c2;letI s1:=d2=d2;letI f1:=p1.c;letI g1:=p1.r;letI h1:=p1.t;letI k1:=p1.h;letI m1:=p1.a;letI n1:=b2=b2;letI e1:=z1=z1;letI d1:=AVal.str (h1 j);letI c1:=AVal.lit (Value.bool (k1 j));letI a1:=AVal.lit (Value.int .i64 (f1 j));letI b1:=AVal.lit (Value.int .i64 (g1 j));letI z:=j_g c1;letI w:=k_d a1;letI y:=k_d b1;letI v:=(w,y);letI s:=v.fst;letI u:=v.snd;letI p:=(p_C d1,z,w,y);letI g:=fun(i:Nat)=>letI q1:=RowX.mk (T.4 i) (T.12 i) (T.13 i) (T.14 i) (T.15 i) (T.C i);AVal.fmw (fun(j:Nat)=>[AVal.str (q1.t j),AVal.lit (Value.bool (q1.h j)),AVal.str (q1.a j),AVal.lit (Value.int .i64 (q1.c j)),AVal.lit (Value.int .i64 (q1.r j))]) 5 (T.C i);letI f:=∀(k:Nat),letI q:=[w1,AVal.str (hT T i k),m2,a2,AVal.fmw (fun(x:Nat)=>[y1,m2,AVal.str (T.tx i k),a2,a2]) 5 (kidN (T.tx i k))];k<j->SubL 0 q q;letI e:=∀(k:Nat),letI n:=[AVal.str (h1 k),AVal.lit (Value.bool (k1 k)),AVal.str (m1 k),AVal.lit (Value.int .i64 (f1 k)),AVal.lit (Value.int .i64 (g1 k))];k<p2->SubL 0 n n;letI d:=(∀(k:Nat),letI m:=[w1,AVal.str f2,m2,a2,AVal.fmw (fun(j:Nat)=>[w1,AVal.str (hT T k j),m2,a2,AVal.fmw (fun(x:Nat)=>[y1,m2,AVal.str (T.tx k j),a2,a2]) 5 (kidN (T.tx k j))]) 5 (T.C k)];k<i->SubL 0 m m)/\i=i/\True;letI b:=SubF g g T.R [];br v1 (gd v1 (h2/\(s<=k2/\u<=k2)/\SubL 0 [AVal.agg [d1,c1,AVal.str (m1 j),a1,b1]] [AVal.agg [AVal.str p.fst,AVal.lit (Value.bool (z,w,y).fst),m2,AVal.lit (Value.int .i64 s),AVal.lit (Value.int .i64 u)]]/\∀(x:By×Bool×Int×Int),x=p->gd (Nat.beq j j&&(Nat.ble (q2*7+j+1+j+1+j+1+j+1+j+1+j+1+j+1+j+1+j+1+j+1+j+1+j+1+j+1+j+1+j+1+j+1+j+1+j+1+j+1+j+1+j+1+j+1+j+1+j+1+j+1+j+1+j+1+j+1+j+1+j+1+j+1+j+1+j+1+j+1+j+1+j+1+j+1+j+1+j+1+j+1+j+1+j+1+j+1+j+1+j+1+j+1+j+1+j+1+j+1+j+1+j+1+j+1+j+1+j+1+j+1+j+1+j+1+j+1+j+1+j+1+j+1+j+1+j+1+j+1+j+1+j+1+j+1+j+1+j+1+j+1+j+1+j+1+j+1+j+1+j+1+j+1+j+1+j+1+j+1+j+1+j+1) 140737488355328&&(Nat.ble q2 140737488355328&&true))) ((∃(j':Unit),True/\p2+1<p2-j/\h2/\T.R=T.R/\b/\n1/\r1/\p2=p2/\e/\e1/\t1=d2/\gd n2 (s1/\u1/\e2/\False))\/∃(j':Nat),(0<j'/\j'<=p2)/\p2-j'<p2-j/\h2/\T.R=T.R/\b/\n1/\r1/\p2=p2/\e/\e1/\t1=Value.int .i64 (Int.ofNat j')/\gd n2 (s1/\u1/\e2/\gd (Nat.beq q2 j') (f/\j'=q2/\s1/\(bif x.2.fst then[(116:UInt8),104] else[(116:UInt8),100])=hT T i j/\e2/\kidN x.fst=kidN (T.tx i j)/\(∀(k:Nat),k<kidN x.fst->SubL 0 [y1,m2,AVal.str x.fst,a2,a2] [y1,m2,AVal.str (T.tx i j),a2,a2])/\d))))) ((∃(x:Unit),True/\h2/\T.R=T.R/\b/\n1/\r1/\gd n2 (s1/\u1/\e2/\j=p2/\f/\p2=j/\d))\/False)
def F_F(T:TD):Prop:=
 letI v1:=T.C 0;letI u1:=T.R+1;letI t1:=T.R=T.R;letI r1:=noSt=noSt;letI s1:=AVal.str [];letI q1:=[(116:UInt8),114];letI p1:=([]:List UInt8)=[];letI m1:=Value.int .i64 (Int.ofNat 0);letI n1:=Value.int .i64 (Int.ofNat 1);letI k1:=Value.int .i64 (Int.ofNat T.R);letI h1:=AVal.lit (Value.slice none 0 0);letI g1:=Value.int .i64 (Int.ofNat v1);letI f1:=decide (Int.ofNat 0<Int.ofNat T.R);letI d1:=AVal.lit m1;letI e1:=AVal.lit n1;letI c1:=q1=q1;letI y:=m1=m1;letI z:=RowX.mk (T.4 0) (T.12 0) (T.13 0) (T.14 0) (T.15 0) v1;letI n:=k1=k1;letI p:=z.t;letI q:=z.h;letI s:=z.a;letI u:=z.c;letI v:=z.r;letI d:=fun(i:Nat)=>letI w:=RowX.mk (T.4 i) (T.12 i) (T.13 i) (T.14 i) (T.15 i) (T.C i);AVal.fmw (fun(j:Nat)=>[AVal.str (w.t j),AVal.lit (Value.bool (w.h j)),AVal.str (w.a j),AVal.lit (Value.int .i64 (w.c j)),AVal.lit (Value.int .i64 (w.r j))]) 5 (T.C i);letI b:=SubF d d T.R [];br f1 (gd f1 (gd (Nat.blt 0 T.R) ((True/\(r1/\t1/\b/\n/\y/\v1=v1/\(∀(k:Nat),letI f:=[AVal.str (p k),AVal.lit (Value.bool (q k)),AVal.str (s k),AVal.lit (Value.int .i64 (u k)),AVal.lit (Value.int .i64 (v k))];k<v1->SubL 0 f f)/\g1=g1/\y/\y/\c1/\p1/\True)/\∀(x:Unit),True->(∃(j':Unit),True/\u1<u1/\r1/\t1/\b/\n/\n1=m1/\False)\/∃(j':Nat),(0<j'/\j'<=T.R)/\T.R-j'<u1/\r1/\t1/\b/\n/\n1=Value.int .i64 (Int.ofNat j')/\gd (Nat.beq 1 j') (j'=0+1/\y/\c1/\p1/\v1=v1/\(∀(k:Nat),letI g:=[d1,AVal.str (hT T 0 k),s1,h1,AVal.fmw (fun(x:Nat)=>[e1,s1,AVal.str (T.tx 0 k),h1,h1]) 5 (kidN (T.tx 0 k))];k<v1->SubL 0 g g)/\True))\/∃(i:Nat),letI w1:=T.C i;letI y1:=i+1;letI b1:=Value.int .i64 (IntKind.wrap .i64 (Int.ofNat y1));letI a1:=RowX.mk (T.4 i) (T.12 i) (T.13 i) (T.14 i) (T.15 i) w1;(0<i/\i<T.R)/\True/\(r1/\t1/\b/\n/\m1=Value.int .i64 (Int.ofNat i)/\v1=w1/\(∀(k:Nat),k<v1->SubL 0 [AVal.str (p k),AVal.lit (Value.bool (q k)),AVal.str (s k),AVal.lit (Value.int .i64 (u k)),AVal.lit (Value.int .i64 (v k))] [AVal.str (a1.t k),AVal.lit (Value.bool (a1.h k)),AVal.str (a1.a k),AVal.lit (Value.int .i64 (a1.c k)),AVal.lit (Value.int .i64 (a1.r k))])/\g1=Value.int .i64 (Int.ofNat w1)/\y/\False)/\∀(x:Unit),True->gd (Nat.beq i i&&(Nat.ble (y1*7+i+1+i+1+i+1+i+1+i+1+i+1+i+1+i+1+i+1+i+1+i+1+i+1+i+1+i+1+i+1+i+1+i+1+i+1+i+1+i+1+i+1+i+1+i+1+i+1+i+1+i+1+i+1+i+1+i+1+i+1+i+1+i+1+i+1+i+1+i+1+i+1+i+1+i+1+i+1+i+1+i+1+i+1+i+1+i+1+i+1+i+1+i+1+i+1+i+1+i+1+i+1+i+1+i+1+i+1+i+1+i+1+i+1+i+1+i+1+i+1+i+1+i+1+i+1+i+1+i+1+i+1+i+1+i+1+i+1+i+1+i+1+i+1+i+1+i+1+i+1+i+1+i+1+i+1+i+1+i+1+i+1) 140737488355328&&(Nat.ble y1 140737488355328&&true))) ((∃(j':Unit),True/\u1<u1/\r1/\t1/\b/\n/\b1=m1/\False)\/∃(j':Nat),(0<j'/\j'<=T.R)/\T.R-j'<u1/\r1/\t1/\b/\n/\b1=Value.int .i64 (Int.ofNat j')/\gd (Nat.beq y1 j') ((∀(k:Nat),letI e:=[d1,AVal.str q1,s1,h1,AVal.fmw (fun(j:Nat)=>[d1,AVal.str (hT T k j),s1,h1,AVal.fmw (fun(x:Nat)=>[e1,s1,AVal.str (T.tx k j),h1,h1]) 5 (kidN (T.tx k j))]) 5 (T.C k)];k<i->SubL 0 e e)/\j'=y1/\y/\c1/\p1/\w1=w1/\(∀(k:Nat),letI m:=[d1,AVal.str (hT T i k),s1,h1,AVal.fmw (fun(x:Nat)=>[e1,s1,AVal.str (T.tx i k),h1,h1]) 5 (kidN (T.tx i k))];k<w1->SubL 0 m m)/\True))))) ((∃(x:Unit),True/\r1/\T.R=0/\True)\/False)
def F_G(T:TD)(i:Nat):Prop:=
 letI b2:=T.C i;letI c2:=T.C 0;letI y1:=T.R=T.R;letI v1:=noSt=noSt;letI w1:=AVal.str [];letI u1:=[(116:UInt8),114];letI t1:=([]:List UInt8)=[];letI q1:=Value.int .i64 (Int.ofNat i);letI r1:=Value.int .i64 (Int.ofNat 0);letI s1:=Value.int .i64 (Int.ofNat 1);letI p1:=AVal.str u1;letI n1:=Value.int .i64 (Int.ofNat T.R);letI m1:=AVal.lit (Value.slice none 0 0);letI k1:=Value.int .i64 (Int.ofNat b2);letI h1:=decide (Int.ofNat i<Int.ofNat T.R);letI f1:=AVal.lit r1;letI g1:=AVal.lit s1;letI e1:=u1=u1;letI a1:=RowX.mk (T.4 i) (T.12 i) (T.13 i) (T.14 i) (T.15 i) b2;letI b1:=RowX.mk (T.4 0) (T.12 0) (T.13 0) (T.14 0) (T.15 0) c2;letI c1:=r1=r1;letI q:=n1=n1;letI s:=a1.t;letI u:=a1.h;letI v:=a1.a;letI w:=a1.c;letI y:=a1.r;letI e:=fun(i:Nat)=>letI z:=RowX.mk (T.4 i) (T.12 i) (T.13 i) (T.14 i) (T.15 i) (T.C i);AVal.fmw (fun(j:Nat)=>[AVal.str (z.t j),AVal.lit (Value.bool (z.h j)),AVal.str (z.a j),AVal.lit (Value.int .i64 (z.c j)),AVal.lit (Value.int .i64 (z.r j))]) 5 (T.C i);letI d:=∀(k:Nat),letI f:=[f1,p1,w1,m1,AVal.fmw (fun(j:Nat)=>[f1,AVal.str (hT T k j),w1,m1,AVal.fmw (fun(x:Nat)=>[g1,w1,AVal.str (T.tx k j),m1,m1]) 5 (kidN (T.tx k j))]) 5 (T.C k)];k<i->SubL 0 f f;letI b:=SubF e e T.R [];br h1 (gd h1 (gd (Nat.blt i T.R) ((True/\(v1/\y1/\b/\q/\q1=r1/\b2=c2/\(∀(k:Nat),k<b2->SubL 0 [AVal.str (s k),AVal.lit (Value.bool (u k)),AVal.str (v k),AVal.lit (Value.int .i64 (w k)),AVal.lit (Value.int .i64 (y k))] [AVal.str (b1.t k),AVal.lit (Value.bool (b1.h k)),AVal.str (b1.a k),AVal.lit (Value.int .i64 (b1.c k)),AVal.lit (Value.int .i64 (b1.r k))])/\k1=Value.int .i64 (Int.ofNat c2)/\c1/\False)/\∀(x:Unit),True->(∃(j':Unit),True/\T.R+1<T.R-i/\v1/\y1/\b/\q/\s1=r1/\False)\/∃(j':Nat),(0<j'/\j'<=T.R)/\T.R-j'<T.R-i/\v1/\y1/\b/\q/\s1=Value.int .i64 (Int.ofNat j')/\gd (Nat.beq 1 j') (j'=0+1/\c1/\e1/\t1/\c2=c2/\(∀(k:Nat),letI n:=[f1,AVal.str (hT T 0 k),w1,m1,AVal.fmw (fun(x:Nat)=>[g1,w1,AVal.str (T.tx 0 k),m1,m1]) 5 (kidN (T.tx 0 k))];k<c2->SubL 0 n n)/\True))\/∃(i_1:Nat),letI z1:=T.C i_1;letI a2:=i_1+1;letI d1:=Value.int .i64 (IntKind.wrap .i64 (Int.ofNat a2));letI p:=RowX.mk (T.4 i_1) (T.12 i_1) (T.13 i_1) (T.14 i_1) (T.15 i_1) z1;(0<i_1/\i_1<T.R)/\True/\(v1/\y1/\b/\q/\q1=Value.int .i64 (Int.ofNat i_1)/\b2=z1/\(∀(k:Nat),k<b2->SubL 0 [AVal.str (s k),AVal.lit (Value.bool (u k)),AVal.str (v k),AVal.lit (Value.int .i64 (w k)),AVal.lit (Value.int .i64 (y k))] [AVal.str (p.t k),AVal.lit (Value.bool (p.h k)),AVal.str (p.a k),AVal.lit (Value.int .i64 (p.c k)),AVal.lit (Value.int .i64 (p.r k))])/\k1=Value.int .i64 (Int.ofNat z1)/\c1/\gd (Nat.beq i i_1) (c1/\e1/\t1/\d/\i_1=i/\True))/\∀(x:Unit),True->gd (Nat.beq i_1 i_1&&(Nat.ble (a2*6+i_1+1+i_1+1+i_1+1+i_1+1+i_1+1+i_1+1+i_1+1+i_1+1+i_1+1+i_1+1+i_1+1+i_1+1+i_1+1+i_1+1+i_1+1+i_1+1+i_1+1+i_1+1+i_1+1+i_1+1+i_1+1+i_1+1+i_1+1+i_1+1+i_1+1+i_1+1+i_1+1+i_1+1+i_1+1+i_1+1+i_1+1+i_1+1+i_1+1+i_1+1+i_1+1+i_1+1+i_1+1+i_1+1+i_1+1+i_1+1+i_1+1+i_1+1+i_1+1+i_1+1+i_1+1+i_1+1+i_1+1+i_1+1+i_1+1+i_1+1+i_1+1+i_1+1+i_1+1+i_1+1+i_1+1+i_1+1+i_1+1+i_1+1+i_1+1+i_1+1+i_1+1+i_1+1+i_1+1+i_1+1+i_1+1+i_1+1+i_1+1+i_1+1+i_1+1+i_1+1+i_1+1+i_1+1+i_1+1+i_1+1+i_1+1+i_1+1+i_1+1+i_1+1+i_1+1+i_1+1+i_1+1+i_1+1) 140737488355328&&(Nat.ble a2 140737488355328&&true))) ((∃(j':Unit),True/\T.R+1<T.R-i/\v1/\y1/\b/\q/\d1=r1/\False)\/∃(j':Nat),(0<j'/\j'<=T.R)/\T.R-j'<T.R-i/\v1/\y1/\b/\q/\d1=Value.int .i64 (Int.ofNat j')/\gd (Nat.beq a2 j') ((∀(k:Nat),letI g:=[f1,p1,w1,m1,AVal.fmw (fun(j:Nat)=>[f1,AVal.str (hT T k j),w1,m1,AVal.fmw (fun(x:Nat)=>[g1,w1,AVal.str (T.tx k j),m1,m1]) 5 (kidN (T.tx k j))]) 5 (T.C k)];k<i_1->SubL 0 g g)/\j'=a2/\c1/\e1/\t1/\z1=z1/\(∀(k:Nat),letI m:=[f1,AVal.str (hT T i_1 k),w1,m1,AVal.fmw (fun(x:Nat)=>[g1,w1,AVal.str (T.tx i_1 k),m1,m1]) 5 (kidN (T.tx i_1 k))];k<z1->SubL 0 m m)/\True))))) ((∃(x:Unit),True/\v1/\i=T.R/\d/\T.R=i/\True)\/False)
def roR(T:TD):Prop:=
 letI u:=AVal.str [];letI s:=Value.int .i64 (Int.ofNat 0);letI q:=AVal.str [(116:UInt8),114];letI p:=Value.int .i64 (Int.ofNat T.R);letI n:=AVal.lit (Value.slice none 0 0);letI g:=AVal.lit s;letI m:=AVal.lit (Value.int .i64 (Int.ofNat 1));letI b:=fun(i:Nat)=>letI f:=RowX.mk (T.4 i) (T.12 i) (T.13 i) (T.14 i) (T.15 i) (T.C i);AVal.fmw (fun(j:Nat)=>[AVal.str (f.t j),AVal.lit (Value.bool (f.h j)),AVal.str (f.a j),AVal.lit (Value.int .i64 (f.c j)),AVal.lit (Value.int .i64 (f.r j))]) 5 (T.C i);True/\(noSt=noSt/\T.R=T.R/\SubF b b T.R []/\p=p/\s=s/\True)/\∀(x:Unit),True->∃(x:Unit),True/\noSt=noSt/\(∀(i:Nat),letI d:=[g,q,u,n,AVal.fmw (fun(j:Nat)=>[g,AVal.str (hT T i j),u,n,AVal.fmw (fun(x:Nat)=>[m,u,AVal.str (T.tx i j),n,n]) 5 (kidN (T.tx i j))]) 5 (T.C i)];i<T.R->SubL 0 d d)/\True/\T.R=T.R/\(∀(k:Nat),letI e:=[g,q,u,n,AVal.fmw (fun(j:Nat)=>[g,AVal.str (hT T k j),u,n,AVal.fmw (fun(x:Nat)=>[m,u,AVal.str (T.tx k j),n,n]) 5 (kidN (T.tx k j))]) 5 (T.C k)];k<T.R->SubL 0 e e)/\True
theorem k_i(T:TD):TabOk Tryz.prog (roU T):=by
 refine⟨fun f s h=>?_,fun f s h=>?_⟩
 ·unfold roU at h
  simp only at h
  split at h
  ·cases h;exact b_z w_T (F_A T).1
  ·cases h
 ·cases h
theorem F_H(T:TD)(hd:ntT T):F_B T:=by
 unfold F_B
 have rF:∀us,SubF (fun i=>AVal.fmw (a_Z (d_q T i)) 5 (T.C i)) (fun i=>AVal.fmw (a_Z (d_q T i)) 5 (T.C i)) T.R us:=fun us i hi _=>SubA.fmw fun _ _=>a_r rfl
 have cs:∀(i k:Nat),SubL 0 (b_T (hT T i k) (T.tx i k)) (b_T (hT T i k) (T.tx i k)):=fun _ _=>a_2
 have rs:∀k,SubL 0 (rowA (hT T k) (T.tx k) (T.C k)) (rowA (hT T k) (T.tx k) (T.C k)):=fun _=>b_k
 have hR:=hd.2.1
 have hR0:=hd.1
 have c12:∀i,i<T.R->0<T.C i/\T.C i<=12:=fun i h=>⟨(hd.2.2 i h).1,(hd.2.2 i h).2.1⟩
 have al:∀i j,i<T.R->j<T.C i->T.al i j=[]:=fun i j h h'=>((hd.2.2 i h).2.2 j h').2.2.2.2
 have cc:∀i j,i<T.R->j<T.C i->T.cc i j<=1/\T.rr i j<=1:=fun i j h h'=>⟨((hd.2.2 i h).2.2 j h').2.1,((hd.2.2 i h).2.2 j h').2.2.1⟩
 have c0:=c12 0 ac
 simp only[a_V,sj1,exists_eq_left',sj6,gt_iff_lt,ge_iff_le,exists_const,Int.ofNat_le,implies_true,Bool.true_eq,Value.bool.injEq,Bool.and_eq_true,a_m,a_k,a_z]
 repeat' (first|done|omega|exact trivial|exact rfl|exact rF _|exact fun _ _=>cs _ _|exact fun _ _=>rs _|exact fun _ _=>a_r rfl|(rw[al _ _ ac ac];exact .cons (SubA.agg (a_r rfl)) .nil)|exact(cc _ _ ac ac).1|exact(cc _ _ ac ac).2|exact⟨_,rfl⟩|refine⟨1,?_⟩|intro _|refine And.intro ?_ ?_)
theorem F_I(T:TD)(j:Nat)(hd:ntT T)(h:0<j/\j<=T.C 0):F_C T j:=by
 unfold F_C
 have rF:∀us,SubF (fun i=>AVal.fmw (a_Z (d_q T i)) 5 (T.C i)) (fun i=>AVal.fmw (a_Z (d_q T i)) 5 (T.C i)) T.R us:=fun us i hi _=>SubA.fmw fun _ _=>a_r rfl
 have cs:∀(i k:Nat),SubL 0 (b_T (hT T i k) (T.tx i k)) (b_T (hT T i k) (T.tx i k)):=fun _ _=>a_2
 have rs:∀k,SubL 0 (rowA (hT T k) (T.tx k) (T.C k)) (rowA (hT T k) (T.tx k) (T.C k)):=fun _=>b_k
 have hR:=hd.2.1
 have hR0:=hd.1
 have c12:∀i,i<T.R->0<T.C i/\T.C i<=12:=fun i h=>⟨(hd.2.2 i h).1,(hd.2.2 i h).2.1⟩
 have al:∀i j,i<T.R->j<T.C i->T.al i j=[]:=fun i j h h'=>((hd.2.2 i h).2.2 j h').2.2.2.2
 have cc:∀i j,i<T.R->j<T.C i->T.cc i j<=1/\T.rr i j<=1:=fun i j h h'=>⟨((hd.2.2 i h).2.2 j h').2.1,((hd.2.2 i h).2.2 j h').2.2.1⟩
 have c0:=c12 0 ac
 have e0:j<1000->IntKind.wrap IntKind.i64 (Int.ofNat (j+1))=Int.ofNat (j+1):=fun g=>a_o ab ab
 have e0:=e0 ac
 simp only[e0]
 simp only[a_V,sj1,exists_eq_left',sj6,gt_iff_lt,ge_iff_le,exists_const,Int.ofNat_le,implies_true,Bool.true_eq,Value.bool.injEq,Bool.and_eq_true,a_m,a_k,a_z]
 repeat' (first|done|omega|exact trivial|exact rfl|exact rF _|exact fun _ _=>cs _ _|exact fun _ _=>rs _|exact fun _ _=>a_r rfl|(rw[al _ _ ac ac];exact .cons (SubA.agg (a_r rfl)) .nil)|exact(cc _ _ ac ac).1|exact(cc _ _ ac ac).2|exact⟨_,rfl⟩|refine⟨j+1,?_⟩|intro _|refine And.intro ?_ ?_)
theorem F_J(T:TD)(hd:ntT T):(roI T).Body2 (I_B T) Tryz.prog (sub (a_b Tryz.f13) [0,0,1,0,1,1,0,0,1,1,0,0,1,0,1,1]):=by
 refine LoopD.bodyH2 (root:=(a_b Tryz.f13)) (LT:=[]) [0,0,1,0,1,1,0,0,1,1,0,0,1,0,1,1] a_l (k_i T) (LTok.nil) 1000 ?_ ?_
 ·exact fun j hj=>Ho.of (F_B T) aa (F_H T hd)
 ·exact fun j hj=>Ho.of (F_C T j) aa (F_I T j hd hj)
theorem F_K(T:TD)(i:Nat)(hd:ntT T)(hi:0<i/\i<T.R):F_D T i:=by
 unfold F_D
 have rF:∀us,SubF (fun i=>AVal.fmw (a_Z (d_q T i)) 5 (T.C i)) (fun i=>AVal.fmw (a_Z (d_q T i)) 5 (T.C i)) T.R us:=fun us i hi _=>SubA.fmw fun _ _=>a_r rfl
 have cs:∀(i k:Nat),SubL 0 (b_T (hT T i k) (T.tx i k)) (b_T (hT T i k) (T.tx i k)):=fun _ _=>a_2
 have rs:∀k,SubL 0 (rowA (hT T k) (T.tx k) (T.C k)) (rowA (hT T k) (T.tx k) (T.C k)):=fun _=>b_k
 have hR:=hd.2.1
 have hR0:=hd.1
 have c12:∀i,i<T.R->0<T.C i/\T.C i<=12:=fun i h=>⟨(hd.2.2 i h).1,(hd.2.2 i h).2.1⟩
 have al:∀i j,i<T.R->j<T.C i->T.al i j=[]:=fun i j h h'=>((hd.2.2 i h).2.2 j h').2.2.2.2
 have cc:∀i j,i<T.R->j<T.C i->T.cc i j<=1/\T.rr i j<=1:=fun i j h h'=>⟨((hd.2.2 i h).2.2 j h').2.1,((hd.2.2 i h).2.2 j h').2.2.1⟩
 have c0:=c12 i ac
 simp only[a_V,sj1,exists_eq_left',sj6,gt_iff_lt,ge_iff_le,exists_const,Int.ofNat_le,implies_true,Bool.true_eq,Value.bool.injEq,Bool.and_eq_true,a_m,a_k,a_z]
 repeat' (first|done|omega|exact trivial|exact rfl|exact rF _|exact fun _ _=>cs _ _|exact fun _ _=>rs _|exact fun _ _=>a_r rfl|(rw[al _ _ ac ac];exact .cons (SubA.agg (a_r rfl)) .nil)|exact(cc _ _ ac ac).1|exact(cc _ _ ac ac).2|exact⟨_,rfl⟩|refine⟨1,?_⟩|intro _|refine And.intro ?_ ?_)
theorem F_L(T:TD)(i:Nat)(j:Nat)(hd:ntT T)(hi:0<i/\i<T.R)(h:0<j/\j<=T.C i):F_E T i j:=by
 unfold F_E
 have rF:∀us,SubF (fun i=>AVal.fmw (a_Z (d_q T i)) 5 (T.C i)) (fun i=>AVal.fmw (a_Z (d_q T i)) 5 (T.C i)) T.R us:=fun us i hi _=>SubA.fmw fun _ _=>a_r rfl
 have cs:∀(i k:Nat),SubL 0 (b_T (hT T i k) (T.tx i k)) (b_T (hT T i k) (T.tx i k)):=fun _ _=>a_2
 have rs:∀k,SubL 0 (rowA (hT T k) (T.tx k) (T.C k)) (rowA (hT T k) (T.tx k) (T.C k)):=fun _=>b_k
 have hR:=hd.2.1
 have hR0:=hd.1
 have c12:∀i,i<T.R->0<T.C i/\T.C i<=12:=fun i h=>⟨(hd.2.2 i h).1,(hd.2.2 i h).2.1⟩
 have al:∀i j,i<T.R->j<T.C i->T.al i j=[]:=fun i j h h'=>((hd.2.2 i h).2.2 j h').2.2.2.2
 have cc:∀i j,i<T.R->j<T.C i->T.cc i j<=1/\T.rr i j<=1:=fun i j h h'=>⟨((hd.2.2 i h).2.2 j h').2.1,((hd.2.2 i h).2.2 j h').2.2.1⟩
 have c0:=c12 i ac
 have e0:j<1000->IntKind.wrap IntKind.i64 (Int.ofNat (j+1))=Int.ofNat (j+1):=fun g=>a_o ab ab
 have e0:=e0 ac
 simp only[e0]
 simp only[a_V,sj1,exists_eq_left',sj6,gt_iff_lt,ge_iff_le,exists_const,Int.ofNat_le,implies_true,Bool.true_eq,Value.bool.injEq,Bool.and_eq_true,a_m,a_k,a_z]
 repeat' (first|done|omega|exact trivial|exact rfl|exact rF _|exact fun _ _=>cs _ _|exact fun _ _=>rs _|exact fun _ _=>a_r rfl|(rw[al _ _ ac ac];exact .cons (SubA.agg (a_r rfl)) .nil)|exact(cc _ _ ac ac).1|exact(cc _ _ ac ac).2|exact⟨_,rfl⟩|refine⟨j+1,?_⟩|intro _|refine And.intro ?_ ?_)
theorem F_M(T:TD)(i:Nat)(hd:ntT T)(hi:0<i/\i<T.R):(roJ T i).Body2 (I_C T i) Tryz.prog (sub (a_b Tryz.f13) [0,0,1,0,1,1,0,0,1,1,0,0,1,0,1,1]):=by
 refine LoopD.bodyH2 (root:=(a_b Tryz.f13)) (LT:=[]) [0,0,1,0,1,1,0,0,1,1,0,0,1,0,1,1] a_l (k_i T) (LTok.nil) 1000 ?_ ?_
 ·exact fun j hj=>Ho.of (F_D T i) aa (F_K T i hd hi)
 ·exact fun j hj=>Ho.of (F_E T i j) aa (F_L T i j hd hi hj)
theorem F_N(T:TD)(hd:ntT T):F_F T:=by
 unfold F_F
 have rF:∀us,SubF (fun i=>AVal.fmw (a_Z (d_q T i)) 5 (T.C i)) (fun i=>AVal.fmw (a_Z (d_q T i)) 5 (T.C i)) T.R us:=fun us i hi _=>SubA.fmw fun _ _=>a_r rfl
 have cs:∀(i k:Nat),SubL 0 (b_T (hT T i k) (T.tx i k)) (b_T (hT T i k) (T.tx i k)):=fun _ _=>a_2
 have rs:∀k,SubL 0 (rowA (hT T k) (T.tx k) (T.C k)) (rowA (hT T k) (T.tx k) (T.C k)):=fun _=>b_k
 have hR:=hd.2.1
 have hR0:=hd.1
 have c12:∀i,i<T.R->0<T.C i/\T.C i<=12:=fun i h=>⟨(hd.2.2 i h).1,(hd.2.2 i h).2.1⟩
 have al:∀i j,i<T.R->j<T.C i->T.al i j=[]:=fun i j h h'=>((hd.2.2 i h).2.2 j h').2.2.2.2
 have cc:∀i j,i<T.R->j<T.C i->T.cc i j<=1/\T.rr i j<=1:=fun i j h h'=>⟨((hd.2.2 i h).2.2 j h').2.1,((hd.2.2 i h).2.2 j h').2.2.1⟩
 have c0:=c12 0 ac
 simp only[a_V,sj1,exists_eq_left',sj6,gt_iff_lt,ge_iff_le,exists_const,Int.ofNat_le,implies_true,Bool.true_eq,Value.bool.injEq,Bool.and_eq_true,a_m,a_k,a_z]
 repeat' (first|done|omega|exact trivial|exact rfl|exact rF _|exact fun _ _=>cs _ _|exact fun _ _=>rs _|exact fun _ _=>a_r rfl|(rw[al _ _ ac ac];exact .cons (SubA.agg (a_r rfl)) .nil)|exact(cc _ _ ac ac).1|exact(cc _ _ ac ac).2|exact⟨_,rfl⟩|refine⟨1,?_⟩|intro _|refine And.intro ?_ ?_)
theorem F_O(T:TD)(i:Nat)(hd:ntT T)(h:0<i/\i<=T.R):F_G T i:=by
 unfold F_G
 have rF:∀us,SubF (fun i=>AVal.fmw (a_Z (d_q T i)) 5 (T.C i)) (fun i=>AVal.fmw (a_Z (d_q T i)) 5 (T.C i)) T.R us:=fun us i hi _=>SubA.fmw fun _ _=>a_r rfl
 have cs:∀(i k:Nat),SubL 0 (b_T (hT T i k) (T.tx i k)) (b_T (hT T i k) (T.tx i k)):=fun _ _=>a_2
 have rs:∀k,SubL 0 (rowA (hT T k) (T.tx k) (T.C k)) (rowA (hT T k) (T.tx k) (T.C k)):=fun _=>b_k
 have hR:=hd.2.1
 have hR0:=hd.1
 have c12:∀i,i<T.R->0<T.C i/\T.C i<=12:=fun i h=>⟨(hd.2.2 i h).1,(hd.2.2 i h).2.1⟩
 have al:∀i j,i<T.R->j<T.C i->T.al i j=[]:=fun i j h h'=>((hd.2.2 i h).2.2 j h').2.2.2.2
 have cc:∀i j,i<T.R->j<T.C i->T.cc i j<=1/\T.rr i j<=1:=fun i j h h'=>⟨((hd.2.2 i h).2.2 j h').2.1,((hd.2.2 i h).2.2 j h').2.2.1⟩
 have e0:i<1000->IntKind.wrap IntKind.i64 (Int.ofNat (i+1))=Int.ofNat (i+1):=fun g=>a_o ab ab
 have e0:=e0 ac
 simp only[e0]
 simp only[a_V,sj1,exists_eq_left',sj6,gt_iff_lt,ge_iff_le,exists_const,Int.ofNat_le,implies_true,Bool.true_eq,Value.bool.injEq,Bool.and_eq_true,a_m,a_k,a_z]
 refine⟨fun g=>⟨g,g,i,⟨h.1,g⟩,?_⟩,?_⟩
 repeat' (first|done|omega|exact trivial|exact rfl|exact rF _|exact fun _ _=>cs _ _|exact fun _ _=>rs _|exact fun _ _=>a_r rfl|(rw[al _ _ ac ac];exact .cons (SubA.agg (a_r rfl)) .nil)|exact(cc _ _ ac ac).1|exact(cc _ _ ac ac).2|exact⟨_,rfl⟩|refine⟨i+1,?_⟩|intro _|refine And.intro ?_ ?_)
theorem F_P(T:TD)(hd:ntT T):(roD T).Body2 (I_A T) Tryz.prog (sub (a_b Tryz.f13) [0,0,1,0,1,1]):=by
 refine LoopD.bodyH2 (root:=(a_b Tryz.f13)) (LT:=[([0,1,0,1,1,0,0,1,1,0,0,1,0,1,1],(fun fr H K=>(roI T).at () fr H K\/∃i,(0<i/\i<T.R)/\(roJ T i).at () fr H K))]) [0,0,1,0,1,1] a_l (k_i T) (LTok.cons (fun fr H K (hk:(roI T).at () fr H K\/∃i,(0<i/\i<T.R)/\(roJ T i).at () fr H K)=>hk.elim (fun h=>LoopD.ok2 (F_J T hd) h) (fun⟨i,hi,h⟩=>LoopD.ok2 (F_M T i hd hi) h)) (LTok.nil)) 1000 ?_ ?_
 ·exact fun j hj=>Ho.of (F_F T) aa (F_N T hd)
 ·exact fun j hj=>Ho.of (F_G T j) aa (F_O T j hd hj)
theorem I_S(T:TD)(hd:ntT T):roR T:=by
 unfold roR
 have rF:∀us,SubF (fun i=>AVal.fmw (a_Z (d_q T i)) 5 (T.C i)) (fun i=>AVal.fmw (a_Z (d_q T i)) 5 (T.C i)) T.R us:=fun us i hi _=>SubA.fmw fun _ _=>a_r rfl
 have cs:∀(i k:Nat),SubL 0 (b_T (hT T i k) (T.tx i k)) (b_T (hT T i k) (T.tx i k)):=fun _ _=>a_2
 have rs:∀k,SubL 0 (rowA (hT T k) (T.tx k) (T.C k)) (rowA (hT T k) (T.tx k) (T.C k)):=fun _=>b_k
 have hR:=hd.2.1
 have hR0:=hd.1
 have c12:∀i,i<T.R->0<T.C i/\T.C i<=12:=fun i h=>⟨(hd.2.2 i h).1,(hd.2.2 i h).2.1⟩
 have al:∀i j,i<T.R->j<T.C i->T.al i j=[]:=fun i j h h'=>((hd.2.2 i h).2.2 j h').2.2.2.2
 have cc:∀i j,i<T.R->j<T.C i->T.cc i j<=1/\T.rr i j<=1:=fun i j h h'=>⟨((hd.2.2 i h).2.2 j h').2.1,((hd.2.2 i h).2.2 j h').2.2.1⟩
 simp only[a_V,sj1,exists_eq_left',sj6,gt_iff_lt,ge_iff_le,exists_const,Int.ofNat_le,implies_true,Bool.true_eq,Value.bool.injEq,Bool.and_eq_true,a_m,a_k,a_z]
 repeat' (first|done|omega|exact trivial|exact rfl|exact rF _|exact fun _ _=>cs _ _|exact fun _ _=>rs _|exact fun _ _=>a_r rfl|(rw[al _ _ ac ac];exact .cons (SubA.agg (a_r rfl)) .nil)|exact(cc _ _ ac ac).1|exact(cc _ _ ac ac).2|exact⟨_,rfl⟩|refine⟨(),?_⟩|intro _|refine And.intro ?_ ?_)
theorem w_U:a_t Tryz.prog 13:=⟨Tryz.f13,aa,rfl,aa⟩
theorem F_Q(T:TD):(roS T).Body Tryz.prog 13/\(roS T).BodyD Tryz.prog 13:=by
 refine a_c (fn:=Tryz.f13) (b:=a_b Tryz.f13) (LT:=fun _=>[([0,1,0,1,1],(roD T).at ())]) a_l (k_i T) 1000 (fun _ ha=>LTok.cons (fun fr H K hk=>LoopD.ok2 (F_P T ha) hk) (LTok.nil)) aa aa ?_
 exact fun a ha=>Ho.of (roR T) aa (I_S T ha)
end Tk

