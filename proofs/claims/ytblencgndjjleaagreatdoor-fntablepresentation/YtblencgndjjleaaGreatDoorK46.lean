/- Lemmas of this claim; the last text says what is proved. -/
import Derived.Test.YtblencgndjjleaaGreatDoorK45
set_option linter.all false
set_option maxRecDepth 1000000
namespace Tk
open Go Go.Sx Go.Proofs
open Q
variable [Syms]
def G_i(T:TD)(l:By)(k:Nat):Prop:=
 letI k1:=List UInt8;letI h1:=noSt=noSt;letI g1:=List.length l;letI e1:=g1-k;letI v:=Nat×By×List By;letI u:=h1/\False;letI t:=Int.ofNat g1;letI s:=IntKind.wrap .i64 (Int.ofNat (k+1));letI q:=UInt8.toNat (List.getD l k (0:UInt8));letI p:=decide (Int.ofNat k<t);letI n:=Int.ofNat q;letI m:=Value.int .i64 s;letI h:=decide (s<t);letI g:=UInt8.toNat (List.getD l (Int.toNat s) (0:UInt8));letI f:=Int.ofNat g;letI e:=∃(j':Nat),(0<j'/\j'<=g1)/\g1-j'<e1/\u;letI d:=Value.int IntKind.u8 f;letI c:=decide (Int.ofNat 0<=s)&&h;letI b:=(∃(j':Nat×List By),(0<j'.fst/\j'.fst<=g1/\0<List.length j'.2/\List.length j'.2<=j'.fst/\lnL g1 j'.2)/\g1-j'.fst<e1/\u)\/(∃(j':v),letI w:=List.length j'.2.fst;letI y:=List.length j'.snd.2;(0<j'.fst/\j'.fst<=g1/\0<w/\w<=j'.fst/\ASC j'.2.fst/\0<y/\y<=j'.fst/\lnL g1 j'.snd.2)/\g1-j'.fst<e1/\u)\/False;letI a:=gd p (br (n==Int.ofNat 124) (h1/\(ASC []/\0<=1099511627776)/\([]:k1)=[]/\∀(x:By×Int),Nat.le (List.length x.fst) 0->e\/(∃(j':Nat×By),letI c1:=List.length j'.snd;(0<j'.fst/\j'.fst<=g1/\0<c1/\c1<=j'.fst/\ASC j'.snd)/\g1-j'.fst<e1/\u)\/(∃(j':Nat×List By),letI f1:=List.length j'.2;(0<j'.fst/\j'.fst<=g1/\0<f1/\f1<=j'.fst/\lnL g1 j'.2)/\g1-j'.fst<e1/\h1/\gd (Nat.beq 1 f1) (l=l/\m=Value.int .i64 (Int.ofNat j'.fst)/\f1=1/\x.fst=atS j'.2 0/\True))\/(∃(j':v),letI z:=List.length j'.2.fst;letI a1:=List.length j'.snd.2;(0<j'.fst/\j'.fst<=g1/\0<z/\z<=j'.fst/\ASC j'.2.fst/\0<a1/\a1<=j'.fst/\lnL g1 j'.snd.2)/\g1-j'.fst<e1/\h1/\gd (Nat.beq 1 a1) False)\/False) (gd p (gd (decide (n<Int.ofNat 256)&&true&&true) (e\/(∃(j':Nat×By),letI d1:=List.length j'.snd;(0<j'.fst/\j'.fst<=g1/\0<d1/\d1<=j'.fst/\ASC j'.snd)/\g1-j'.fst<e1/\h1/\gd (Nat.beq 1 d1) (l=l/\m=Value.int .i64 (Int.ofNat j'.fst)/\(∃(r:k1),[UInt8.ofNat q]=j'.snd++r)/\True))\/b))));br p (gd p (br (n==Int.ofNat 92) (br h (gd c (h1/\True/\d=d/\∀(x:Bool),True->br x (gd c (gd (decide (f<Int.ofNat 256)&&true&&true) (e\/(∃(j':Nat×By),letI b1:=List.length j'.snd;(0<j'.fst/\j'.fst<=g1/\0<b1/\b1<=j'.fst/\ASC j'.snd)/\g1-j'.fst<e1/\h1/\gd (Nat.beq 1 b1) (l=l/\Value.int .i64 (IntKind.wrap .i64 (s+Int.ofNat 1))=Value.int .i64 (Int.ofNat j'.fst)/\(∃(r:k1),[UInt8.ofNat g]=j'.snd++r)/\True))\/b))) a)) a) a)) ((∃(x:List By×By),(List.length x.1<=g1/\lnL g1 x.1/\List.length x.snd<=g1)/\h1/\List.length x.1=0/\0<=0/\[]=x.snd/\True)\/False)
def t_f(T:TD)(l:By)(k:Nat)(m:By):Prop:=
 letI s1:=noSt=noSt;letI q1:=List.length l;letI r1:=List.length m;letI k1:=r1+1;letI m1:=q1-k;letI n1:=0+r1;letI a1:=Nat×By×List By;letI z:=s1/\False;letI y:=Int.ofNat q1;letI w:=List.take r1 m;letI v:=IntKind.wrap .i64 (Int.ofNat (k+1));letI u:=UInt8.toNat (List.getD l k (0:UInt8));letI t:=List.length w;letI s:=decide (Int.ofNat k<y);letI q:=Int.ofNat u;letI p:=Value.int .i64 v;letI n:=decide (v<y);letI h:=UInt8.toNat (List.getD l (Int.toNat v) (0:UInt8));letI g:=Nat.ble r1 r1&&(Nat.ble k1 140737488355328&&true);letI f:=Int.ofNat h;letI e:=∃(j':Nat),(0<j'/\j'<=q1)/\q1-j'<m1/\z;letI d:=Value.int IntKind.u8 f;letI c:=decide (Int.ofNat 0<=v)&&n;letI b:=(∃(j':Nat×List By),(0<j'.fst/\j'.fst<=q1/\0<List.length j'.2/\List.length j'.2<=j'.fst/\lnL q1 j'.2)/\q1-j'.fst<m1/\z)\/(∃(j':a1),letI b1:=List.length j'.2.fst;letI c1:=List.length j'.snd.2;(0<j'.fst/\j'.fst<=q1/\0<b1/\b1<=j'.fst/\ASC j'.2.fst/\0<c1/\c1<=j'.fst/\lnL q1 j'.snd.2)/\q1-j'.fst<m1/\z)\/False;letI a:=gd s (br (q==Int.ofNat 124) (gd (Nat.ble n1 r1) (s1/\(ASC w/\t<=1099511627776)/\w=w/\∀(x:By×Int),Nat.le (List.length x.fst) t->e\/(∃(j':Nat×By),letI g1:=List.length j'.snd;(0<j'.fst/\j'.fst<=q1/\0<g1/\g1<=j'.fst/\ASC j'.snd)/\q1-j'.fst<m1/\z)\/(∃(j':Nat×List By),letI p1:=List.length j'.2;(0<j'.fst/\j'.fst<=q1/\0<p1/\p1<=j'.fst/\lnL q1 j'.2)/\q1-j'.fst<m1/\s1/\gd (Nat.beq 1 p1) (l=l/\p=Value.int .i64 (Int.ofNat j'.fst)/\p1=1/\x.fst=atS j'.2 0/\True))\/(∃(j':a1),letI d1:=List.length j'.2.fst;letI e1:=List.length j'.snd.2;(0<j'.fst/\j'.fst<=q1/\0<d1/\d1<=j'.fst/\ASC j'.2.fst/\0<e1/\e1<=j'.fst/\lnL q1 j'.snd.2)/\q1-j'.fst<m1/\s1/\gd (Nat.beq 1 e1) False)\/False)) (gd s (gd (decide (q<Int.ofNat 256)&&true&&true) (gd g (e\/(∃(j':Nat×By),letI h1:=List.length j'.snd;(0<j'.fst/\j'.fst<=q1/\0<h1/\h1<=j'.fst/\ASC j'.snd)/\q1-j'.fst<m1/\s1/\gd (Nat.beq k1 h1) (l=l/\p=Value.int .i64 (Int.ofNat j'.fst)/\(∃(r:List UInt8),w++[UInt8.ofNat u]=j'.snd++r)/\True))\/b)))));br s (gd s (br (q==Int.ofNat 92) (br n (gd c (s1/\True/\d=d/\∀(x:Bool),True->br x (gd c (gd (decide (f<Int.ofNat 256)&&true&&true) (gd g (e\/(∃(j':Nat×By),letI f1:=List.length j'.snd;(0<j'.fst/\j'.fst<=q1/\0<f1/\f1<=j'.fst/\ASC j'.snd)/\q1-j'.fst<m1/\s1/\gd (Nat.beq k1 f1) (l=l/\Value.int .i64 (IntKind.wrap .i64 (v+Int.ofNat 1))=Value.int .i64 (Int.ofNat j'.fst)/\(∃(r:List UInt8),w++[UInt8.ofNat h]=j'.snd++r)/\True))\/b)))) a)) a) a)) ((∃(x:List By×By),(List.length x.1<=q1/\lnL q1 x.1/\List.length x.snd<=q1)/\s1/\List.length x.1=0/\n1<=r1/\w=x.snd/\True)\/False)
def t_g(T:TD)(l:By)(k:Nat)(L:List By):Prop:=
 letI t1:=List UInt8;letI s1:=noSt=noSt;letI q1:=List.length l;letI r1:=List.length L;letI h1:=q1-k;letI k1:=r1+0;letI m1:=r1+1;letI z:=Nat×By×List By;letI y:=s1/\False;letI w:=Int.ofNat q1;letI v:=fun(q:Nat)=>AVal.str (atS L q);letI u:=IntKind.wrap .i64 (Int.ofNat (k+1));letI t:=UInt8.toNat (List.getD l k (0:UInt8));letI s:=decide (Int.ofNat k<w);letI p:=Int.ofNat t;letI n:=Value.int .i64 u;letI m:=decide (u<w);letI h:=UInt8.toNat (List.getD l (Int.toNat u) (0:UInt8));letI g:=Int.ofNat h;letI f:=∃(j':Nat),(0<j'/\j'<=q1)/\q1-j'<h1/\y;letI e:=Value.int IntKind.u8 g;letI d:=decide (Int.ofNat 0<=u)&&m;letI c:=∃(j':Nat×By),letI g1:=List.length j'.snd;(0<j'.fst/\j'.fst<=q1/\0<g1/\g1<=j'.fst/\ASC j'.snd)/\q1-j'.fst<h1/\y;letI b:=∃(j':Nat×List By),letI n1:=List.length j'.2;(0<j'.fst/\j'.fst<=q1/\0<n1/\n1<=j'.fst/\lnL q1 j'.2)/\q1-j'.fst<h1/\s1/\gd (Nat.beq r1 n1) False;letI a:=gd s (br (p==Int.ofNat 124) (s1/\(ASC []/\0<=1099511627776)/\([]:t1)=[]/\∀(x:By×Int),Nat.le (List.length x.fst) 0->gd (Nat.beq r1 k1&&(Nat.ble (0+r1+1+r1+1+r1+1+r1+1+r1+1+r1+1+r1+1+r1+1+r1+1+r1+1+r1+1+r1+1+r1+1+r1+1+r1+1+r1+1) 140737488355328&&(Nat.ble m1 140737488355328&&true))) (f\/c\/(∃(j':Nat×List By),letI p1:=List.length j'.2;(0<j'.fst/\j'.fst<=q1/\0<p1/\p1<=j'.fst/\lnL q1 j'.2)/\q1-j'.fst<h1/\s1/\gd (Nat.beq m1 p1) (l=l/\n=Value.int .i64 (Int.ofNat j'.fst)/\p1=m1/\SubF v (fun(q:Nat)=>AVal.str (atS j'.2 q)) r1 []/\x.fst=atS j'.2 r1/\True))\/(∃(j':z),letI c1:=List.length j'.2.fst;letI d1:=List.length j'.snd.2;(0<j'.fst/\j'.fst<=q1/\0<c1/\c1<=j'.fst/\ASC j'.2.fst/\0<d1/\d1<=j'.fst/\lnL q1 j'.snd.2)/\q1-j'.fst<h1/\s1/\gd (Nat.beq m1 d1) False)\/False)) (gd s (gd (decide (p<Int.ofNat 256)&&true&&true) (f\/c\/b\/(∃(j':z),letI e1:=List.length j'.2.fst;letI f1:=List.length j'.snd.2;(0<j'.fst/\j'.fst<=q1/\0<e1/\e1<=j'.fst/\ASC j'.2.fst/\0<f1/\f1<=j'.fst/\lnL q1 j'.snd.2)/\q1-j'.fst<h1/\s1/\gd (Nat.beq r1 f1) (gd (Nat.beq 1 e1) (l=l/\n=Value.int .i64 (Int.ofNat j'.fst)/\(∃(r:t1),[UInt8.ofNat t]=j'.2.fst++r)/\f1<=r1/\SubF v (fun(q:Nat)=>AVal.str (atS j'.snd.2 q)) f1 []/\True)))\/False))));br s (gd s (br (p==Int.ofNat 92) (br m (gd d (s1/\True/\e=e/\∀(x:Bool),True->br x (gd d (gd (decide (g<Int.ofNat 256)&&true&&true) (f\/c\/b\/(∃(j':z),letI a1:=List.length j'.2.fst;letI b1:=List.length j'.snd.2;(0<j'.fst/\j'.fst<=q1/\0<a1/\a1<=j'.fst/\ASC j'.2.fst/\0<b1/\b1<=j'.fst/\lnL q1 j'.snd.2)/\q1-j'.fst<h1/\s1/\gd (Nat.beq r1 b1) (gd (Nat.beq 1 a1) (l=l/\Value.int .i64 (IntKind.wrap .i64 (u+Int.ofNat 1))=Value.int .i64 (Int.ofNat j'.fst)/\(∃(r:t1),[UInt8.ofNat h]=j'.2.fst++r)/\b1<=r1/\SubF v (fun(q:Nat)=>AVal.str (atS j'.snd.2 q)) b1 []/\True)))\/False))) a)) a) a)) ((∃(x:List By×By),(List.length x.1<=q1/\lnL q1 x.1/\List.length x.snd<=q1)/\s1/\r1=List.length x.1/\r1=k1/\SubF v (fun(q:Nat)=>AVal.str (atS x.1 q)) r1 []/\x.snd=[]/\True)\/False)
def t_h(T:TD)(l:By)(k:Nat)(m:By)(L:List By):Prop:=
 letI a2:=noSt=noSt;letI w1:=List.length l;letI y1:=List.length m;letI z1:=List.length L;letI p1:=y1+1;letI q1:=w1-k;letI r1:=0+y1;letI s1:=z1+0;letI t1:=z1+1;letI d1:=Nat×By×List By;letI c1:=a2/\False;letI b1:=Int.ofNat w1;letI a1:=List.take y1 m;letI z:=fun(q:Nat)=>AVal.str (atS L q);letI y:=IntKind.wrap .i64 (Int.ofNat (k+1));letI w:=UInt8.toNat (List.getD l k (0:UInt8));letI v:=List.length a1;letI u:=decide (Int.ofNat k<b1);letI t:=Int.ofNat w;letI s:=Value.int .i64 y;letI p:=decide (y<b1);letI n:=UInt8.toNat (List.getD l (Int.toNat y) (0:UInt8));letI h:=Nat.ble y1 y1&&(Nat.ble p1 140737488355328&&true);letI g:=Int.ofNat n;letI f:=∃(j':Nat),(0<j'/\j'<=w1)/\w1-j'<q1/\c1;letI e:=Value.int IntKind.u8 g;letI d:=decide (Int.ofNat 0<=y)&&p;letI c:=∃(j':Nat×By),letI n1:=List.length j'.snd;(0<j'.fst/\j'.fst<=w1/\0<n1/\n1<=j'.fst/\ASC j'.snd)/\w1-j'.fst<q1/\c1;letI b:=∃(j':Nat×List By),letI u1:=List.length j'.2;(0<j'.fst/\j'.fst<=w1/\0<u1/\u1<=j'.fst/\lnL w1 j'.2)/\w1-j'.fst<q1/\a2/\gd (Nat.beq z1 u1) False;letI a:=gd u (br (t==Int.ofNat 124) (gd (Nat.ble r1 y1) (a2/\(ASC a1/\v<=1099511627776)/\a1=a1/\∀(x:By×Int),Nat.le (List.length x.fst) v->gd (Nat.beq z1 s1&&(Nat.ble (0+z1+1+z1+1+z1+1+z1+1+z1+1+z1+1+z1+1+z1+1+z1+1+z1+1+z1+1+z1+1+z1+1+z1+1+z1+1+z1+1) 140737488355328&&(Nat.ble t1 140737488355328&&true))) (f\/c\/(∃(j':Nat×List By),letI v1:=List.length j'.2;(0<j'.fst/\j'.fst<=w1/\0<v1/\v1<=j'.fst/\lnL w1 j'.2)/\w1-j'.fst<q1/\a2/\gd (Nat.beq t1 v1) (l=l/\s=Value.int .i64 (Int.ofNat j'.fst)/\v1=t1/\SubF z (fun(q:Nat)=>AVal.str (atS j'.2 q)) z1 []/\x.fst=atS j'.2 z1/\True))\/(∃(j':d1),letI g1:=List.length j'.2.fst;letI h1:=List.length j'.snd.2;(0<j'.fst/\j'.fst<=w1/\0<g1/\g1<=j'.fst/\ASC j'.2.fst/\0<h1/\h1<=j'.fst/\lnL w1 j'.snd.2)/\w1-j'.fst<q1/\a2/\gd (Nat.beq t1 h1) False)\/False))) (gd u (gd (decide (t<Int.ofNat 256)&&true&&true) (gd h (f\/c\/b\/(∃(j':d1),letI k1:=List.length j'.2.fst;letI m1:=List.length j'.snd.2;(0<j'.fst/\j'.fst<=w1/\0<k1/\k1<=j'.fst/\ASC j'.2.fst/\0<m1/\m1<=j'.fst/\lnL w1 j'.snd.2)/\w1-j'.fst<q1/\a2/\gd (Nat.beq z1 m1) (gd (Nat.beq p1 k1) (l=l/\s=Value.int .i64 (Int.ofNat j'.fst)/\(∃(r:List UInt8),a1++[UInt8.ofNat w]=j'.2.fst++r)/\m1<=z1/\SubF z (fun(q:Nat)=>AVal.str (atS j'.snd.2 q)) m1 []/\True)))\/False)))));br u (gd u (br (t==Int.ofNat 92) (br p (gd d (a2/\True/\e=e/\∀(x:Bool),True->br x (gd d (gd (decide (g<Int.ofNat 256)&&true&&true) (gd h (f\/c\/b\/(∃(j':d1),letI e1:=List.length j'.2.fst;letI f1:=List.length j'.snd.2;(0<j'.fst/\j'.fst<=w1/\0<e1/\e1<=j'.fst/\ASC j'.2.fst/\0<f1/\f1<=j'.fst/\lnL w1 j'.snd.2)/\w1-j'.fst<q1/\a2/\gd (Nat.beq z1 f1) (gd (Nat.beq p1 e1) (l=l/\Value.int .i64 (IntKind.wrap .i64 (y+Int.ofNat 1))=Value.int .i64 (Int.ofNat j'.fst)/\(∃(r:List UInt8),a1++[UInt8.ofNat n]=j'.2.fst++r)/\f1<=z1/\SubF z (fun(q:Nat)=>AVal.str (atS j'.snd.2 q)) f1 []/\True)))\/False)))) a)) a) a)) ((∃(x:List By×By),(List.length x.1<=w1/\lnL w1 x.1/\List.length x.snd<=w1)/\a2/\z1=List.length x.1/\z1=s1/\SubF z (fun(q:Nat)=>AVal.str (atS x.1 q)) z1 []/\r1<=y1/\a1=x.snd/\True)\/False)
def g7R(T:TD)(l:By):Prop:=
 letI u:=noSt=noSt;letI v:=Int.ofNat 0;letI t:=List.length l;letI n:=List By×Bool;letI f:=Int.ofNat t;letI e:=Value.int .i64 (Int.ofNat 1);letI d:=UInt8.toNat (List.getD l 0 (0:UInt8));letI c:=d≠124;letI b:=IntKind.wrap .i64 (f-Int.ofNat 1);letI a:=∃(x:n),letI p:=List.length x.1;(p<=t/\lnL t x.1/\(c->x.snd=false))/\u/\((∀(i:Nat),letI h:=AVal.str (atS x.1 i);i<p->SubA 0 h h)/\True)/\True/\p=0/\Value.bool false=Value.bool x.snd/\True;br (decide (f<Int.ofNat 2)) a (gd (decide (v<f)) (br (Int.ofNat d !=Int.ofNat 124) a (gd (decide (v<=b)&&decide (b<f)) (br (Int.ofNat (UInt8.toNat (List.getD l (Int.toNat b) (0:UInt8)))!=Int.ofNat 124) a ((0<1/\1<=t)/\(u/\0=0/\l=l/\e=e/\(∃(r:List UInt8),[]=r)/\True)/\∀(x:List By×By),letI s:=List.length x.1;letI k:=List.length x.snd;s<=t/\lnL t x.1/\k<=t->∃(x_1:n),letI m:=List.length x_1.1;(m<=t/\lnL t x_1.1/\(c->x_1.snd=false))/\u/\((∀(i:Nat),letI g:=AVal.str (atS x_1.1 i);i<m->SubA 0 g g)/\True)/\True/\s=m/\SubF (fun(q:Nat)=>AVal.str (atS x.1 q)) (fun(q:Nat)=>AVal.str (atS x_1.1 q)) s []/\Value.bool (Int.ofNat k==v)=Value.bool x_1.snd/\True)))))
set_option maxHeartbeats 2000000
theorem i_Q(T:TD):TabOk Tryz.prog (g7U T):=by
 refine⟨fun f s h=>?_,fun f s h=>?_⟩
 ·unfold g7U at h
  simp only at h
  split at h
  ·cases h;exact a_d w_9 (G_g T).1
  ·cases h;exact a_d x_a (G_h T).1
  ·cases h
 ·cases h
theorem G_j(T:TD)(l:By)(k:Nat)(hd:ASC l/\l.length<=1099511627776)(h:0<k/\k<=l.length):G_i T l k:=by
 unfold G_i
 obtain⟨ha,hl⟩:=hd
 obtain⟨i1,i2⟩:=h
 have L:List By:=[]
 have sA:∀x:By,SubF (fun q=>AVal.str (atS L q)) (fun q=>AVal.str (atS (L++[x]) q)) L.length []:=fun x q hq _=>by
  show SubA _ (AVal.str _) (AVal.str _)
  rw[g_I hq];exact a_g rfl
 have sB:∀us,SubF (fun q=>AVal.str (atS L q)) (fun q=>AVal.str (atS L q)) L.length us:=fun us q _ _=>a_g rfl
 have hA:=j_k
 have hK:=j_j (n:=l.length)
 have hb:∀p,p<l.length->(l.getD p 0).toNat<128:=fun p hp=>o_q ha hp
 have tn:∀n:Nat,Int.toNat (Int.ofNat n)=n:=fun n=>rfl
 have on:∀c:UInt8,UInt8.ofNat c.toNat=c:=fun c=>UInt8.ofNat_toNat
 by_cases g:k<l.length
 ·have w1:IntKind.wrap IntKind.i64 (Int.ofNat (k+1))=Int.ofNat (k+1):=a_o ab ab
  have w2:IntKind.wrap IntKind.i64 (Int.ofNat (k+1)+Int.ofNat 1)=Int.ofNat (k+2):=by
   have:Int.ofNat (k+1)+Int.ofNat 1=Int.ofNat (k+2):=ab
   rw[this];exact a_o ab ab
  have b0:=hb k g
  simp only[w1,w2,tn,on]
  simp only[a_V,sj1,exists_eq_left',sj6,gt_iff_lt,ge_iff_le,exists_const,Int.ofNat_le,implies_true,Bool.true_eq,Value.bool.injEq,d_p,Nat.not_lt,List.take_length,List.drop_zero]
  repeat' (first|done|exact rfl|exact sB []|exact sA _|exact hA|(refine c_L hA (hb _ ?_);omega)|(refine c_K hK ?_;omega)|exact atS_eq.symm|exact UInt8.toNat_lt _|intro(x:By×Int)|intro _|refine And.intro ?_ ?_|omega|(refine⟨(k+2,[l.getD (k+1) 0]),?_⟩;(repeat' (first|done|exact rfl|exact sB []|exact sA _|exact hA|(refine c_L hA (hb _ ?_);omega)|(refine c_K hK ?_;omega)|exact atS_eq.symm|exact UInt8.toNat_lt _|refine And.intro ?_ ?_|omega|(simp;done)|(simp;omega)));done)|(refine⟨(k+1,[x.fst]),?_⟩;(repeat' (first|done|exact rfl|exact sB []|exact sA _|exact hA|(refine c_L hA (hb _ ?_);omega)|(refine c_K hK ?_;omega)|exact atS_eq.symm|exact UInt8.toNat_lt _|refine And.intro ?_ ?_|omega|(simp;done)|(simp;omega)));done)|(refine⟨(k+1,[l.getD k 0]),?_⟩;(repeat' (first|done|exact rfl|exact sB []|exact sA _|exact hA|(refine c_L hA (hb _ ?_);omega)|(refine c_K hK ?_;omega)|exact atS_eq.symm|exact UInt8.toNat_lt _|refine And.intro ?_ ?_|omega|(simp;done)|(simp;omega)));done)|(simp;done)|(simp;omega))
 ·simp only[a_V,sj1,exists_eq_left',sj6,gt_iff_lt,ge_iff_le,exists_const,Int.ofNat_le,implies_true,Bool.true_eq,Value.bool.injEq,d_p]
  refine⟨fun n=>absurd n g,fun _=>?_⟩
  repeat' (first|done|omega|exact rfl|(refine⟨([],[]),?_⟩;(repeat' (first|done|exact rfl|exact sB []|exact sA _|exact hA|(refine c_L hA (hb _ ?_);omega)|(refine c_K hK ?_;omega)|exact atS_eq.symm|exact UInt8.toNat_lt _|refine And.intro ?_ ?_|omega|(simp;done)|(simp;omega)));done)|intro _|refine And.intro ?_ ?_)
theorem x_b(T:TD)(l:By)(k:Nat)(m:By)(hd:ASC l/\l.length<=1099511627776)(h:(0<k/\k<=l.length)/\0<m.length/\m.length<=k/\ASC m):t_f T l k m:=by
 unfold t_f
 obtain⟨ha,hl⟩:=hd
 obtain⟨⟨i1,i2⟩,m0,m1,hA⟩:=h
 have L:List By:=[]
 have sA:∀x:By,SubF (fun q=>AVal.str (atS L q)) (fun q=>AVal.str (atS (L++[x]) q)) L.length []:=fun x q hq _=>by
  show SubA _ (AVal.str _) (AVal.str _)
  rw[g_I hq];exact a_g rfl
 have sB:∀us,SubF (fun q=>AVal.str (atS L q)) (fun q=>AVal.str (atS L q)) L.length us:=fun us q _ _=>a_g rfl
 have hK:=j_j (n:=l.length)
 have hb:∀p,p<l.length->(l.getD p 0).toNat<128:=fun p hp=>o_q ha hp
 have tn:∀n:Nat,Int.toNat (Int.ofNat n)=n:=fun n=>rfl
 have on:∀c:UInt8,UInt8.ofNat c.toNat=c:=fun c=>UInt8.ofNat_toNat
 by_cases g:k<l.length
 ·have w1:IntKind.wrap IntKind.i64 (Int.ofNat (k+1))=Int.ofNat (k+1):=a_o ab ab
  have w2:IntKind.wrap IntKind.i64 (Int.ofNat (k+1)+Int.ofNat 1)=Int.ofNat (k+2):=by
   have:Int.ofNat (k+1)+Int.ofNat 1=Int.ofNat (k+2):=ab
   rw[this];exact a_o ab ab
  have b0:=hb k g
  simp only[w1,w2,tn,on]
  simp only[a_V,sj1,exists_eq_left',sj6,gt_iff_lt,ge_iff_le,exists_const,Int.ofNat_le,implies_true,Bool.true_eq,Value.bool.injEq,d_p,Nat.not_lt,List.take_length,List.drop_zero]
  repeat' (first|done|exact rfl|exact sB []|exact sA _|exact hA|(refine c_L hA (hb _ ?_);omega)|(refine c_K hK ?_;omega)|exact atS_eq.symm|exact UInt8.toNat_lt _|intro(x:By×Int)|intro _|refine And.intro ?_ ?_|omega|(refine⟨(k+2,m++[l.getD (k+1) 0]),?_⟩;(repeat' (first|done|exact rfl|exact sB []|exact sA _|exact hA|(refine c_L hA (hb _ ?_);omega)|(refine c_K hK ?_;omega)|exact atS_eq.symm|exact UInt8.toNat_lt _|refine And.intro ?_ ?_|omega|(simp;done)|(simp;omega)));done)|(refine⟨(k+1,[x.fst]),?_⟩;(repeat' (first|done|exact rfl|exact sB []|exact sA _|exact hA|(refine c_L hA (hb _ ?_);omega)|(refine c_K hK ?_;omega)|exact atS_eq.symm|exact UInt8.toNat_lt _|refine And.intro ?_ ?_|omega|(simp;done)|(simp;omega)));done)|(refine⟨(k+1,m++[l.getD k 0]),?_⟩;(repeat' (first|done|exact rfl|exact sB []|exact sA _|exact hA|(refine c_L hA (hb _ ?_);omega)|(refine c_K hK ?_;omega)|exact atS_eq.symm|exact UInt8.toNat_lt _|refine And.intro ?_ ?_|omega|(simp;done)|(simp;omega)));done)|(simp;done)|(simp;omega))
 ·simp only[a_V,sj1,exists_eq_left',sj6,gt_iff_lt,ge_iff_le,exists_const,Int.ofNat_le,implies_true,Bool.true_eq,Value.bool.injEq,d_p]
  refine⟨fun n=>absurd n g,fun _=>?_⟩
  repeat' (first|done|omega|exact rfl|(refine⟨([],m),?_⟩;(repeat' (first|done|exact rfl|exact sB []|exact sA _|exact hA|(refine c_L hA (hb _ ?_);omega)|(refine c_K hK ?_;omega)|exact atS_eq.symm|exact UInt8.toNat_lt _|refine And.intro ?_ ?_|omega|(simp;done)|(simp;omega)));done)|intro _|refine And.intro ?_ ?_)
theorem x_c(T:TD)(l:By)(k:Nat)(L:List By)(hd:ASC l/\l.length<=1099511627776)(h:(0<k/\k<=l.length)/\0<L.length/\L.length<=k/\lnL l.length L):t_g T l k L:=by
 unfold t_g
 obtain⟨ha,hl⟩:=hd
 obtain⟨⟨i1,i2⟩,l0,l1,hK⟩:=h
 have sA:∀x:By,SubF (fun q=>AVal.str (atS L q)) (fun q=>AVal.str (atS (L++[x]) q)) L.length []:=fun x q hq _=>by
  show SubA _ (AVal.str _) (AVal.str _)
  rw[g_I hq];exact a_g rfl
 have sB:∀us,SubF (fun q=>AVal.str (atS L q)) (fun q=>AVal.str (atS L q)) L.length us:=fun us q _ _=>a_g rfl
 have hA:=j_k
 have hb:∀p,p<l.length->(l.getD p 0).toNat<128:=fun p hp=>o_q ha hp
 have tn:∀n:Nat,Int.toNat (Int.ofNat n)=n:=fun n=>rfl
 have on:∀c:UInt8,UInt8.ofNat c.toNat=c:=fun c=>UInt8.ofNat_toNat
 by_cases g:k<l.length
 ·have w1:IntKind.wrap IntKind.i64 (Int.ofNat (k+1))=Int.ofNat (k+1):=a_o ab ab
  have w2:IntKind.wrap IntKind.i64 (Int.ofNat (k+1)+Int.ofNat 1)=Int.ofNat (k+2):=by
   have:Int.ofNat (k+1)+Int.ofNat 1=Int.ofNat (k+2):=ab
   rw[this];exact a_o ab ab
  have b0:=hb k g
  simp only[w1,w2,tn,on]
  simp only[a_V,sj1,exists_eq_left',sj6,gt_iff_lt,ge_iff_le,exists_const,Int.ofNat_le,implies_true,Bool.true_eq,Value.bool.injEq,d_p,Nat.not_lt,List.take_length,List.drop_zero]
  repeat' (first|done|exact rfl|exact sB []|exact sA _|exact hA|(refine c_L hA (hb _ ?_);omega)|(refine c_K hK ?_;omega)|exact atS_eq.symm|exact UInt8.toNat_lt _|intro(x:By×Int)|intro _|refine And.intro ?_ ?_|omega|(refine⟨(k+2,[l.getD (k+1) 0],L),?_⟩;(repeat' (first|done|exact rfl|exact sB []|exact sA _|exact hA|(refine c_L hA (hb _ ?_);omega)|(refine c_K hK ?_;omega)|exact atS_eq.symm|exact UInt8.toNat_lt _|refine And.intro ?_ ?_|omega|(simp;done)|(simp;omega)));done)|(refine⟨(k+1,L++[x.fst]),?_⟩;(repeat' (first|done|exact rfl|exact sB []|exact sA _|exact hA|(refine c_L hA (hb _ ?_);omega)|(refine c_K hK ?_;omega)|exact atS_eq.symm|exact UInt8.toNat_lt _|refine And.intro ?_ ?_|omega|(simp;done)|(simp;omega)));done)|(refine⟨(k+1,[l.getD k 0],L),?_⟩;(repeat' (first|done|exact rfl|exact sB []|exact sA _|exact hA|(refine c_L hA (hb _ ?_);omega)|(refine c_K hK ?_;omega)|exact atS_eq.symm|exact UInt8.toNat_lt _|refine And.intro ?_ ?_|omega|(simp;done)|(simp;omega)));done)|(simp;done)|(simp;omega))
 ·simp only[a_V,sj1,exists_eq_left',sj6,gt_iff_lt,ge_iff_le,exists_const,Int.ofNat_le,implies_true,Bool.true_eq,Value.bool.injEq,d_p]
  refine⟨fun n=>absurd n g,fun _=>?_⟩
  repeat' (first|done|omega|exact rfl|(refine⟨(L,[]),?_⟩;(repeat' (first|done|exact rfl|exact sB []|exact sA _|exact hA|(refine c_L hA (hb _ ?_);omega)|(refine c_K hK ?_;omega)|exact atS_eq.symm|exact UInt8.toNat_lt _|refine And.intro ?_ ?_|omega|(simp;done)|(simp;omega)));done)|intro _|refine And.intro ?_ ?_)
theorem x_d(T:TD)(l:By)(k:Nat)(m:By)(L:List By)(hd:ASC l/\l.length<=1099511627776)(h:(0<k/\k<=l.length)/\0<m.length/\m.length<=k/\ASC m/\0<L.length/\L.length<=k/\lnL l.length L):t_h T l k m L:=by
 unfold t_h
 obtain⟨ha,hl⟩:=hd
 obtain⟨⟨i1,i2⟩,m0,m1,hA,l0,l1,hK⟩:=h
 have sA:∀x:By,SubF (fun q=>AVal.str (atS L q)) (fun q=>AVal.str (atS (L++[x]) q)) L.length []:=fun x q hq _=>by
  show SubA _ (AVal.str _) (AVal.str _)
  rw[g_I hq];exact a_g rfl
 have sB:∀us,SubF (fun q=>AVal.str (atS L q)) (fun q=>AVal.str (atS L q)) L.length us:=fun us q _ _=>a_g rfl
 have hb:∀p,p<l.length->(l.getD p 0).toNat<128:=fun p hp=>o_q ha hp
 have tn:∀n:Nat,Int.toNat (Int.ofNat n)=n:=fun n=>rfl
 have on:∀c:UInt8,UInt8.ofNat c.toNat=c:=fun c=>UInt8.ofNat_toNat
 by_cases g:k<l.length
 ·have w1:IntKind.wrap IntKind.i64 (Int.ofNat (k+1))=Int.ofNat (k+1):=a_o ab ab
  have w2:IntKind.wrap IntKind.i64 (Int.ofNat (k+1)+Int.ofNat 1)=Int.ofNat (k+2):=by
   have:Int.ofNat (k+1)+Int.ofNat 1=Int.ofNat (k+2):=ab
   rw[this];exact a_o ab ab
  have b0:=hb k g
  simp only[w1,w2,tn,on]
  simp only[a_V,sj1,exists_eq_left',sj6,gt_iff_lt,ge_iff_le,exists_const,Int.ofNat_le,implies_true,Bool.true_eq,Value.bool.injEq,d_p,Nat.not_lt,List.take_length,List.drop_zero]
  repeat' (first|done|exact rfl|exact sB []|exact sA _|exact hA|(refine c_L hA (hb _ ?_);omega)|(refine c_K hK ?_;omega)|exact atS_eq.symm|exact UInt8.toNat_lt _|intro(x:By×Int)|intro _|refine And.intro ?_ ?_|omega|(refine⟨(k+2,m++[l.getD (k+1) 0],L),?_⟩;(repeat' (first|done|exact rfl|exact sB []|exact sA _|exact hA|(refine c_L hA (hb _ ?_);omega)|(refine c_K hK ?_;omega)|exact atS_eq.symm|exact UInt8.toNat_lt _|refine And.intro ?_ ?_|omega|(simp;done)|(simp;omega)));done)|(refine⟨(k+1,L++[x.fst]),?_⟩;(repeat' (first|done|exact rfl|exact sB []|exact sA _|exact hA|(refine c_L hA (hb _ ?_);omega)|(refine c_K hK ?_;omega)|exact atS_eq.symm|exact UInt8.toNat_lt _|refine And.intro ?_ ?_|omega|(simp;done)|(simp;omega)));done)|(refine⟨(k+1,m++[l.getD k 0],L),?_⟩;(repeat' (first|done|exact rfl|exact sB []|exact sA _|exact hA|(refine c_L hA (hb _ ?_);omega)|(refine c_K hK ?_;omega)|exact atS_eq.symm|exact UInt8.toNat_lt _|refine And.intro ?_ ?_|omega|(simp;done)|(simp;omega)));done)|(simp;done)|(simp;omega))
 ·simp only[a_V,sj1,exists_eq_left',sj6,gt_iff_lt,ge_iff_le,exists_const,Int.ofNat_le,implies_true,Bool.true_eq,Value.bool.injEq,d_p]
  refine⟨fun n=>absurd n g,fun _=>?_⟩
  repeat' (first|done|omega|exact rfl|(refine⟨(L,m),?_⟩;(repeat' (first|done|exact rfl|exact sB []|exact sA _|exact hA|(refine c_L hA (hb _ ?_);omega)|(refine c_K hK ?_;omega)|exact atS_eq.symm|exact UInt8.toNat_lt _|refine And.intro ?_ ?_|omega|(simp;done)|(simp;omega)));done)|intro _|refine And.intro ?_ ?_)
theorem G_k(T:TD)(l:By)(hd:ASC l/\l.length<=1099511627776):(g7D T l).Bodyn (I_H T l) Tryz.prog (sub (a_b Tryz.f21) [0,0,1,0,1,1,1,1]):=by
 refine List.forall_mem_cons.2 ⟨b_G (root:=(a_b Tryz.f21)) [0,0,1,0,1,1,1,1] a_l (i_Q T) (LTok.nil) 1000 ?_,List.forall_mem_cons.2 ⟨b_G (root:=(a_b Tryz.f21)) [0,0,1,0,1,1,1,1] a_l (i_Q T) (LTok.nil) 1000 ?_,List.forall_mem_cons.2 ⟨b_G (root:=(a_b Tryz.f21)) [0,0,1,0,1,1,1,1] a_l (i_Q T) (LTok.nil) 1000 ?_,List.forall_mem_cons.2 ⟨b_G (root:=(a_b Tryz.f21)) [0,0,1,0,1,1,1,1] a_l (i_Q T) (LTok.nil) 1000 ?_,fun _ h=>absurd h List.not_mem_nil⟩⟩⟩⟩
 ·exact fun j hj=>Ho.of (G_i T l j) aa (G_j T l j hd hj)
 ·exact fun j hj=>Ho.of (t_f T l j.1 j.2) aa (x_b T l j.1 j.2 hd ⟨⟨hj.1,hj.2.1⟩,hj.2.2⟩)
 ·exact fun j hj=>Ho.of (t_g T l j.1 j.2) aa (x_c T l j.1 j.2 hd ⟨⟨hj.1,hj.2.1⟩,hj.2.2⟩)
 ·exact fun j hj=>Ho.of (t_h T l j.1 j.2.1 j.2.2) aa (x_d T l j.1 j.2.1 j.2.2 hd ⟨⟨hj.1,hj.2.1⟩,hj.2.2⟩)
theorem I_7(T:TD)(l:By)(hd:ASC l/\l.length<=1099511627776):g7R T l:=by
 unfold g7R
 obtain⟨ha,hl⟩:=hd
 have z:∃x:List By×Bool,(x.1.length<=l.length/\lnL l.length x.1/\((l.getD 0 0).toNat≠124->x.2=false))/\(∀i,i<x.1.length->SubA 0 (AVal.str (atS x.1 i)) (AVal.str (atS x.1 i)))/\x.1.length=0/\false=x.2:=⟨([],false),⟨Nat.zero_le _,j_j,fun _=>rfl⟩,fun _ _=>a_g rfl,rfl,rfl⟩
 by_cases g:l.length<2
 ·simp only[a_V,sj1,exists_eq_left',sj6,gt_iff_lt,ge_iff_le,exists_const,Int.ofNat_le,implies_true,Bool.true_eq,Value.bool.injEq,d_p]
  exact⟨fun _=>z,fun n=>absurd g n⟩
 ·have w:IntKind.wrap IntKind.i64 (Int.ofNat l.length-Int.ofNat 1)=Int.ofNat (l.length-1):=h_h ac ac
  have tn:∀n:Nat,Int.toNat (Int.ofNat n)=n:=fun n=>rfl
  simp only[w,tn]
  simp only[a_V,sj1,exists_eq_left',sj6,gt_iff_lt,ge_iff_le,exists_const,Int.ofNat_le,implies_true,Bool.true_eq,Value.bool.injEq,d_p]
  refine⟨fun n=>absurd n g,fun _=>⟨ac,fun _=>z,fun e1=>⟨⟨ac,ac⟩,fun _=>z,fun e2=>⟨⟨ac,ac⟩,⟨_,rfl⟩,?_⟩⟩⟩⟩
  have e1:(l.getD 0 0).toNat=124:=by
   have e:=bne_eq_false_iff_eq.1 e1
   omega
  rintro⟨L,m⟩ ⟨h1,h2,h3⟩
  exact⟨(L,_),⟨h1,h2,fun n=>absurd e1 n⟩,fun _ _=>a_g rfl,rfl,fun _ _ _=>a_g rfl,rfl⟩
theorem x_e:a_t Tryz.prog 21:=⟨Tryz.f21,aa,rfl,aa⟩
theorem G_l(T:TD):(g7S T).Body Tryz.prog 21/\(g7S T).BodyD Tryz.prog 21:=by
 refine a_c (fn:=Tryz.f21) (b:=a_b Tryz.f21) (LT:=fun a=>[([0,1,0,1,1,1,1],(g7D T a).at (1:Nat))]) a_l (i_Q T) 1000 (fun a ha=>LTok.cons (fun fr H K hk=>LoopD.okn (G_k T a ha) hk) (LTok.nil)) aa aa ?_
 exact fun a ha=>Ho.of (g7R T a) aa (I_7 T a ha)
end Tk

