/- Lemmas of this claim; the last text says what is proved. -/
import Derived.Test.YtblencgndjjleaaGreatDoorK21
set_option linter.all false
set_option maxRecDepth 1000000
namespace Tk
open Go Go.Sx Go.Proofs
variable [Syms]
def s_F(T:TD):Prop:=
 letI b:=SId.mk 1 0 0;letI a:=Value.bool false;∃(j':CJ),a_W T j'/\a_G T j'<a_G T (CJ.mk true b (SId.mk 2 0 0) true b 0)/\a_f T=a_f T/\br j'.tn (a=a/\br j'.pn False (gd (Nat.beq 2 j'.p.1&&(Nat.beq 0 j'.p.2&&Nat.beq 0 j'.p.3)&&true) (gd (Nat.beq 3 j'.n.1&&(Nat.beq 0 j'.n.2&&Nat.beq 0 j'.n.3)&&true) True))) False
def s_G(T:TD):Prop:=
 letI a:=Value.bool false;∃(j':CJ),a_W T j'/\a_G T j'<a_G T (CJ.mk false (SId.mk 2 0 0) (SId.mk 3 0 0) true (SId.mk 1 0 0) 1)/\a_f T=a_f T/\br j'.tn (a=a/\br j'.pn False (gd (Nat.beq 3 j'.p.1&&(Nat.beq 0 j'.p.2&&Nat.beq 0 j'.p.3)&&true) (gd (Nat.beq 4 j'.n.1&&(Nat.beq 0 j'.n.2&&Nat.beq 0 j'.n.3)&&true) True))) False
def h_v(T:TD):Prop:=
 letI a:=Value.bool false;∃(j':CJ),a_W T j'/\a_G T j'<a_G T (CJ.mk false (SId.mk 3 0 0) (SId.mk 4 0 0) true (SId.mk 6 0 0) 3)/\a_f T=a_f T/\br j'.tn (a=a/\br j'.pn False (gd (Nat.beq 4 j'.p.1&&(Nat.beq 0 j'.p.2&&Nat.beq 0 j'.p.3)&&true) (gd (Nat.beq 5 j'.n.1&&(Nat.beq 0 j'.n.2&&Nat.beq 0 j'.n.3)&&true) True))) False
def h_w(T:TD)(i:Nat):Prop:=
 letI b:=i+1;letI a:=Value.bool false;∃(j':CJ),a_W T j'/\a_G T j'<a_G T (CJ.mk false (SId.mk 4 i 0) (SId.mk 4 b 0) true (SId.mk 6 0 0) (3+cS T b))/\a_f T=a_f T/\br j'.tn (a=a/\br j'.pn False (gd (Nat.beq 4 j'.p.1&&(Nat.beq b j'.p.2&&Nat.beq 0 j'.p.3)&&true) (gd (Nat.beq 5 j'.n.1&&(Nat.beq b j'.n.2&&Nat.beq 0 j'.n.3)&&true) True))) False
def f_r(T:TD):Prop:=
 letI k:=Value.bool false;letI h:=a_f (TD.wh T true);letI g:=k=k;letI f:=h=h;letI e:=TD.mk T.R T.2 true T.4 T.pad T.keep T.span T.promote T.pres T.skip T.role T.12 T.13 T.14 T.15 T.oP T.oK T.oM;letI d:=TD.hasT e 0 0;letI c:=Nat.blt 1 (e.C 0);letI b:=a_G e (CJ.mk false (SId.mk 4 0 0) (SId.mk 5 0 0) true (SId.mk 6 0 0) (4+cS e 0));letI a:=∃(j':CJ),a_W e j'/\a_G e j'<b/\f/\br j'.tn (g/\br j'.pn False (gd (Nat.beq 5 j'.p.1&&(Nat.beq 0 j'.p.2&&Nat.beq 0 j'.p.3)&&true) False)) False;br d (br d (∃(j':CJ),a_W e j'/\a_G e j'<b/\f/\br j'.tn (g/\br j'.pn False (gd (Nat.beq 5 j'.p.1&&(Nat.beq 0 j'.p.2&&Nat.beq 0 j'.p.3)&&true) (gd (Nat.beq 6 j'.n.1&&(Nat.beq 0 j'.n.2&&Nat.beq 0 j'.n.3)&&true) True))) False) a) (br c (br c (∃(j':CJ),a_W e j'/\a_G e j'<b/\f/\br j'.tn (g/\br j'.pn False (gd (Nat.beq 5 j'.p.1&&(Nat.beq 0 j'.p.2&&Nat.beq 0 j'.p.3)&&true) (gd (Nat.beq 5 j'.n.1&&(Nat.beq 0 j'.n.2&&Nat.beq 1 j'.n.3)&&true) True))) False) a) (∃(j':CJ),a_W e j'/\a_G e j'<b/\f/\br j'.tn (g/\br j'.pn False (gd (Nat.beq 5 j'.p.1&&(Nat.beq 0 j'.p.2&&Nat.beq 0 j'.p.3)&&true) (gd (Nat.beq 4 j'.n.1&&(Nat.beq 0 j'.n.2&&Nat.beq 0 j'.n.3)&&true) True))) False))
def f_s(T:TD)(j:Nat):Prop:=
 letI m:=j+1;letI k:=Value.bool false;letI h:=a_f (TD.wh T true);letI g:=k=k;letI f:=h=h;letI e:=TD.mk T.R T.2 true T.4 T.pad T.keep T.span T.promote T.pres T.skip T.role T.12 T.13 T.14 T.15 T.oP T.oK T.oM;letI d:=TD.hasT e 0 m;letI c:=Nat.blt (m+1) (e.C 0);letI b:=a_G e (CJ.mk false (SId.mk 5 0 j) (SId.mk 5 0 m) true (SId.mk 6 0 0) (4+cS e 0+Nat.mul 3 j+1+1+1));letI a:=∃(j':CJ),a_W e j'/\a_G e j'<b/\f/\br j'.tn (g/\br j'.pn False (gd (Nat.beq 5 j'.p.1&&(Nat.beq 0 j'.p.2&&Nat.beq m j'.p.3)&&true) False)) False;br d (br d (∃(j':CJ),a_W e j'/\a_G e j'<b/\f/\br j'.tn (g/\br j'.pn False (gd (Nat.beq 5 j'.p.1&&(Nat.beq 0 j'.p.2&&Nat.beq m j'.p.3)&&true) (gd (Nat.beq 6 j'.n.1&&(Nat.beq 0 j'.n.2&&Nat.beq m j'.n.3)&&true) True))) False) a) (br c (br c (∃(j':CJ),a_W e j'/\a_G e j'<b/\f/\br j'.tn (g/\br j'.pn False (gd (Nat.beq 5 j'.p.1&&(Nat.beq 0 j'.p.2&&Nat.beq m j'.p.3)&&true) (gd (Nat.beq 5 j'.n.1&&(Nat.beq 0 j'.n.2&&Nat.beq (m+1) j'.n.3)&&true) True))) False) a) (∃(j':CJ),a_W e j'/\a_G e j'<b/\f/\br j'.tn (g/\br j'.pn False (gd (Nat.beq 5 j'.p.1&&(Nat.beq 0 j'.p.2&&Nat.beq m j'.p.3)&&true) (gd (Nat.beq 4 j'.n.1&&(Nat.beq 0 j'.n.2&&Nat.beq 0 j'.n.3)&&true) True))) False))
def f_t(T:TD)(j:Nat):Prop:=
 letI m:=Value.bool false;letI k:=a_f (TD.wh T true);letI h:=m=m;letI g:=k=k;letI f:=TD.mk T.R T.2 true T.4 T.pad T.keep T.span T.promote T.pres T.skip T.role T.12 T.13 T.14 T.15 T.oP T.oK T.oM;letI e:=TD.hasT f 0 j;letI d:=Nat.blt (j+1) (f.C 0);letI c:=a_G f (CJ.mk false (SId.mk 6 0 j) (SId.mk 5 0 j) true (SId.mk 6 0 0) (6+cS f 0+3*j));letI b:=∃(j':CJ),a_W f j'/\a_G f j'<c/\g/\br j'.tn (h/\br j'.pn False (gd (Nat.beq 5 j'.p.1&&(Nat.beq 0 j'.p.2&&Nat.beq j j'.p.3)&&true) False)) False;letI a:=br d (br d (∃(j':CJ),a_W f j'/\a_G f j'<c/\g/\br j'.tn (h/\br j'.pn False (gd (Nat.beq 5 j'.p.1&&(Nat.beq 0 j'.p.2&&Nat.beq j j'.p.3)&&true) (gd (Nat.beq 5 j'.n.1&&(Nat.beq 0 j'.n.2&&Nat.beq (j+1) j'.n.3)&&true) True))) False) b) (∃(j':CJ),a_W f j'/\a_G f j'<c/\g/\br j'.tn (h/\br j'.pn False (gd (Nat.beq 5 j'.p.1&&(Nat.beq 0 j'.p.2&&Nat.beq j j'.p.3)&&true) (gd (Nat.beq 4 j'.n.1&&(Nat.beq 0 j'.n.2&&Nat.beq 0 j'.n.3)&&true) True))) False);br (Nat.beq j j&&true) a (br e (br e (∃(j':CJ),a_W f j'/\a_G f j'<c/\g/\br j'.tn (h/\br j'.pn False (gd (Nat.beq 5 j'.p.1&&(Nat.beq 0 j'.p.2&&Nat.beq j j'.p.3)&&true) (gd (Nat.beq 6 j'.n.1&&(Nat.beq 0 j'.n.2&&Nat.beq j j'.n.3)&&true) True))) False) b) a)
def f_u(T:TD):Prop:=
 letI k:=Value.bool false;letI h:=a_f (TD.wh T false);letI g:=k=k;letI f:=h=h;letI e:=TD.mk T.R T.2 false T.4 T.pad T.keep T.span T.promote T.pres T.skip T.role T.12 T.13 T.14 T.15 T.oP T.oK T.oM;letI d:=TD.hasT e 0 0;letI c:=Nat.blt 1 (e.C 0);letI b:=a_G e (CJ.mk false (SId.mk 4 0 0) (SId.mk 5 0 0) true (SId.mk 6 0 0) (4+cS e 0));letI a:=∃(j':CJ),a_W e j'/\a_G e j'<b/\f/\br j'.tn (g/\br j'.pn False (gd (Nat.beq 5 j'.p.1&&(Nat.beq 0 j'.p.2&&Nat.beq 0 j'.p.3)&&true) False)) False;br d (br d (∃(j':CJ),a_W e j'/\a_G e j'<b/\f/\br j'.tn (g/\br j'.pn False (gd (Nat.beq 5 j'.p.1&&(Nat.beq 0 j'.p.2&&Nat.beq 0 j'.p.3)&&true) (gd (Nat.beq 6 j'.n.1&&(Nat.beq 0 j'.n.2&&Nat.beq 0 j'.n.3)&&true) True))) False) a) (br c (br c (∃(j':CJ),a_W e j'/\a_G e j'<b/\f/\br j'.tn (g/\br j'.pn False (gd (Nat.beq 5 j'.p.1&&(Nat.beq 0 j'.p.2&&Nat.beq 0 j'.p.3)&&true) (gd (Nat.beq 5 j'.n.1&&(Nat.beq 0 j'.n.2&&Nat.beq 1 j'.n.3)&&true) True))) False) a) (∃(j':CJ),a_W e j'/\a_G e j'<b/\f/\br j'.tn (g/\br j'.pn False (gd (Nat.beq 5 j'.p.1&&(Nat.beq 0 j'.p.2&&Nat.beq 0 j'.p.3)&&true) (gd (Nat.beq 4 j'.n.1&&(Nat.beq 0 j'.n.2&&Nat.beq 0 j'.n.3)&&true) True))) False))
def f_v(T:TD)(j:Nat):Prop:=
 letI m:=j+1;letI k:=Value.bool false;letI h:=a_f (TD.wh T false);letI g:=k=k;letI f:=h=h;letI e:=TD.mk T.R T.2 false T.4 T.pad T.keep T.span T.promote T.pres T.skip T.role T.12 T.13 T.14 T.15 T.oP T.oK T.oM;letI d:=TD.hasT e 0 m;letI c:=Nat.blt (m+1) (e.C 0);letI b:=a_G e (CJ.mk false (SId.mk 5 0 j) (SId.mk 5 0 m) true (SId.mk 6 0 0) (4+cS e 0+Nat.mul 3 j+1+1+1));letI a:=∃(j':CJ),a_W e j'/\a_G e j'<b/\f/\br j'.tn (g/\br j'.pn False (gd (Nat.beq 5 j'.p.1&&(Nat.beq 0 j'.p.2&&Nat.beq m j'.p.3)&&true) False)) False;br d (br d (∃(j':CJ),a_W e j'/\a_G e j'<b/\f/\br j'.tn (g/\br j'.pn False (gd (Nat.beq 5 j'.p.1&&(Nat.beq 0 j'.p.2&&Nat.beq m j'.p.3)&&true) (gd (Nat.beq 6 j'.n.1&&(Nat.beq 0 j'.n.2&&Nat.beq m j'.n.3)&&true) True))) False) a) (br c (br c (∃(j':CJ),a_W e j'/\a_G e j'<b/\f/\br j'.tn (g/\br j'.pn False (gd (Nat.beq 5 j'.p.1&&(Nat.beq 0 j'.p.2&&Nat.beq m j'.p.3)&&true) (gd (Nat.beq 5 j'.n.1&&(Nat.beq 0 j'.n.2&&Nat.beq (m+1) j'.n.3)&&true) True))) False) a) (∃(j':CJ),a_W e j'/\a_G e j'<b/\f/\br j'.tn (g/\br j'.pn False (gd (Nat.beq 5 j'.p.1&&(Nat.beq 0 j'.p.2&&Nat.beq m j'.p.3)&&true) (gd (Nat.beq 4 j'.n.1&&(Nat.beq 0 j'.n.2&&Nat.beq 0 j'.n.3)&&true) True))) False))
def f_w(T:TD)(j:Nat):Prop:=
 letI m:=Value.bool false;letI k:=a_f (TD.wh T false);letI h:=m=m;letI g:=k=k;letI f:=TD.mk T.R T.2 false T.4 T.pad T.keep T.span T.promote T.pres T.skip T.role T.12 T.13 T.14 T.15 T.oP T.oK T.oM;letI e:=TD.hasT f 0 j;letI d:=Nat.blt (j+1) (f.C 0);letI c:=a_G f (CJ.mk false (SId.mk 6 0 j) (SId.mk 5 0 j) true (SId.mk 6 0 0) (6+cS f 0+3*j));letI b:=∃(j':CJ),a_W f j'/\a_G f j'<c/\g/\br j'.tn (h/\br j'.pn False (gd (Nat.beq 5 j'.p.1&&(Nat.beq 0 j'.p.2&&Nat.beq j j'.p.3)&&true) False)) False;letI a:=br d (br d (∃(j':CJ),a_W f j'/\a_G f j'<c/\g/\br j'.tn (h/\br j'.pn False (gd (Nat.beq 5 j'.p.1&&(Nat.beq 0 j'.p.2&&Nat.beq j j'.p.3)&&true) (gd (Nat.beq 5 j'.n.1&&(Nat.beq 0 j'.n.2&&Nat.beq (j+1) j'.n.3)&&true) True))) False) b) (∃(j':CJ),a_W f j'/\a_G f j'<c/\g/\br j'.tn (h/\br j'.pn False (gd (Nat.beq 5 j'.p.1&&(Nat.beq 0 j'.p.2&&Nat.beq j j'.p.3)&&true) (gd (Nat.beq 4 j'.n.1&&(Nat.beq 0 j'.n.2&&Nat.beq 0 j'.n.3)&&true) True))) False);br (Nat.beq j j&&true) a (br e (br e (∃(j':CJ),a_W f j'/\a_G f j'<c/\g/\br j'.tn (h/\br j'.pn False (gd (Nat.beq 5 j'.p.1&&(Nat.beq 0 j'.p.2&&Nat.beq j j'.p.3)&&true) (gd (Nat.beq 6 j'.n.1&&(Nat.beq 0 j'.n.2&&Nat.beq j j'.n.3)&&true) True))) False) b) a)
def f_x(T:TD)(i:Nat):Prop:=
 letI h:=i+1;letI g:=a_f T=a_f T;letI f:=Value.bool false;letI e:=TD.hasT T h 0;letI d:=Nat.blt (0+1) (T.C h);letI c:=f=f;letI b:=a_G T (CJ.mk false (SId.mk 4 h 0) (SId.mk 5 h 0) true (SId.mk 6 0 0) (4+cS T h));letI a:=∃(j':CJ),a_W T j'/\a_G T j'<b/\g/\br j'.tn (c/\br j'.pn False (gd (Nat.beq 5 j'.p.1&&(Nat.beq h j'.p.2&&Nat.beq 0 j'.p.3)&&true) False)) False;br e (br e (∃(j':CJ),a_W T j'/\a_G T j'<b/\g/\br j'.tn (c/\br j'.pn False (gd (Nat.beq 5 j'.p.1&&(Nat.beq h j'.p.2&&Nat.beq 0 j'.p.3)&&true) (gd (Nat.beq 6 j'.n.1&&(Nat.beq h j'.n.2&&Nat.beq 0 j'.n.3)&&true) True))) False) a) (br d (br d (∃(j':CJ),a_W T j'/\a_G T j'<b/\g/\br j'.tn (c/\br j'.pn False (gd (Nat.beq 5 j'.p.1&&(Nat.beq h j'.p.2&&Nat.beq 0 j'.p.3)&&true) (gd (Nat.beq 5 j'.n.1&&(Nat.beq h j'.n.2&&Nat.beq 1 j'.n.3)&&true) True))) False) a) (∃(j':CJ),a_W T j'/\a_G T j'<b/\g/\br j'.tn (c/\br j'.pn False (gd (Nat.beq 5 j'.p.1&&(Nat.beq h j'.p.2&&Nat.beq 0 j'.p.3)&&true) (gd (Nat.beq 4 j'.n.1&&(Nat.beq h j'.n.2&&Nat.beq 0 j'.n.3)&&true) True))) False))
def f_y(T:TD)(i:Nat)(j:Nat):Prop:=
 letI h:=i+1;letI k:=j+1;letI g:=a_f T=a_f T;letI f:=Value.bool false;letI e:=TD.hasT T h k;letI d:=Nat.blt (k+1) (T.C h);letI c:=f=f;letI b:=a_G T (CJ.mk false (SId.mk 5 h j) (SId.mk 5 h k) true (SId.mk 6 0 0) (4+cS T h+Nat.mul 3 j+1+1+1));letI a:=∃(j':CJ),a_W T j'/\a_G T j'<b/\g/\br j'.tn (c/\br j'.pn False (gd (Nat.beq 5 j'.p.1&&(Nat.beq h j'.p.2&&Nat.beq k j'.p.3)&&true) False)) False;br e (br e (∃(j':CJ),a_W T j'/\a_G T j'<b/\g/\br j'.tn (c/\br j'.pn False (gd (Nat.beq 5 j'.p.1&&(Nat.beq h j'.p.2&&Nat.beq k j'.p.3)&&true) (gd (Nat.beq 6 j'.n.1&&(Nat.beq h j'.n.2&&Nat.beq k j'.n.3)&&true) True))) False) a) (br d (br d (∃(j':CJ),a_W T j'/\a_G T j'<b/\g/\br j'.tn (c/\br j'.pn False (gd (Nat.beq 5 j'.p.1&&(Nat.beq h j'.p.2&&Nat.beq k j'.p.3)&&true) (gd (Nat.beq 5 j'.n.1&&(Nat.beq h j'.n.2&&Nat.beq (k+1) j'.n.3)&&true) True))) False) a) (∃(j':CJ),a_W T j'/\a_G T j'<b/\g/\br j'.tn (c/\br j'.pn False (gd (Nat.beq 5 j'.p.1&&(Nat.beq h j'.p.2&&Nat.beq k j'.p.3)&&true) (gd (Nat.beq 4 j'.n.1&&(Nat.beq h j'.n.2&&Nat.beq 0 j'.n.3)&&true) True))) False))
def f_z(T:TD)(i:Nat)(j:Nat):Prop:=
 letI k:=i+1;letI h:=a_f T=a_f T;letI g:=Value.bool false;letI f:=TD.hasT T k j;letI e:=Nat.blt (j+1) (T.C k);letI d:=g=g;letI c:=a_G T (CJ.mk false (SId.mk 6 k j) (SId.mk 5 k j) true (SId.mk 6 0 0) (6+cS T k+3*j));letI b:=∃(j':CJ),a_W T j'/\a_G T j'<c/\h/\br j'.tn (d/\br j'.pn False (gd (Nat.beq 5 j'.p.1&&(Nat.beq k j'.p.2&&Nat.beq j j'.p.3)&&true) False)) False;letI a:=br e (br e (∃(j':CJ),a_W T j'/\a_G T j'<c/\h/\br j'.tn (d/\br j'.pn False (gd (Nat.beq 5 j'.p.1&&(Nat.beq k j'.p.2&&Nat.beq j j'.p.3)&&true) (gd (Nat.beq 5 j'.n.1&&(Nat.beq k j'.n.2&&Nat.beq (j+1) j'.n.3)&&true) True))) False) b) (∃(j':CJ),a_W T j'/\a_G T j'<c/\h/\br j'.tn (d/\br j'.pn False (gd (Nat.beq 5 j'.p.1&&(Nat.beq k j'.p.2&&Nat.beq j j'.p.3)&&true) (gd (Nat.beq 4 j'.n.1&&(Nat.beq k j'.n.2&&Nat.beq 0 j'.n.3)&&true) True))) False);br (Nat.beq k k&&Nat.beq j j&&true) a (br f (br f (∃(j':CJ),a_W T j'/\a_G T j'<c/\h/\br j'.tn (d/\br j'.pn False (gd (Nat.beq 5 j'.p.1&&(Nat.beq k j'.p.2&&Nat.beq j j'.p.3)&&true) (gd (Nat.beq 6 j'.n.1&&(Nat.beq k j'.n.2&&Nat.beq j j'.n.3)&&true) True))) False) b) a)
def h_x(T:TD)(i:Nat)(j:Nat):Prop:=
 letI n:=T.tx i j;letI m:=TD.hasT T i j;letI h:=a_f T=a_f T;letI g:=Value.bool false;letI e:=Nat.beq i i&&Nat.beq j j&&true;letI d:=br m (br e False False) False;letI c:=br (!e) False (br m (br e False d) d);letI b:=∃(j':CJ),a_W T j'/\a_G T j'<a_G T (CJ.mk false (SId.mk 5 i j) (SId.mk 6 i j) true (SId.mk 6 0 0) (5+cS T i+3*j))/\h/\br j'.tn False (gd (Nat.beq 6 j'.t.1&&(Nat.beq i j'.t.2&&Nat.beq j j'.t.3)&&true) (g=g/\br j'.pn False (gd (Nat.beq 6 j'.p.1&&(Nat.beq i j'.p.2&&Nat.beq j j'.p.3)&&true) (gd (Nat.beq 5 j'.n.1&&(Nat.beq i j'.n.2&&Nat.beq j j'.n.3)&&true) True))));h/\(Words n/\List.length n<=2147483647)/\n=n/\∀(x:List UInt8),letI k:=List.drop 1 x;letI f:=Int.ofNat (List.length x);letI a:=br (eqL x []) c (x=n/\b);x=n->br (!eqL x []) (gd (decide (Int.ofNat 0<f)) (br (Int.ofNat (UInt8.toNat (List.getD x 0 (0:UInt8)))==Int.ofNat 32) (gd (decide (Int.ofNat 1<=f)&&decide (f<=f)) (br (eqL k []) c (k=n/\b))) a)) a
def h_y(T:TD)(i:Nat):Prop:=
 letI e:=a_f T=a_f T;letI d:=Value.bool false;letI c:=Nat.blt (i+1) T.R;letI b:=d=d;letI a:=a_G T (CJ.mk false (SId.mk 5 i (T.C i-1)) (SId.mk 4 i 0) true (SId.mk 6 0 0) (4+cS T i+3*T.C i));br (Nat.beq i i&&true&&true) (br c (br c (∃(j':CJ),a_W T j'/\a_G T j'<a/\e/\br j'.tn (b/\br j'.pn False (gd (Nat.beq 4 j'.p.1&&(Nat.beq i j'.p.2&&Nat.beq 0 j'.p.3)&&true) (gd (Nat.beq 4 j'.n.1&&(Nat.beq (i+1) j'.n.2&&Nat.beq 0 j'.n.3)&&true) True))) False) (∃(j':CJ),a_W T j'/\a_G T j'<a/\e/\br j'.tn (b/\br j'.pn False (gd (Nat.beq 4 j'.p.1&&(Nat.beq i j'.p.2&&Nat.beq 0 j'.p.3)&&true) False)) False)) (∃(j':CJ),a_W T j'/\a_G T j'<a/\e/\br j'.tn (b/\br j'.pn False (gd (Nat.beq 4 j'.p.1&&(Nat.beq i j'.p.2&&Nat.beq 0 j'.p.3)&&true) (gd (Nat.beq 3 j'.n.1&&(Nat.beq 0 j'.n.2&&Nat.beq 0 j'.n.3)&&true) True))) False)) (∃(j':CJ),a_W T j'/\a_G T j'<a/\e/\br j'.tn (b/\br j'.pn False (gd (Nat.beq 4 j'.p.1&&(Nat.beq i j'.p.2&&Nat.beq 0 j'.p.3)&&true) (gd (Nat.beq 5 j'.n.1&&(Nat.beq i j'.n.2&&Nat.beq 0 j'.n.3)&&true) True))) False)
def h_z(T:TD):Prop:=
 letI a:=Value.bool false;∃(j':CJ),a_W T j'/\a_G T j'<a_G T (CJ.mk false (SId.mk 4 (T.R-1) 0) (SId.mk 3 0 0) true (SId.mk 6 0 0) (3+cS T T.R))/\a_f T=a_f T/\br j'.tn (a=a/\br j'.pn False (gd (Nat.beq 3 j'.p.1&&(Nat.beq 0 j'.p.2&&Nat.beq 0 j'.p.3)&&true) (gd (Nat.beq 2 j'.n.1&&(Nat.beq 0 j'.n.2&&Nat.beq 0 j'.n.3)&&true) True))) False
def h_A(T:TD):Prop:=
 letI a:=Value.bool false;∃(j':CJ),a_W T j'/\a_G T j'<a_G T (CJ.mk false (SId.mk 3 0 0) (SId.mk 2 0 0) true (SId.mk 6 0 0) (4+cS T T.R))/\a_f T=a_f T/\br j'.tn (a=a/\br j'.pn False (gd (Nat.beq 2 j'.p.1&&(Nat.beq 0 j'.p.2&&Nat.beq 0 j'.p.3)&&true) (gd (Nat.beq 1 j'.n.1&&(Nat.beq 0 j'.n.2&&Nat.beq 0 j'.n.3)&&true) True))) False
def h_B(T:TD)(a:Nat)(b:Nat):Prop:=
 letI c:=Value.bool false;∃(j':CJ),a_W T j'/\a_G T j'<a_G T (CJ.mk false (SId.mk 3 0 0) (SId.mk 4 0 0) false (SId.mk 6 a b) 3)/\a_f T=a_f T/\br j'.tn False (gd (Nat.beq 6 j'.t.1&&(Nat.beq a j'.t.2&&Nat.beq b j'.t.3)&&true) (c=c/\br j'.pn False (gd (Nat.beq 4 j'.p.1&&(Nat.beq 0 j'.p.2&&Nat.beq 0 j'.p.3)&&true) (gd (Nat.beq 5 j'.n.1&&(Nat.beq 0 j'.n.2&&Nat.beq 0 j'.n.3)&&true) True))))
def h_C(T:TD)(i:Nat)(a:Nat)(b:Nat):Prop:=
 letI d:=i+1;letI c:=Value.bool false;∃(j':CJ),a_W T j'/\a_G T j'<a_G T (CJ.mk false (SId.mk 4 i 0) (SId.mk 4 d 0) false (SId.mk 6 a b) (3+cS T d))/\a_f T=a_f T/\br j'.tn False (gd (Nat.beq 6 j'.t.1&&(Nat.beq a j'.t.2&&Nat.beq b j'.t.3)&&true) (c=c/\br j'.pn False (gd (Nat.beq 4 j'.p.1&&(Nat.beq d j'.p.2&&Nat.beq 0 j'.p.3)&&true) (gd (Nat.beq 5 j'.n.1&&(Nat.beq d j'.n.2&&Nat.beq 0 j'.n.3)&&true) True))))
def f_A(T:TD)(a:Nat)(b:Nat):Prop:=
 letI n:=Value.bool false;letI m:=a_f (TD.wh T true);letI k:=n=n;letI h:=m=m;letI g:=TD.mk T.R T.2 true T.4 T.pad T.keep T.span T.promote T.pres T.skip T.role T.12 T.13 T.14 T.15 T.oP T.oK T.oM;letI f:=TD.hasT g 0 0;letI e:=Nat.blt 1 (g.C 0);letI d:=a_G g (CJ.mk false (SId.mk 4 0 0) (SId.mk 5 0 0) false (SId.mk 6 a b) (4+cS g 0));letI c:=∃(j':CJ),a_W g j'/\a_G g j'<d/\h/\br j'.tn False (gd (Nat.beq 6 j'.t.1&&(Nat.beq a j'.t.2&&Nat.beq b j'.t.3)&&true) (k/\br j'.pn False (gd (Nat.beq 5 j'.p.1&&(Nat.beq 0 j'.p.2&&Nat.beq 0 j'.p.3)&&true) False)));br f (br f (∃(j':CJ),a_W g j'/\a_G g j'<d/\h/\br j'.tn False (gd (Nat.beq 6 j'.t.1&&(Nat.beq a j'.t.2&&Nat.beq b j'.t.3)&&true) (k/\br j'.pn False (gd (Nat.beq 5 j'.p.1&&(Nat.beq 0 j'.p.2&&Nat.beq 0 j'.p.3)&&true) (gd (Nat.beq 6 j'.n.1&&(Nat.beq 0 j'.n.2&&Nat.beq 0 j'.n.3)&&true) True))))) c) (br e (br e (∃(j':CJ),a_W g j'/\a_G g j'<d/\h/\br j'.tn False (gd (Nat.beq 6 j'.t.1&&(Nat.beq a j'.t.2&&Nat.beq b j'.t.3)&&true) (k/\br j'.pn False (gd (Nat.beq 5 j'.p.1&&(Nat.beq 0 j'.p.2&&Nat.beq 0 j'.p.3)&&true) (gd (Nat.beq 5 j'.n.1&&(Nat.beq 0 j'.n.2&&Nat.beq 1 j'.n.3)&&true) True))))) c) (∃(j':CJ),a_W g j'/\a_G g j'<d/\h/\br j'.tn False (gd (Nat.beq 6 j'.t.1&&(Nat.beq a j'.t.2&&Nat.beq b j'.t.3)&&true) (k/\br j'.pn False (gd (Nat.beq 5 j'.p.1&&(Nat.beq 0 j'.p.2&&Nat.beq 0 j'.p.3)&&true) (gd (Nat.beq 4 j'.n.1&&(Nat.beq 0 j'.n.2&&Nat.beq 0 j'.n.3)&&true) True))))))
def f_B(T:TD)(j:Nat)(a:Nat)(b:Nat):Prop:=
 letI p:=j+1;letI n:=Value.bool false;letI m:=a_f (TD.wh T true);letI k:=n=n;letI h:=m=m;letI g:=TD.mk T.R T.2 true T.4 T.pad T.keep T.span T.promote T.pres T.skip T.role T.12 T.13 T.14 T.15 T.oP T.oK T.oM;letI f:=TD.hasT g 0 p;letI e:=Nat.blt (p+1) (g.C 0);letI d:=a_G g (CJ.mk false (SId.mk 5 0 j) (SId.mk 5 0 p) false (SId.mk 6 a b) (4+cS g 0+Nat.mul 3 j+1+1+1));letI c:=∃(j':CJ),a_W g j'/\a_G g j'<d/\h/\br j'.tn False (gd (Nat.beq 6 j'.t.1&&(Nat.beq a j'.t.2&&Nat.beq b j'.t.3)&&true) (k/\br j'.pn False (gd (Nat.beq 5 j'.p.1&&(Nat.beq 0 j'.p.2&&Nat.beq p j'.p.3)&&true) False)));br f (br f (∃(j':CJ),a_W g j'/\a_G g j'<d/\h/\br j'.tn False (gd (Nat.beq 6 j'.t.1&&(Nat.beq a j'.t.2&&Nat.beq b j'.t.3)&&true) (k/\br j'.pn False (gd (Nat.beq 5 j'.p.1&&(Nat.beq 0 j'.p.2&&Nat.beq p j'.p.3)&&true) (gd (Nat.beq 6 j'.n.1&&(Nat.beq 0 j'.n.2&&Nat.beq p j'.n.3)&&true) True))))) c) (br e (br e (∃(j':CJ),a_W g j'/\a_G g j'<d/\h/\br j'.tn False (gd (Nat.beq 6 j'.t.1&&(Nat.beq a j'.t.2&&Nat.beq b j'.t.3)&&true) (k/\br j'.pn False (gd (Nat.beq 5 j'.p.1&&(Nat.beq 0 j'.p.2&&Nat.beq p j'.p.3)&&true) (gd (Nat.beq 5 j'.n.1&&(Nat.beq 0 j'.n.2&&Nat.beq (p+1) j'.n.3)&&true) True))))) c) (∃(j':CJ),a_W g j'/\a_G g j'<d/\h/\br j'.tn False (gd (Nat.beq 6 j'.t.1&&(Nat.beq a j'.t.2&&Nat.beq b j'.t.3)&&true) (k/\br j'.pn False (gd (Nat.beq 5 j'.p.1&&(Nat.beq 0 j'.p.2&&Nat.beq p j'.p.3)&&true) (gd (Nat.beq 4 j'.n.1&&(Nat.beq 0 j'.n.2&&Nat.beq 0 j'.n.3)&&true) True))))))
def f_C(T:TD)(j:Nat)(a:Nat)(b:Nat):Prop:=
 letI p:=Value.bool false;letI n:=a_f (TD.wh T true);letI m:=p=p;letI k:=n=n;letI h:=TD.mk T.R T.2 true T.4 T.pad T.keep T.span T.promote T.pres T.skip T.role T.12 T.13 T.14 T.15 T.oP T.oK T.oM;letI g:=TD.hasT h 0 j;letI f:=Nat.blt (j+1) (h.C 0);letI e:=a_G h (CJ.mk false (SId.mk 6 0 j) (SId.mk 5 0 j) false (SId.mk 6 a b) (6+cS h 0+3*j));letI d:=∃(j':CJ),a_W h j'/\a_G h j'<e/\k/\br j'.tn False (gd (Nat.beq 6 j'.t.1&&(Nat.beq a j'.t.2&&Nat.beq b j'.t.3)&&true) (m/\br j'.pn False (gd (Nat.beq 5 j'.p.1&&(Nat.beq 0 j'.p.2&&Nat.beq j j'.p.3)&&true) False)));letI c:=br f (br f (∃(j':CJ),a_W h j'/\a_G h j'<e/\k/\br j'.tn False (gd (Nat.beq 6 j'.t.1&&(Nat.beq a j'.t.2&&Nat.beq b j'.t.3)&&true) (m/\br j'.pn False (gd (Nat.beq 5 j'.p.1&&(Nat.beq 0 j'.p.2&&Nat.beq j j'.p.3)&&true) (gd (Nat.beq 5 j'.n.1&&(Nat.beq 0 j'.n.2&&Nat.beq (j+1) j'.n.3)&&true) True))))) d) (∃(j':CJ),a_W h j'/\a_G h j'<e/\k/\br j'.tn False (gd (Nat.beq 6 j'.t.1&&(Nat.beq a j'.t.2&&Nat.beq b j'.t.3)&&true) (m/\br j'.pn False (gd (Nat.beq 5 j'.p.1&&(Nat.beq 0 j'.p.2&&Nat.beq j j'.p.3)&&true) (gd (Nat.beq 4 j'.n.1&&(Nat.beq 0 j'.n.2&&Nat.beq 0 j'.n.3)&&true) True)))));br (Nat.beq j j&&true) c (br g (br g (∃(j':CJ),a_W h j'/\a_G h j'<e/\k/\br j'.tn False (gd (Nat.beq 6 j'.t.1&&(Nat.beq a j'.t.2&&Nat.beq b j'.t.3)&&true) (m/\br j'.pn False (gd (Nat.beq 5 j'.p.1&&(Nat.beq 0 j'.p.2&&Nat.beq j j'.p.3)&&true) (gd (Nat.beq 6 j'.n.1&&(Nat.beq 0 j'.n.2&&Nat.beq j j'.n.3)&&true) True))))) d) c)
def f_D(T:TD)(a:Nat)(b:Nat):Prop:=
 letI n:=Value.bool false;letI m:=a_f (TD.wh T false);letI k:=n=n;letI h:=m=m;letI g:=TD.mk T.R T.2 false T.4 T.pad T.keep T.span T.promote T.pres T.skip T.role T.12 T.13 T.14 T.15 T.oP T.oK T.oM;letI f:=TD.hasT g 0 0;letI e:=Nat.blt 1 (g.C 0);letI d:=a_G g (CJ.mk false (SId.mk 4 0 0) (SId.mk 5 0 0) false (SId.mk 6 a b) (4+cS g 0));letI c:=∃(j':CJ),a_W g j'/\a_G g j'<d/\h/\br j'.tn False (gd (Nat.beq 6 j'.t.1&&(Nat.beq a j'.t.2&&Nat.beq b j'.t.3)&&true) (k/\br j'.pn False (gd (Nat.beq 5 j'.p.1&&(Nat.beq 0 j'.p.2&&Nat.beq 0 j'.p.3)&&true) False)));br f (br f (∃(j':CJ),a_W g j'/\a_G g j'<d/\h/\br j'.tn False (gd (Nat.beq 6 j'.t.1&&(Nat.beq a j'.t.2&&Nat.beq b j'.t.3)&&true) (k/\br j'.pn False (gd (Nat.beq 5 j'.p.1&&(Nat.beq 0 j'.p.2&&Nat.beq 0 j'.p.3)&&true) (gd (Nat.beq 6 j'.n.1&&(Nat.beq 0 j'.n.2&&Nat.beq 0 j'.n.3)&&true) True))))) c) (br e (br e (∃(j':CJ),a_W g j'/\a_G g j'<d/\h/\br j'.tn False (gd (Nat.beq 6 j'.t.1&&(Nat.beq a j'.t.2&&Nat.beq b j'.t.3)&&true) (k/\br j'.pn False (gd (Nat.beq 5 j'.p.1&&(Nat.beq 0 j'.p.2&&Nat.beq 0 j'.p.3)&&true) (gd (Nat.beq 5 j'.n.1&&(Nat.beq 0 j'.n.2&&Nat.beq 1 j'.n.3)&&true) True))))) c) (∃(j':CJ),a_W g j'/\a_G g j'<d/\h/\br j'.tn False (gd (Nat.beq 6 j'.t.1&&(Nat.beq a j'.t.2&&Nat.beq b j'.t.3)&&true) (k/\br j'.pn False (gd (Nat.beq 5 j'.p.1&&(Nat.beq 0 j'.p.2&&Nat.beq 0 j'.p.3)&&true) (gd (Nat.beq 4 j'.n.1&&(Nat.beq 0 j'.n.2&&Nat.beq 0 j'.n.3)&&true) True))))))
def f_E(T:TD)(j:Nat)(a:Nat)(b:Nat):Prop:=
 letI p:=j+1;letI n:=Value.bool false;letI m:=a_f (TD.wh T false);letI k:=n=n;letI h:=m=m;letI g:=TD.mk T.R T.2 false T.4 T.pad T.keep T.span T.promote T.pres T.skip T.role T.12 T.13 T.14 T.15 T.oP T.oK T.oM;letI f:=TD.hasT g 0 p;letI e:=Nat.blt (p+1) (g.C 0);letI d:=a_G g (CJ.mk false (SId.mk 5 0 j) (SId.mk 5 0 p) false (SId.mk 6 a b) (4+cS g 0+Nat.mul 3 j+1+1+1));letI c:=∃(j':CJ),a_W g j'/\a_G g j'<d/\h/\br j'.tn False (gd (Nat.beq 6 j'.t.1&&(Nat.beq a j'.t.2&&Nat.beq b j'.t.3)&&true) (k/\br j'.pn False (gd (Nat.beq 5 j'.p.1&&(Nat.beq 0 j'.p.2&&Nat.beq p j'.p.3)&&true) False)));br f (br f (∃(j':CJ),a_W g j'/\a_G g j'<d/\h/\br j'.tn False (gd (Nat.beq 6 j'.t.1&&(Nat.beq a j'.t.2&&Nat.beq b j'.t.3)&&true) (k/\br j'.pn False (gd (Nat.beq 5 j'.p.1&&(Nat.beq 0 j'.p.2&&Nat.beq p j'.p.3)&&true) (gd (Nat.beq 6 j'.n.1&&(Nat.beq 0 j'.n.2&&Nat.beq p j'.n.3)&&true) True))))) c) (br e (br e (∃(j':CJ),a_W g j'/\a_G g j'<d/\h/\br j'.tn False (gd (Nat.beq 6 j'.t.1&&(Nat.beq a j'.t.2&&Nat.beq b j'.t.3)&&true) (k/\br j'.pn False (gd (Nat.beq 5 j'.p.1&&(Nat.beq 0 j'.p.2&&Nat.beq p j'.p.3)&&true) (gd (Nat.beq 5 j'.n.1&&(Nat.beq 0 j'.n.2&&Nat.beq (p+1) j'.n.3)&&true) True))))) c) (∃(j':CJ),a_W g j'/\a_G g j'<d/\h/\br j'.tn False (gd (Nat.beq 6 j'.t.1&&(Nat.beq a j'.t.2&&Nat.beq b j'.t.3)&&true) (k/\br j'.pn False (gd (Nat.beq 5 j'.p.1&&(Nat.beq 0 j'.p.2&&Nat.beq p j'.p.3)&&true) (gd (Nat.beq 4 j'.n.1&&(Nat.beq 0 j'.n.2&&Nat.beq 0 j'.n.3)&&true) True))))))
def f_F(T:TD)(j:Nat)(a:Nat)(b:Nat):Prop:=
 letI p:=Value.bool false;letI n:=a_f (TD.wh T false);letI m:=p=p;letI k:=n=n;letI h:=TD.mk T.R T.2 false T.4 T.pad T.keep T.span T.promote T.pres T.skip T.role T.12 T.13 T.14 T.15 T.oP T.oK T.oM;letI g:=TD.hasT h 0 j;letI f:=Nat.blt (j+1) (h.C 0);letI e:=a_G h (CJ.mk false (SId.mk 6 0 j) (SId.mk 5 0 j) false (SId.mk 6 a b) (6+cS h 0+3*j));letI d:=∃(j':CJ),a_W h j'/\a_G h j'<e/\k/\br j'.tn False (gd (Nat.beq 6 j'.t.1&&(Nat.beq a j'.t.2&&Nat.beq b j'.t.3)&&true) (m/\br j'.pn False (gd (Nat.beq 5 j'.p.1&&(Nat.beq 0 j'.p.2&&Nat.beq j j'.p.3)&&true) False)));letI c:=br f (br f (∃(j':CJ),a_W h j'/\a_G h j'<e/\k/\br j'.tn False (gd (Nat.beq 6 j'.t.1&&(Nat.beq a j'.t.2&&Nat.beq b j'.t.3)&&true) (m/\br j'.pn False (gd (Nat.beq 5 j'.p.1&&(Nat.beq 0 j'.p.2&&Nat.beq j j'.p.3)&&true) (gd (Nat.beq 5 j'.n.1&&(Nat.beq 0 j'.n.2&&Nat.beq (j+1) j'.n.3)&&true) True))))) d) (∃(j':CJ),a_W h j'/\a_G h j'<e/\k/\br j'.tn False (gd (Nat.beq 6 j'.t.1&&(Nat.beq a j'.t.2&&Nat.beq b j'.t.3)&&true) (m/\br j'.pn False (gd (Nat.beq 5 j'.p.1&&(Nat.beq 0 j'.p.2&&Nat.beq j j'.p.3)&&true) (gd (Nat.beq 4 j'.n.1&&(Nat.beq 0 j'.n.2&&Nat.beq 0 j'.n.3)&&true) True)))));br (Nat.beq j j&&true) c (br g (br g (∃(j':CJ),a_W h j'/\a_G h j'<e/\k/\br j'.tn False (gd (Nat.beq 6 j'.t.1&&(Nat.beq a j'.t.2&&Nat.beq b j'.t.3)&&true) (m/\br j'.pn False (gd (Nat.beq 5 j'.p.1&&(Nat.beq 0 j'.p.2&&Nat.beq j j'.p.3)&&true) (gd (Nat.beq 6 j'.n.1&&(Nat.beq 0 j'.n.2&&Nat.beq j j'.n.3)&&true) True))))) d) c)
def f_G(T:TD)(i:Nat)(a:Nat)(b:Nat):Prop:=
 letI m:=i+1;letI k:=a_f T=a_f T;letI h:=Value.bool false;letI g:=TD.hasT T m 0;letI f:=Nat.blt (0+1) (T.C m);letI e:=h=h;letI d:=a_G T (CJ.mk false (SId.mk 4 m 0) (SId.mk 5 m 0) false (SId.mk 6 a b) (4+cS T m));letI c:=∃(j':CJ),a_W T j'/\a_G T j'<d/\k/\br j'.tn False (gd (Nat.beq 6 j'.t.1&&(Nat.beq a j'.t.2&&Nat.beq b j'.t.3)&&true) (e/\br j'.pn False (gd (Nat.beq 5 j'.p.1&&(Nat.beq m j'.p.2&&Nat.beq 0 j'.p.3)&&true) False)));br g (br g (∃(j':CJ),a_W T j'/\a_G T j'<d/\k/\br j'.tn False (gd (Nat.beq 6 j'.t.1&&(Nat.beq a j'.t.2&&Nat.beq b j'.t.3)&&true) (e/\br j'.pn False (gd (Nat.beq 5 j'.p.1&&(Nat.beq m j'.p.2&&Nat.beq 0 j'.p.3)&&true) (gd (Nat.beq 6 j'.n.1&&(Nat.beq m j'.n.2&&Nat.beq 0 j'.n.3)&&true) True))))) c) (br f (br f (∃(j':CJ),a_W T j'/\a_G T j'<d/\k/\br j'.tn False (gd (Nat.beq 6 j'.t.1&&(Nat.beq a j'.t.2&&Nat.beq b j'.t.3)&&true) (e/\br j'.pn False (gd (Nat.beq 5 j'.p.1&&(Nat.beq m j'.p.2&&Nat.beq 0 j'.p.3)&&true) (gd (Nat.beq 5 j'.n.1&&(Nat.beq m j'.n.2&&Nat.beq 1 j'.n.3)&&true) True))))) c) (∃(j':CJ),a_W T j'/\a_G T j'<d/\k/\br j'.tn False (gd (Nat.beq 6 j'.t.1&&(Nat.beq a j'.t.2&&Nat.beq b j'.t.3)&&true) (e/\br j'.pn False (gd (Nat.beq 5 j'.p.1&&(Nat.beq m j'.p.2&&Nat.beq 0 j'.p.3)&&true) (gd (Nat.beq 4 j'.n.1&&(Nat.beq m j'.n.2&&Nat.beq 0 j'.n.3)&&true) True))))))
def f_H(T:TD)(i:Nat)(j:Nat)(a:Nat)(b:Nat):Prop:=
 letI m:=i+1;letI n:=j+1;letI k:=a_f T=a_f T;letI h:=Value.bool false;letI g:=TD.hasT T m n;letI f:=Nat.blt (n+1) (T.C m);letI e:=h=h;letI d:=a_G T (CJ.mk false (SId.mk 5 m j) (SId.mk 5 m n) false (SId.mk 6 a b) (4+cS T m+Nat.mul 3 j+1+1+1));letI c:=∃(j':CJ),a_W T j'/\a_G T j'<d/\k/\br j'.tn False (gd (Nat.beq 6 j'.t.1&&(Nat.beq a j'.t.2&&Nat.beq b j'.t.3)&&true) (e/\br j'.pn False (gd (Nat.beq 5 j'.p.1&&(Nat.beq m j'.p.2&&Nat.beq n j'.p.3)&&true) False)));br g (br g (∃(j':CJ),a_W T j'/\a_G T j'<d/\k/\br j'.tn False (gd (Nat.beq 6 j'.t.1&&(Nat.beq a j'.t.2&&Nat.beq b j'.t.3)&&true) (e/\br j'.pn False (gd (Nat.beq 5 j'.p.1&&(Nat.beq m j'.p.2&&Nat.beq n j'.p.3)&&true) (gd (Nat.beq 6 j'.n.1&&(Nat.beq m j'.n.2&&Nat.beq n j'.n.3)&&true) True))))) c) (br f (br f (∃(j':CJ),a_W T j'/\a_G T j'<d/\k/\br j'.tn False (gd (Nat.beq 6 j'.t.1&&(Nat.beq a j'.t.2&&Nat.beq b j'.t.3)&&true) (e/\br j'.pn False (gd (Nat.beq 5 j'.p.1&&(Nat.beq m j'.p.2&&Nat.beq n j'.p.3)&&true) (gd (Nat.beq 5 j'.n.1&&(Nat.beq m j'.n.2&&Nat.beq (n+1) j'.n.3)&&true) True))))) c) (∃(j':CJ),a_W T j'/\a_G T j'<d/\k/\br j'.tn False (gd (Nat.beq 6 j'.t.1&&(Nat.beq a j'.t.2&&Nat.beq b j'.t.3)&&true) (e/\br j'.pn False (gd (Nat.beq 5 j'.p.1&&(Nat.beq m j'.p.2&&Nat.beq n j'.p.3)&&true) (gd (Nat.beq 4 j'.n.1&&(Nat.beq m j'.n.2&&Nat.beq 0 j'.n.3)&&true) True))))))
def f_I(T:TD)(i:Nat)(j:Nat)(a:Nat)(b:Nat):Prop:=
 letI n:=i+1;letI m:=a_f T=a_f T;letI k:=Value.bool false;letI h:=TD.hasT T n j;letI g:=Nat.blt (j+1) (T.C n);letI f:=k=k;letI e:=a_G T (CJ.mk false (SId.mk 6 n j) (SId.mk 5 n j) false (SId.mk 6 a b) (6+cS T n+3*j));letI d:=∃(j':CJ),a_W T j'/\a_G T j'<e/\m/\br j'.tn False (gd (Nat.beq 6 j'.t.1&&(Nat.beq a j'.t.2&&Nat.beq b j'.t.3)&&true) (f/\br j'.pn False (gd (Nat.beq 5 j'.p.1&&(Nat.beq n j'.p.2&&Nat.beq j j'.p.3)&&true) False)));letI c:=br g (br g (∃(j':CJ),a_W T j'/\a_G T j'<e/\m/\br j'.tn False (gd (Nat.beq 6 j'.t.1&&(Nat.beq a j'.t.2&&Nat.beq b j'.t.3)&&true) (f/\br j'.pn False (gd (Nat.beq 5 j'.p.1&&(Nat.beq n j'.p.2&&Nat.beq j j'.p.3)&&true) (gd (Nat.beq 5 j'.n.1&&(Nat.beq n j'.n.2&&Nat.beq (j+1) j'.n.3)&&true) True))))) d) (∃(j':CJ),a_W T j'/\a_G T j'<e/\m/\br j'.tn False (gd (Nat.beq 6 j'.t.1&&(Nat.beq a j'.t.2&&Nat.beq b j'.t.3)&&true) (f/\br j'.pn False (gd (Nat.beq 5 j'.p.1&&(Nat.beq n j'.p.2&&Nat.beq j j'.p.3)&&true) (gd (Nat.beq 4 j'.n.1&&(Nat.beq n j'.n.2&&Nat.beq 0 j'.n.3)&&true) True)))));br (Nat.beq n n&&Nat.beq j j&&true) c (br h (br h (∃(j':CJ),a_W T j'/\a_G T j'<e/\m/\br j'.tn False (gd (Nat.beq 6 j'.t.1&&(Nat.beq a j'.t.2&&Nat.beq b j'.t.3)&&true) (f/\br j'.pn False (gd (Nat.beq 5 j'.p.1&&(Nat.beq n j'.p.2&&Nat.beq j j'.p.3)&&true) (gd (Nat.beq 6 j'.n.1&&(Nat.beq n j'.n.2&&Nat.beq j j'.n.3)&&true) True))))) d) c)
def h_D(T:TD)(i:Nat)(j:Nat)(a:Nat)(b:Nat):Prop:=
 letI h:=T.tx i j;letI k:=T.tx a b;letI g:=TD.hasT T i j;letI f:=a_f T=a_f T;letI e:=Value.bool false;letI d:=Nat.beq i i&&Nat.beq j j&&true;letI c:=br g (br d False False) False;f/\(Words h/\List.length h<=2147483647)/\h=h/\∀(x:List UInt8),x=h->f/\(Words k/\k≠[]/\List.length k<=2147483647)/\k=k/\[(32:UInt8)]=[(32:UInt8)]/\∀(x_1:List UInt8),x_1=k->br (eqL x []) (br (!d) False (br g (br d False c) c)) (x=h/\∃(j':CJ),a_W T j'/\a_G T j'<a_G T (CJ.mk false (SId.mk 5 i j) (SId.mk 6 i j) false (SId.mk 6 a b) (5+cS T i+3*j))/\f/\br j'.tn False (gd (Nat.beq 6 j'.t.1&&(Nat.beq i j'.t.2&&Nat.beq j j'.t.3)&&true) (e=e/\br j'.pn False (gd (Nat.beq 6 j'.p.1&&(Nat.beq i j'.p.2&&Nat.beq j j'.p.3)&&true) (gd (Nat.beq 5 j'.n.1&&(Nat.beq i j'.n.2&&Nat.beq j j'.n.3)&&true) True)))))
def h_E(T:TD)(i:Nat)(a:Nat)(b:Nat):Prop:=
 letI g:=a_f T=a_f T;letI f:=Value.bool false;letI e:=Nat.blt (i+1) T.R;letI d:=f=f;letI c:=a_G T (CJ.mk false (SId.mk 5 i (T.C i-1)) (SId.mk 4 i 0) false (SId.mk 6 a b) (4+cS T i+3*T.C i));br (Nat.beq i i&&true&&true) (br e (br e (∃(j':CJ),a_W T j'/\a_G T j'<c/\g/\br j'.tn False (gd (Nat.beq 6 j'.t.1&&(Nat.beq a j'.t.2&&Nat.beq b j'.t.3)&&true) (d/\br j'.pn False (gd (Nat.beq 4 j'.p.1&&(Nat.beq i j'.p.2&&Nat.beq 0 j'.p.3)&&true) (gd (Nat.beq 4 j'.n.1&&(Nat.beq (i+1) j'.n.2&&Nat.beq 0 j'.n.3)&&true) True))))) (∃(j':CJ),a_W T j'/\a_G T j'<c/\g/\br j'.tn False (gd (Nat.beq 6 j'.t.1&&(Nat.beq a j'.t.2&&Nat.beq b j'.t.3)&&true) (d/\br j'.pn False (gd (Nat.beq 4 j'.p.1&&(Nat.beq i j'.p.2&&Nat.beq 0 j'.p.3)&&true) False))))) (∃(j':CJ),a_W T j'/\a_G T j'<c/\g/\br j'.tn False (gd (Nat.beq 6 j'.t.1&&(Nat.beq a j'.t.2&&Nat.beq b j'.t.3)&&true) (d/\br j'.pn False (gd (Nat.beq 4 j'.p.1&&(Nat.beq i j'.p.2&&Nat.beq 0 j'.p.3)&&true) (gd (Nat.beq 3 j'.n.1&&(Nat.beq 0 j'.n.2&&Nat.beq 0 j'.n.3)&&true) True)))))) (∃(j':CJ),a_W T j'/\a_G T j'<c/\g/\br j'.tn False (gd (Nat.beq 6 j'.t.1&&(Nat.beq a j'.t.2&&Nat.beq b j'.t.3)&&true) (d/\br j'.pn False (gd (Nat.beq 4 j'.p.1&&(Nat.beq i j'.p.2&&Nat.beq 0 j'.p.3)&&true) (gd (Nat.beq 5 j'.n.1&&(Nat.beq i j'.n.2&&Nat.beq 0 j'.n.3)&&true) True)))))
def h_F(T:TD)(a:Nat)(b:Nat):Prop:=
 letI c:=Value.bool false;∃(j':CJ),a_W T j'/\a_G T j'<a_G T (CJ.mk false (SId.mk 4 (T.R-1) 0) (SId.mk 3 0 0) false (SId.mk 6 a b) (3+cS T T.R))/\a_f T=a_f T/\br j'.tn False (gd (Nat.beq 6 j'.t.1&&(Nat.beq a j'.t.2&&Nat.beq b j'.t.3)&&true) (c=c/\br j'.pn False (gd (Nat.beq 3 j'.p.1&&(Nat.beq 0 j'.p.2&&Nat.beq 0 j'.p.3)&&true) (gd (Nat.beq 2 j'.n.1&&(Nat.beq 0 j'.n.2&&Nat.beq 0 j'.n.3)&&true) True))))
def h_G(T:TD)(a:Nat)(b:Nat):Prop:=
 letI e:=T.tx a b;letI d:=a_f T=a_f T;letI c:=Value.bool false;d/\(Words e/\e≠[]/\List.length e<=2147483647)/\e=e/\[(32:UInt8)]=[(32:UInt8)]/\∀(x:List UInt8),x=e->x=e/\∃(j':CJ),a_W T j'/\a_G T j'<a_G T (CJ.mk false (SId.mk 3 0 0) (SId.mk 2 0 0) false (SId.mk 6 a b) (4+cS T T.R))/\d/\br j'.tn (c=c/\br j'.pn False (gd (Nat.beq 2 j'.p.1&&(Nat.beq 0 j'.p.2&&Nat.beq 0 j'.p.3)&&true) (gd (Nat.beq 1 j'.n.1&&(Nat.beq 0 j'.n.2&&Nat.beq 0 j'.n.3)&&true) True))) False
def j_e(T:TD):Prop:=
 ∃(x:Unit),True/\a_f T=a_f T/\Value.bool false=Value.bool false/\True
def coR(T:TD):Prop:=
 letI d:=SId.mk 1 0 0;letI c:=True/\True;letI b:=a_f T=a_f T;letI a:=Value.bool false;a_W T (CJ.mk true d (SId.mk 2 0 0) true d 0)/\(b/\a=a/\True)/\∀(x:Unit),True->∃(x:Unit),True/\b/\True/\(c/\c/\c)/\True
theorem q_w(T:TD)(hT:T.Ok):TabOk Tryz.prog (coU T):=by
 refine⟨fun f s h=>?_,fun f s h=>am⟩
 unfold coU at h
 simp only at h
 split at h
 ·cases h;exact a_d v_i (A_1 T).1
 ·cases h;exact a_d v_j (A_2 T).1
 ·cases h;exact a_d v_k (A_3 T).1
 ·cases h
theorem v_l(T:TD)(hT:T.Ok):s_F T:=by
 unfold s_F
 try simp only[d_o,sj5,sj4,and_self]
 repeat' (first|done|omega|(refine a_F .b true 0 0 (by first|exact a_E|assumption|exact fun _=>⟨ac,ac,ai⟩) ?_ ?_ ?_ ?_<;>first|exact coM|exact coP)|exact trivial|assumption|exact()|exact rfl|intro _|refine And.intro ?_ ?_|(exfalso;simp_all;done))
theorem v_m(T:TD)(hT:T.Ok):s_G T:=by
 unfold s_G
 have hR:=hT.r
 try simp only[d_o,sj5,sj4,and_self]
 repeat' (first|done|omega|(refine a_F .tr0 true 0 0 (by first|exact a_E|assumption|exact fun _=>⟨ac,ac,ai⟩) ?_ ?_ ?_ ?_<;>first|exact coM|exact coP)|exact trivial|assumption|exact()|exact rfl|intro _|refine And.intro ?_ ?_|(exfalso;simp_all;done))
theorem n_K(T:TD)(hT:T.Ok):h_v T:=by
 unfold h_v
 have hR:=hT.r
 have hS:=e_f (T:=T) (i:=0) hR
 have hC:=hT.c 0 hR
 try simp only[d_o,sj5,sj4,and_self]
 repeat' (first|done|omega|(refine a_F (.td0 0) true 0 0 (by first|exact a_E|assumption|exact fun _=>⟨ac,ac,ai⟩) ?_ ?_ ?_ ?_<;>first|exact coM|exact coP)|exact trivial|assumption|exact()|exact rfl|intro _|refine And.intro ?_ ?_|(exfalso;simp_all;done))
theorem n_L(T:TD)(i:Nat)(hT:T.Ok)(hi:i+1<T.R):h_w T i:=by
 unfold h_w
 have hS:=e_f (T:=T) (i:=i+1) hi
 try simp only[d_o,sj5,sj4,and_self]
 repeat' (first|done|omega|(refine a_F (.td0 (i+1)) true 0 0 (by first|exact a_E|assumption|exact fun _=>⟨ac,ac,ai⟩) ?_ ?_ ?_ ?_<;>first|exact coM|exact coP)|exact trivial|assumption|exact()|exact rfl|intro _|refine And.intro ?_ ?_|(exfalso;simp_all;done))
theorem k_0(T:TD)(hi:0<(T.wh true).R)(hC:0<(T.wh true).C 0):f_r T:=by
 unfold f_r
 have hS:=e_f (T:=(T.wh true)) (i:=0) hi
 dsimp only[TD.wh] at*
 try simp only[d_o,sj5,sj4,and_self]
 repeat' (first|done|omega|(refine a_F (.txd 0 0) true 0 0 (by first|exact a_E|assumption|exact fun _=>⟨ac,ac,ai⟩) ?_ ?_ ?_ ?_<;>first|exact coM|exact coP)|(refine a_F (.tdn 0 0) true 0 0 (by first|exact a_E|assumption|exact fun _=>⟨ac,ac,ai⟩) ?_ ?_ ?_ ?_<;>first|exact coM|exact coP)|(refine a_F (.tru 0) true 0 0 (by first|exact a_E|assumption|exact fun _=>⟨ac,ac,ai⟩) ?_ ?_ ?_ ?_<;>first|exact coM|exact coP)|exact trivial|assumption|exact()|exact rfl|intro _|refine And.intro ?_ ?_|(exfalso;simp_all;done))
theorem k_2(T:TD)(j:Nat)(hi:0<(T.wh true).R)(hj:j+1<(T.wh true).C 0):f_s T j:=by
 unfold f_s
 have hS:=e_f (T:=(T.wh true)) (i:=0) hi
 dsimp only[TD.wh] at*
 try simp only[d_o,sj5,sj4,and_self]
 repeat' (first|done|omega|(refine a_F (.txd 0 (j+1)) true 0 0 (by first|exact a_E|assumption|exact fun _=>⟨ac,ac,ai⟩) ?_ ?_ ?_ ?_<;>first|exact coM|exact coP)|(refine a_F (.tdn 0 (j+1)) true 0 0 (by first|exact a_E|assumption|exact fun _=>⟨ac,ac,ai⟩) ?_ ?_ ?_ ?_<;>first|exact coM|exact coP)|(refine a_F (.tru 0) true 0 0 (by first|exact a_E|assumption|exact fun _=>⟨ac,ac,ai⟩) ?_ ?_ ?_ ?_<;>first|exact coM|exact coP)|exact trivial|assumption|exact()|exact rfl|intro _|refine And.intro ?_ ?_|(exfalso;simp_all;done))
theorem k_3(T:TD)(j:Nat)(hi:0<(T.wh true).R)(hj:j<(T.wh true).C 0)(ht:(T.wh true).hasT 0 j=true):f_t T j:=by
 unfold f_t
 have hS:=e_f (T:=(T.wh true)) (i:=0) hi
 dsimp only[TD.wh] at*
 try simp only[d_o,sj5,sj4,and_self]
 repeat' (first|done|omega|(refine a_F (.tdn 0 j) true 0 0 (by first|exact a_E|assumption|exact fun _=>⟨ac,ac,ai⟩) ?_ ?_ ?_ ?_<;>first|exact coM|exact coP)|(refine a_F (.tru 0) true 0 0 (by first|exact a_E|assumption|exact fun _=>⟨ac,ac,ai⟩) ?_ ?_ ?_ ?_<;>first|exact coM|exact coP)|exact trivial|assumption|exact()|exact rfl|intro _|refine And.intro ?_ ?_|(exfalso;simp_all;done))
theorem k_4(T:TD)(hi:0<(T.wh false).R)(hC:0<(T.wh false).C 0):f_u T:=by
 unfold f_u
 have hS:=e_f (T:=(T.wh false)) (i:=0) hi
 dsimp only[TD.wh] at*
 try simp only[d_o,sj5,sj4,and_self]
 repeat' (first|done|omega|(refine a_F (.txd 0 0) true 0 0 (by first|exact a_E|assumption|exact fun _=>⟨ac,ac,ai⟩) ?_ ?_ ?_ ?_<;>first|exact coM|exact coP)|(refine a_F (.tdn 0 0) true 0 0 (by first|exact a_E|assumption|exact fun _=>⟨ac,ac,ai⟩) ?_ ?_ ?_ ?_<;>first|exact coM|exact coP)|(refine a_F (.tru 0) true 0 0 (by first|exact a_E|assumption|exact fun _=>⟨ac,ac,ai⟩) ?_ ?_ ?_ ?_<;>first|exact coM|exact coP)|exact trivial|assumption|exact()|exact rfl|intro _|refine And.intro ?_ ?_|(exfalso;simp_all;done))
theorem k_5(T:TD)(j:Nat)(hi:0<(T.wh false).R)(hj:j+1<(T.wh false).C 0):f_v T j:=by
 unfold f_v
 have hS:=e_f (T:=(T.wh false)) (i:=0) hi
 dsimp only[TD.wh] at*
 try simp only[d_o,sj5,sj4,and_self]
 repeat' (first|done|omega|(refine a_F (.txd 0 (j+1)) true 0 0 (by first|exact a_E|assumption|exact fun _=>⟨ac,ac,ai⟩) ?_ ?_ ?_ ?_<;>first|exact coM|exact coP)|(refine a_F (.tdn 0 (j+1)) true 0 0 (by first|exact a_E|assumption|exact fun _=>⟨ac,ac,ai⟩) ?_ ?_ ?_ ?_<;>first|exact coM|exact coP)|(refine a_F (.tru 0) true 0 0 (by first|exact a_E|assumption|exact fun _=>⟨ac,ac,ai⟩) ?_ ?_ ?_ ?_<;>first|exact coM|exact coP)|exact trivial|assumption|exact()|exact rfl|intro _|refine And.intro ?_ ?_|(exfalso;simp_all;done))
theorem k_6(T:TD)(j:Nat)(hi:0<(T.wh false).R)(hj:j<(T.wh false).C 0)(ht:(T.wh false).hasT 0 j=true):f_w T j:=by
 unfold f_w
 have hS:=e_f (T:=(T.wh false)) (i:=0) hi
 dsimp only[TD.wh] at*
 try simp only[d_o,sj5,sj4,and_self]
 repeat' (first|done|omega|(refine a_F (.tdn 0 j) true 0 0 (by first|exact a_E|assumption|exact fun _=>⟨ac,ac,ai⟩) ?_ ?_ ?_ ?_<;>first|exact coM|exact coP)|(refine a_F (.tru 0) true 0 0 (by first|exact a_E|assumption|exact fun _=>⟨ac,ac,ai⟩) ?_ ?_ ?_ ?_<;>first|exact coM|exact coP)|exact trivial|assumption|exact()|exact rfl|intro _|refine And.intro ?_ ?_|(exfalso;simp_all;done))
theorem k_7(T:TD)(i:Nat)(hi:(i+1)<T.R)(hC:0<T.C (i+1)):f_x T i:=by
 unfold f_x
 have hS:=e_f (T:=T) (i:=(i+1)) hi
 try simp only[d_o,sj5,sj4,and_self]
 repeat' (first|done|omega|(refine a_F (.txd (i+1) 0) true 0 0 (by first|exact a_E|assumption|exact fun _=>⟨ac,ac,ai⟩) ?_ ?_ ?_ ?_<;>first|exact coM|exact coP)|(refine a_F (.tdn (i+1) 0) true 0 0 (by first|exact a_E|assumption|exact fun _=>⟨ac,ac,ai⟩) ?_ ?_ ?_ ?_<;>first|exact coM|exact coP)|(refine a_F (.tru (i+1)) true 0 0 (by first|exact a_E|assumption|exact fun _=>⟨ac,ac,ai⟩) ?_ ?_ ?_ ?_<;>first|exact coM|exact coP)|exact trivial|assumption|exact()|exact rfl|intro _|refine And.intro ?_ ?_|(exfalso;simp_all;done))
theorem k_8(T:TD)(i j:Nat)(hi:(i+1)<T.R)(hj:j+1<T.C (i+1)):f_y T i j:=by
 unfold f_y
 have hS:=e_f (T:=T) (i:=(i+1)) hi
 try simp only[d_o,sj5,sj4,and_self]
 repeat' (first|done|omega|(refine a_F (.txd (i+1) (j+1)) true 0 0 (by first|exact a_E|assumption|exact fun _=>⟨ac,ac,ai⟩) ?_ ?_ ?_ ?_<;>first|exact coM|exact coP)|(refine a_F (.tdn (i+1) (j+1)) true 0 0 (by first|exact a_E|assumption|exact fun _=>⟨ac,ac,ai⟩) ?_ ?_ ?_ ?_<;>first|exact coM|exact coP)|(refine a_F (.tru (i+1)) true 0 0 (by first|exact a_E|assumption|exact fun _=>⟨ac,ac,ai⟩) ?_ ?_ ?_ ?_<;>first|exact coM|exact coP)|exact trivial|assumption|exact()|exact rfl|intro _|refine And.intro ?_ ?_|(exfalso;simp_all;done))
theorem k_9(T:TD)(i j:Nat)(hi:(i+1)<T.R)(hj:j<T.C (i+1))(ht:T.hasT (i+1) j=true):f_z T i j:=by
 unfold f_z
 have hS:=e_f (T:=T) (i:=(i+1)) hi
 try simp only[d_o,sj5,sj4,and_self]
 repeat' (first|done|omega|(refine a_F (.tdn (i+1) j) true 0 0 (by first|exact a_E|assumption|exact fun _=>⟨ac,ac,ai⟩) ?_ ?_ ?_ ?_<;>first|exact coM|exact coP)|(refine a_F (.tru (i+1)) true 0 0 (by first|exact a_E|assumption|exact fun _=>⟨ac,ac,ai⟩) ?_ ?_ ?_ ?_<;>first|exact coM|exact coP)|exact trivial|assumption|exact()|exact rfl|intro _|refine And.intro ?_ ?_|(exfalso;simp_all;done))
theorem n_M(T:TD)(i j:Nat)(hT:T.Ok)(hi:i<T.R)(hj:j<T.C i)(ht:T.hasT i j=true):h_x T i j:=by
 unfold h_x
 have hS:=e_f (T:=T) hi
 have hn:=f_m ht
 have hp:=List.length_pos_iff.2 hn
 have hw:=(hT.w i j).at hp
 have hl:=hT.l i j
 have hw0:=hT.w i j
 have he:eqL (T.tx i j) []=false:=by rw[d_s];simpa using hn
 simp only[forall_eq,he,eqI,t_Z,ltI,leI]
 try simp only[d_o,sj5,sj4,and_self]
 repeat' (first|done|omega|(refine a_F (.tdu i j) false i j (by first|exact a_E|assumption|exact fun _=>⟨ac,ac,ai⟩) ?_ ?_ ?_ ?_<;>first|exact coM|exact coP)|exact trivial|assumption|exact()|exact rfl|intro _|refine And.intro ?_ ?_|(exfalso;simp_all;done))
theorem n_N(T:TD)(i:Nat)(hT:T.Ok)(hi:i<T.R):h_y T i:=by
 unfold h_y
 have hS:=e_f (T:=T) hi
 have hS2:=fun h:i+1<T.R=>e_f (T:=T) (i:=i+1) h
 have hC:=hT.c i hi
 try simp only[d_o,sj5,sj4,and_self]
 repeat' (first|done|omega|(refine a_F (.trn i) true 0 0 (by first|exact a_E|assumption|exact fun _=>⟨ac,ac,ai⟩) ?_ ?_ ?_ ?_<;>first|exact coM|exact coP)|(refine a_F .tbu true 0 0 (by first|exact a_E|assumption|exact fun _=>⟨ac,ac,ai⟩) ?_ ?_ ?_ ?_<;>first|exact coM|exact coP)|exact trivial|assumption|exact()|exact rfl|intro _|refine And.intro ?_ ?_|(exfalso;simp_all;done))
theorem n_O(T:TD)(hT:T.Ok):h_z T:=by
 unfold h_z
 try simp only[d_o,sj5,sj4,and_self]
 repeat' (first|done|omega|(refine a_F .tlu true 0 0 (by first|exact a_E|assumption|exact fun _=>⟨ac,ac,ai⟩) ?_ ?_ ?_ ?_<;>first|exact coM|exact coP)|exact trivial|assumption|exact()|exact rfl|intro _|refine And.intro ?_ ?_|(exfalso;simp_all;done))
theorem n_P(T:TD)(hT:T.Ok):h_A T:=by
 unfold h_A
 try simp only[forall_eq]
 try simp only[d_o,sj5,sj4,and_self]
 repeat' (first|done|omega|(refine a_F .dou true 0 0 (by first|exact a_E|assumption|exact fun _=>⟨ac,ac,ai⟩) ?_ ?_ ?_ ?_<;>first|exact coM|exact coP)|exact trivial|assumption|exact()|exact rfl|intro _|refine And.intro ?_ ?_|(exfalso;simp_all;done))
theorem n_Q(T:TD)(a b:Nat)(hT:T.Ok)(hb:b_E T false a b):h_B T a b:=by
 unfold h_B
 have hR:=hT.r
 have hS:=e_f (T:=T) (i:=0) hR
 have hC:=hT.c 0 hR
 try simp only[d_o,sj5,sj4,and_self]
 repeat' (first|done|omega|(refine a_F (.td0 0) false a b (by first|exact a_E|assumption|exact fun _=>⟨ac,ac,ai⟩) ?_ ?_ ?_ ?_<;>first|exact coM|exact coP)|exact trivial|assumption|exact()|exact rfl|intro _|refine And.intro ?_ ?_|(exfalso;simp_all;done))
theorem n_R(T:TD)(i:Nat)(a b:Nat)(hT:T.Ok)(hi:i+1<T.R)(hb:b_E T false a b):h_C T i a b:=by
 unfold h_C
 have hS:=e_f (T:=T) (i:=i+1) hi
 try simp only[d_o,sj5,sj4,and_self]
 repeat' (first|done|omega|(refine a_F (.td0 (i+1)) false a b (by first|exact a_E|assumption|exact fun _=>⟨ac,ac,ai⟩) ?_ ?_ ?_ ?_<;>first|exact coM|exact coP)|exact trivial|assumption|exact()|exact rfl|intro _|refine And.intro ?_ ?_|(exfalso;simp_all;done))
theorem l_a(T:TD)(a b:Nat)(hi:0<(T.wh true).R)(hC:0<(T.wh true).C 0)(hb:b_E (T.wh true) false a b):f_A T a b:=by
 unfold f_A
 have hS:=e_f (T:=(T.wh true)) (i:=0) hi
 dsimp only[TD.wh] at*
 try simp only[d_o,sj5,sj4,and_self]
 repeat' (first|done|omega|(refine a_F (.txd 0 0) false a b (by first|exact a_E|assumption|exact fun _=>⟨ac,ac,ai⟩) ?_ ?_ ?_ ?_<;>first|exact coM|exact coP)|(refine a_F (.tdn 0 0) false a b (by first|exact a_E|assumption|exact fun _=>⟨ac,ac,ai⟩) ?_ ?_ ?_ ?_<;>first|exact coM|exact coP)|(refine a_F (.tru 0) false a b (by first|exact a_E|assumption|exact fun _=>⟨ac,ac,ai⟩) ?_ ?_ ?_ ?_<;>first|exact coM|exact coP)|exact trivial|assumption|exact()|exact rfl|intro _|refine And.intro ?_ ?_|(exfalso;simp_all;done))
theorem l_b(T:TD)(j:Nat)(a b:Nat)(hi:0<(T.wh true).R)(hj:j+1<(T.wh true).C 0)(hb:b_E (T.wh true) false a b):f_B T j a b:=by
 unfold f_B
 have hS:=e_f (T:=(T.wh true)) (i:=0) hi
 dsimp only[TD.wh] at*
 try simp only[d_o,sj5,sj4,and_self]
 repeat' (first|done|omega|(refine a_F (.txd 0 (j+1)) false a b (by first|exact a_E|assumption|exact fun _=>⟨ac,ac,ai⟩) ?_ ?_ ?_ ?_<;>first|exact coM|exact coP)|(refine a_F (.tdn 0 (j+1)) false a b (by first|exact a_E|assumption|exact fun _=>⟨ac,ac,ai⟩) ?_ ?_ ?_ ?_<;>first|exact coM|exact coP)|(refine a_F (.tru 0) false a b (by first|exact a_E|assumption|exact fun _=>⟨ac,ac,ai⟩) ?_ ?_ ?_ ?_<;>first|exact coM|exact coP)|exact trivial|assumption|exact()|exact rfl|intro _|refine And.intro ?_ ?_|(exfalso;simp_all;done))
theorem l_c(T:TD)(j:Nat)(a b:Nat)(hi:0<(T.wh true).R)(hj:j<(T.wh true).C 0)(ht:(T.wh true).hasT 0 j=true)(hb:b_E (T.wh true) false a b):f_C T j a b:=by
 unfold f_C
 have hS:=e_f (T:=(T.wh true)) (i:=0) hi
 dsimp only[TD.wh] at*
 try simp only[d_o,sj5,sj4,and_self]
 repeat' (first|done|omega|(refine a_F (.tdn 0 j) false a b (by first|exact a_E|assumption|exact fun _=>⟨ac,ac,ai⟩) ?_ ?_ ?_ ?_<;>first|exact coM|exact coP)|(refine a_F (.tru 0) false a b (by first|exact a_E|assumption|exact fun _=>⟨ac,ac,ai⟩) ?_ ?_ ?_ ?_<;>first|exact coM|exact coP)|exact trivial|assumption|exact()|exact rfl|intro _|refine And.intro ?_ ?_|(exfalso;simp_all;done))
theorem l_d(T:TD)(a b:Nat)(hi:0<(T.wh false).R)(hC:0<(T.wh false).C 0)(hb:b_E (T.wh false) false a b):f_D T a b:=by
 unfold f_D
 have hS:=e_f (T:=(T.wh false)) (i:=0) hi
 dsimp only[TD.wh] at*
 try simp only[d_o,sj5,sj4,and_self]
 repeat' (first|done|omega|(refine a_F (.txd 0 0) false a b (by first|exact a_E|assumption|exact fun _=>⟨ac,ac,ai⟩) ?_ ?_ ?_ ?_<;>first|exact coM|exact coP)|(refine a_F (.tdn 0 0) false a b (by first|exact a_E|assumption|exact fun _=>⟨ac,ac,ai⟩) ?_ ?_ ?_ ?_<;>first|exact coM|exact coP)|(refine a_F (.tru 0) false a b (by first|exact a_E|assumption|exact fun _=>⟨ac,ac,ai⟩) ?_ ?_ ?_ ?_<;>first|exact coM|exact coP)|exact trivial|assumption|exact()|exact rfl|intro _|refine And.intro ?_ ?_|(exfalso;simp_all;done))
theorem l_e(T:TD)(j:Nat)(a b:Nat)(hi:0<(T.wh false).R)(hj:j+1<(T.wh false).C 0)(hb:b_E (T.wh false) false a b):f_E T j a b:=by
 unfold f_E
 have hS:=e_f (T:=(T.wh false)) (i:=0) hi
 dsimp only[TD.wh] at*
 try simp only[d_o,sj5,sj4,and_self]
 repeat' (first|done|omega|(refine a_F (.txd 0 (j+1)) false a b (by first|exact a_E|assumption|exact fun _=>⟨ac,ac,ai⟩) ?_ ?_ ?_ ?_<;>first|exact coM|exact coP)|(refine a_F (.tdn 0 (j+1)) false a b (by first|exact a_E|assumption|exact fun _=>⟨ac,ac,ai⟩) ?_ ?_ ?_ ?_<;>first|exact coM|exact coP)|(refine a_F (.tru 0) false a b (by first|exact a_E|assumption|exact fun _=>⟨ac,ac,ai⟩) ?_ ?_ ?_ ?_<;>first|exact coM|exact coP)|exact trivial|assumption|exact()|exact rfl|intro _|refine And.intro ?_ ?_|(exfalso;simp_all;done))
theorem l_f(T:TD)(j:Nat)(a b:Nat)(hi:0<(T.wh false).R)(hj:j<(T.wh false).C 0)(ht:(T.wh false).hasT 0 j=true)(hb:b_E (T.wh false) false a b):f_F T j a b:=by
 unfold f_F
 have hS:=e_f (T:=(T.wh false)) (i:=0) hi
 dsimp only[TD.wh] at*
 try simp only[d_o,sj5,sj4,and_self]
 repeat' (first|done|omega|(refine a_F (.tdn 0 j) false a b (by first|exact a_E|assumption|exact fun _=>⟨ac,ac,ai⟩) ?_ ?_ ?_ ?_<;>first|exact coM|exact coP)|(refine a_F (.tru 0) false a b (by first|exact a_E|assumption|exact fun _=>⟨ac,ac,ai⟩) ?_ ?_ ?_ ?_<;>first|exact coM|exact coP)|exact trivial|assumption|exact()|exact rfl|intro _|refine And.intro ?_ ?_|(exfalso;simp_all;done))
theorem l_g(T:TD)(i:Nat)(a b:Nat)(hi:(i+1)<T.R)(hC:0<T.C (i+1))(hb:b_E T false a b):f_G T i a b:=by
 unfold f_G
 have hS:=e_f (T:=T) (i:=(i+1)) hi
 try simp only[d_o,sj5,sj4,and_self]
 repeat' (first|done|omega|(refine a_F (.txd (i+1) 0) false a b (by first|exact a_E|assumption|exact fun _=>⟨ac,ac,ai⟩) ?_ ?_ ?_ ?_<;>first|exact coM|exact coP)|(refine a_F (.tdn (i+1) 0) false a b (by first|exact a_E|assumption|exact fun _=>⟨ac,ac,ai⟩) ?_ ?_ ?_ ?_<;>first|exact coM|exact coP)|(refine a_F (.tru (i+1)) false a b (by first|exact a_E|assumption|exact fun _=>⟨ac,ac,ai⟩) ?_ ?_ ?_ ?_<;>first|exact coM|exact coP)|exact trivial|assumption|exact()|exact rfl|intro _|refine And.intro ?_ ?_|(exfalso;simp_all;done))
theorem l_h(T:TD)(i j:Nat)(a b:Nat)(hi:(i+1)<T.R)(hj:j+1<T.C (i+1))(hb:b_E T false a b):f_H T i j a b:=by
 unfold f_H
 have hS:=e_f (T:=T) (i:=(i+1)) hi
 try simp only[d_o,sj5,sj4,and_self]
 repeat' (first|done|omega|(refine a_F (.txd (i+1) (j+1)) false a b (by first|exact a_E|assumption|exact fun _=>⟨ac,ac,ai⟩) ?_ ?_ ?_ ?_<;>first|exact coM|exact coP)|(refine a_F (.tdn (i+1) (j+1)) false a b (by first|exact a_E|assumption|exact fun _=>⟨ac,ac,ai⟩) ?_ ?_ ?_ ?_<;>first|exact coM|exact coP)|(refine a_F (.tru (i+1)) false a b (by first|exact a_E|assumption|exact fun _=>⟨ac,ac,ai⟩) ?_ ?_ ?_ ?_<;>first|exact coM|exact coP)|exact trivial|assumption|exact()|exact rfl|intro _|refine And.intro ?_ ?_|(exfalso;simp_all;done))
theorem l_i(T:TD)(i j:Nat)(a b:Nat)(hi:(i+1)<T.R)(hj:j<T.C (i+1))(ht:T.hasT (i+1) j=true)(hb:b_E T false a b):f_I T i j a b:=by
 unfold f_I
 have hS:=e_f (T:=T) (i:=(i+1)) hi
 try simp only[d_o,sj5,sj4,and_self]
 repeat' (first|done|omega|(refine a_F (.tdn (i+1) j) false a b (by first|exact a_E|assumption|exact fun _=>⟨ac,ac,ai⟩) ?_ ?_ ?_ ?_<;>first|exact coM|exact coP)|(refine a_F (.tru (i+1)) false a b (by first|exact a_E|assumption|exact fun _=>⟨ac,ac,ai⟩) ?_ ?_ ?_ ?_<;>first|exact coM|exact coP)|exact trivial|assumption|exact()|exact rfl|intro _|refine And.intro ?_ ?_|(exfalso;simp_all;done))
theorem n_S(T:TD)(i j:Nat)(a b:Nat)(hT:T.Ok)(hi:i<T.R)(hj:j<T.C i)(ht:T.hasT i j=true)(hb:b_E T false a b):h_D T i j a b:=by
 unfold h_D
 have hb0:=hb rfl
 have hw2:=hT.w a b
 have hl2:=hT.l a b
 have hn2:=f_m hb0.2.2
 have hS:=e_f (T:=T) hi
 have hn:=f_m ht
 have hp:=List.length_pos_iff.2 hn
 have hw:=(hT.w i j).at hp
 have hl:=hT.l i j
 have hw0:=hT.w i j
 have he:eqL (T.tx i j) []=false:=by rw[d_s];simpa using hn
 simp only[forall_eq,he,eqI,t_Z,ltI,leI]
 try simp only[d_o,sj5,sj4,and_self]
 repeat' (first|done|omega|(refine a_F (.tdu i j) false i j (by first|exact a_E|assumption|exact fun _=>⟨ac,ac,ai⟩) ?_ ?_ ?_ ?_<;>first|exact coM|exact coP)|exact trivial|assumption|exact()|exact rfl|intro _|refine And.intro ?_ ?_|(exfalso;simp_all;done))
theorem n_T(T:TD)(i:Nat)(a b:Nat)(hT:T.Ok)(hi:i<T.R)(hb:b_E T false a b):h_E T i a b:=by
 unfold h_E
 have hS:=e_f (T:=T) hi
 have hS2:=fun h:i+1<T.R=>e_f (T:=T) (i:=i+1) h
 have hC:=hT.c i hi
 try simp only[d_o,sj5,sj4,and_self]
 repeat' (first|done|omega|(refine a_F (.trn i) false a b (by first|exact a_E|assumption|exact fun _=>⟨ac,ac,ai⟩) ?_ ?_ ?_ ?_<;>first|exact coM|exact coP)|(refine a_F .tbu false a b (by first|exact a_E|assumption|exact fun _=>⟨ac,ac,ai⟩) ?_ ?_ ?_ ?_<;>first|exact coM|exact coP)|exact trivial|assumption|exact()|exact rfl|intro _|refine And.intro ?_ ?_|(exfalso;simp_all;done))
theorem n_U(T:TD)(a b:Nat)(hT:T.Ok)(hb:b_E T false a b):h_F T a b:=by
 unfold h_F
 try simp only[d_o,sj5,sj4,and_self]
 repeat' (first|done|omega|(refine a_F .tlu false a b (by first|exact a_E|assumption|exact fun _=>⟨ac,ac,ai⟩) ?_ ?_ ?_ ?_<;>first|exact coM|exact coP)|exact trivial|assumption|exact()|exact rfl|intro _|refine And.intro ?_ ?_|(exfalso;simp_all;done))
theorem n_V(T:TD)(a b:Nat)(hT:T.Ok)(hb:b_E T false a b):h_G T a b:=by
 unfold h_G
 have hb0:=hb rfl
 have hw2:=hT.w a b
 have hl2:=hT.l a b
 have hn2:=f_m hb0.2.2
 try simp only[forall_eq]
 try simp only[d_o,sj5,sj4,and_self]
 repeat' (first|done|omega|(refine a_F .dou true 0 0 (by first|exact a_E|assumption|exact fun _=>⟨ac,ac,ai⟩) ?_ ?_ ?_ ?_<;>first|exact coM|exact coP)|exact trivial|assumption|exact()|exact rfl|intro _|refine And.intro ?_ ?_|(exfalso;simp_all;done))
theorem p_v(T:TD):j_e T:=by
 unfold j_e
 try simp only[d_o,sj5,sj4,and_self]
 repeat' (first|done|omega|exact trivial|assumption|exact()|exact rfl|intro _|refine And.intro ?_ ?_|(exfalso;simp_all;done))
theorem A_4(T:TD)(hT:T.Ok):(coD T).Body Tryz.prog (sub (a_b Tryz.f156) [0,0,0,1,1,1,1,1,1]):=by
 have hd:T=T.wh true\/T=T.wh false:=by
  cases h:T.hd with
  |true=>left;cases T;simp only[TD.wh] at h⊢;rw[h]
  |false=>right;cases T;simp only[TD.wh] at h⊢;rw[h]
 refine LoopD.bodyH (root:=(a_b Tryz.f156)) [0,0,0,1,1,1,1,1,1] a_l (q_w T hT) LTok.nil 1000 ?_
 rintro j ⟨s,o,a,b,hs,hb,rfl⟩
 have hC:∀i,i<T.R->0<T.C i:=hT.c
 cases s with
 |a=>exact Ho.of (s_F T) aa (v_l T hT)
 |b=>exact Ho.of (s_G T) aa (v_m T hT)
 |tr0=>
  cases o with
  |true=>exact Ho.of (h_v T) aa (n_K T hT)
  |false=>exact Ho.of (h_B T a b) aa (n_Q T a b hT hb)
 |trn i=>
  cases o with
  |true=>exact Ho.of (h_w T i) aa (n_L T i hT hs)
  |false=>exact Ho.of (h_C T i a b) aa (n_R T i a b hT hs hb)
 |td0 i=>
  cases i with
  |zero=>
   rcases hd with e|e
   ·rw[e] at hs hb⊢
    cases o with
    |true=>exact Ho.of (f_r T) aa (k_0 T hs (hC 0 hs))
    |false=>exact Ho.of (f_A T a b) aa (l_a T a b hs (hC 0 hs) hb)
   ·rw[e] at hs hb⊢
    cases o with
    |true=>exact Ho.of (f_u T) aa (k_4 T hs (hC 0 hs))
    |false=>exact Ho.of (f_D T a b) aa (l_d T a b hs (hC 0 hs) hb)
  |succ i=>
   cases o with
   |true=>exact Ho.of (f_x T i) aa (k_7 T i hs (hC _ hs))
   |false=>exact Ho.of (f_G T i a b) aa (l_g T i a b hs (hC _ hs) hb)
 |tdn i j=>
  cases i with
  |zero=>
   rcases hd with e|e
   ·rw[e] at hs hb⊢
    cases o with
    |true=>exact Ho.of (f_s T j) aa (k_2 T j hs.1 hs.2)
    |false=>exact Ho.of (f_B T j a b) aa (l_b T j a b hs.1 hs.2 hb)
   ·rw[e] at hs hb⊢
    cases o with
    |true=>exact Ho.of (f_v T j) aa (k_5 T j hs.1 hs.2)
    |false=>exact Ho.of (f_E T j a b) aa (l_e T j a b hs.1 hs.2 hb)
  |succ i=>
   cases o with
   |true=>exact Ho.of (f_y T i j) aa (k_8 T i j hs.1 hs.2)
   |false=>exact Ho.of (f_H T i j a b) aa (l_h T i j a b hs.1 hs.2 hb)
 |txd i j=>
  cases o with
  |true=>exact Ho.of (h_x T i j) aa (n_M T i j hT hs.1 hs.2.1 hs.2.2)
  |false=>exact Ho.of (h_D T i j a b) aa (n_S T i j a b hT hs.1 hs.2.1 hs.2.2 hb)
 |tdu i j=>
  cases i with
  |zero=>
   rcases hd with e|e
   ·rw[e] at hs hb⊢
    cases o with
    |true=>exact Ho.of (f_t T j) aa (k_3 T j hs.1 hs.2.1 hs.2.2)
    |false=>exact Ho.of (f_C T j a b) aa (l_c T j a b hs.1 hs.2.1 hs.2.2 hb)
   ·rw[e] at hs hb⊢
    cases o with
    |true=>exact Ho.of (f_w T j) aa (k_6 T j hs.1 hs.2.1 hs.2.2)
    |false=>exact Ho.of (f_F T j a b) aa (l_f T j a b hs.1 hs.2.1 hs.2.2 hb)
  |succ i=>
   cases o with
   |true=>exact Ho.of (f_z T i j) aa (k_9 T i j hs.1 hs.2.1 hs.2.2)
   |false=>exact Ho.of (f_I T i j a b) aa (l_i T i j a b hs.1 hs.2.1 hs.2.2 hb)
 |tru i=>
  cases o with
  |true=>exact Ho.of (h_y T i) aa (n_N T i hT hs)
  |false=>exact Ho.of (h_E T i a b) aa (n_T T i a b hT hs hb)
 |tbu=>
  cases o with
  |true=>exact Ho.of (h_z T) aa (n_O T hT)
  |false=>exact Ho.of (h_F T a b) aa (n_U T a b hT hb)
 |tlu=>
  cases o with
  |true=>exact Ho.of (h_A T) aa (n_P T hT)
  |false=>exact Ho.of (h_G T a b) aa (n_V T a b hT hb)
 |dou=>exact Ho.of (j_e T) aa (p_v T)
theorem H_y(T:TD)(hT:T.Ok):coR T:=by
 unfold coR
 try simp only[a_j,a_p,Bool.and_eq_true,sj5,a_m,sj4,sj8]
 repeat' (first|done|omega|exact rfl|exact trivial|exact t_0|assumption|exact()|intro _|refine⟨?_,?_⟩)
theorem v_n:a_t Tryz.prog 156:=⟨Tryz.f156,aa,rfl,aa⟩
theorem A_5(T:TD)(hT:T.Ok):(coS T).Body Tryz.prog 156/\(coS T).BodyD Tryz.prog 156:=by
 refine a_c (fn:=Tryz.f156) (b:=a_b Tryz.f156) (LT:=fun _=>[([0,0,1,1,1,1,1,1],(coD T).at (CS.a.rep T true 0 0))]) a_l (q_w T hT) 1000 (fun a ha=>LTok.cons (fun fr H K hk=>LoopD.ok (A_4 T hT) hk) (LTok.nil)) aa aa ?_
 exact fun a ha=>Ho.of (coR T) aa (H_y T ha)
end Tk

