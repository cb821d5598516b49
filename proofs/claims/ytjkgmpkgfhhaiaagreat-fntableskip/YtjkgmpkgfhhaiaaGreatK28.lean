/- Lemmas of this claim; the last text says what is proved. -/
import Derived.Test.YtjkgmpkgfhhaiaaGreatK21
import Derived.Test.YtjkgmpkgfhhaiaaGreatK27
set_option linter.all false
set_option maxRecDepth 1000000
namespace Tk
open Go Go.Sx Go.Proofs
variable [Syms]
def coDRA (T:TD):Prop:=
 letI b:=SId.mk 1 0 0;letI a:=Value.bool false;∃(j':CJ),coSd T j'/\coMu T j'<coMu T (CJ.mk true b (SId.mk 2 0 0) true b 0)/\domB T=domB T/\br j'.tn (a=a/\br j'.pn False (gd (Nat.beq 2 j'.p.1&&(Nat.beq 0 j'.p.2&&Nat.beq 0 j'.p.3)&&true) (gd (Nat.beq 3 j'.n.1&&(Nat.beq 0 j'.n.2&&Nat.beq 0 j'.n.3)&&true) True))) False
def coDRB (T:TD):Prop:=
 letI a:=Value.bool false;∃(j':CJ),coSd T j'/\coMu T j'<coMu T (CJ.mk false (SId.mk 2 0 0) (SId.mk 3 0 0) true (SId.mk 1 0 0) 1)/\domB T=domB T/\br j'.tn (a=a/\br j'.pn False (gd (Nat.beq 3 j'.p.1&&(Nat.beq 0 j'.p.2&&Nat.beq 0 j'.p.3)&&true) (gd (Nat.beq 4 j'.n.1&&(Nat.beq 0 j'.n.2&&Nat.beq 0 j'.n.3)&&true) True))) False
def coDRTr0N (T:TD):Prop:=
 letI a:=Value.bool false;∃(j':CJ),coSd T j'/\coMu T j'<coMu T (CJ.mk false (SId.mk 3 0 0) (SId.mk 4 0 0) true (SId.mk 6 0 0) 3)/\domB T=domB T/\br j'.tn (a=a/\br j'.pn False (gd (Nat.beq 4 j'.p.1&&(Nat.beq 0 j'.p.2&&Nat.beq 0 j'.p.3)&&true) (gd (Nat.beq 5 j'.n.1&&(Nat.beq 0 j'.n.2&&Nat.beq 0 j'.n.3)&&true) True))) False
def coDRTrnN (T:TD) (i:Nat):Prop:=
 letI b:=i+1;letI a:=Value.bool false;∃(j':CJ),coSd T j'/\coMu T j'<coMu T (CJ.mk false (SId.mk 4 i 0) (SId.mk 4 b 0) true (SId.mk 6 0 0) (3+cS T b))/\domB T=domB T/\br j'.tn (a=a/\br j'.pn False (gd (Nat.beq 4 j'.p.1&&(Nat.beq b j'.p.2&&Nat.beq 0 j'.p.3)&&true) (gd (Nat.beq 5 j'.n.1&&(Nat.beq b j'.n.2&&Nat.beq 0 j'.n.3)&&true) True))) False
def coDRTd0hN (T:TD):Prop:=
 letI k:=Value.bool false;letI h:=domB (TD.wh T true);letI g:=k=k;letI f:=h=h;letI e:=TD.mk T.R T.2 true T.4 T.pad T.keep T.span T.promote T.pres T.10 T.11 T.12 T.13 T.oP T.oK T.oM;letI d:=TD.hasT e 0 0;letI c:=Nat.blt 1 (e.C 0);letI b:=coMu e (CJ.mk false (SId.mk 4 0 0) (SId.mk 5 0 0) true (SId.mk 6 0 0) (4+cS e 0));letI a:=∃(j':CJ),coSd e j'/\coMu e j'<b/\f/\br j'.tn (g/\br j'.pn False (gd (Nat.beq 5 j'.p.1&&(Nat.beq 0 j'.p.2&&Nat.beq 0 j'.p.3)&&true) False)) False;br d (br d (∃(j':CJ),coSd e j'/\coMu e j'<b/\f/\br j'.tn (g/\br j'.pn False (gd (Nat.beq 5 j'.p.1&&(Nat.beq 0 j'.p.2&&Nat.beq 0 j'.p.3)&&true) (gd (Nat.beq 6 j'.n.1&&(Nat.beq 0 j'.n.2&&Nat.beq 0 j'.n.3)&&true) True))) False) a) (br c (br c (∃(j':CJ),coSd e j'/\coMu e j'<b/\f/\br j'.tn (g/\br j'.pn False (gd (Nat.beq 5 j'.p.1&&(Nat.beq 0 j'.p.2&&Nat.beq 0 j'.p.3)&&true) (gd (Nat.beq 5 j'.n.1&&(Nat.beq 0 j'.n.2&&Nat.beq 1 j'.n.3)&&true) True))) False) a) (∃(j':CJ),coSd e j'/\coMu e j'<b/\f/\br j'.tn (g/\br j'.pn False (gd (Nat.beq 5 j'.p.1&&(Nat.beq 0 j'.p.2&&Nat.beq 0 j'.p.3)&&true) (gd (Nat.beq 4 j'.n.1&&(Nat.beq 0 j'.n.2&&Nat.beq 0 j'.n.3)&&true) True))) False))
def coDRTdnhN (T:TD) (j:Nat):Prop:=
 letI m:=j+1;letI k:=Value.bool false;letI h:=domB (TD.wh T true);letI g:=k=k;letI f:=h=h;letI e:=TD.mk T.R T.2 true T.4 T.pad T.keep T.span T.promote T.pres T.10 T.11 T.12 T.13 T.oP T.oK T.oM;letI d:=TD.hasT e 0 m;letI c:=Nat.blt (m+1) (e.C 0);letI b:=coMu e (CJ.mk false (SId.mk 5 0 j) (SId.mk 5 0 m) true (SId.mk 6 0 0) (4+cS e 0+Nat.mul 3 j+1+1+1));letI a:=∃(j':CJ),coSd e j'/\coMu e j'<b/\f/\br j'.tn (g/\br j'.pn False (gd (Nat.beq 5 j'.p.1&&(Nat.beq 0 j'.p.2&&Nat.beq m j'.p.3)&&true) False)) False;br d (br d (∃(j':CJ),coSd e j'/\coMu e j'<b/\f/\br j'.tn (g/\br j'.pn False (gd (Nat.beq 5 j'.p.1&&(Nat.beq 0 j'.p.2&&Nat.beq m j'.p.3)&&true) (gd (Nat.beq 6 j'.n.1&&(Nat.beq 0 j'.n.2&&Nat.beq m j'.n.3)&&true) True))) False) a) (br c (br c (∃(j':CJ),coSd e j'/\coMu e j'<b/\f/\br j'.tn (g/\br j'.pn False (gd (Nat.beq 5 j'.p.1&&(Nat.beq 0 j'.p.2&&Nat.beq m j'.p.3)&&true) (gd (Nat.beq 5 j'.n.1&&(Nat.beq 0 j'.n.2&&Nat.beq (m+1) j'.n.3)&&true) True))) False) a) (∃(j':CJ),coSd e j'/\coMu e j'<b/\f/\br j'.tn (g/\br j'.pn False (gd (Nat.beq 5 j'.p.1&&(Nat.beq 0 j'.p.2&&Nat.beq m j'.p.3)&&true) (gd (Nat.beq 4 j'.n.1&&(Nat.beq 0 j'.n.2&&Nat.beq 0 j'.n.3)&&true) True))) False))
def coDRTduhN (T:TD) (j:Nat):Prop:=
 letI m:=Value.bool false;letI k:=domB (TD.wh T true);letI h:=m=m;letI g:=k=k;letI f:=TD.mk T.R T.2 true T.4 T.pad T.keep T.span T.promote T.pres T.10 T.11 T.12 T.13 T.oP T.oK T.oM;letI e:=TD.hasT f 0 j;letI d:=Nat.blt (j+1) (f.C 0);letI c:=coMu f (CJ.mk false (SId.mk 6 0 j) (SId.mk 5 0 j) true (SId.mk 6 0 0) (6+cS f 0+3*j));letI b:=∃(j':CJ),coSd f j'/\coMu f j'<c/\g/\br j'.tn (h/\br j'.pn False (gd (Nat.beq 5 j'.p.1&&(Nat.beq 0 j'.p.2&&Nat.beq j j'.p.3)&&true) False)) False;letI a:=br d (br d (∃(j':CJ),coSd f j'/\coMu f j'<c/\g/\br j'.tn (h/\br j'.pn False (gd (Nat.beq 5 j'.p.1&&(Nat.beq 0 j'.p.2&&Nat.beq j j'.p.3)&&true) (gd (Nat.beq 5 j'.n.1&&(Nat.beq 0 j'.n.2&&Nat.beq (j+1) j'.n.3)&&true) True))) False) b) (∃(j':CJ),coSd f j'/\coMu f j'<c/\g/\br j'.tn (h/\br j'.pn False (gd (Nat.beq 5 j'.p.1&&(Nat.beq 0 j'.p.2&&Nat.beq j j'.p.3)&&true) (gd (Nat.beq 4 j'.n.1&&(Nat.beq 0 j'.n.2&&Nat.beq 0 j'.n.3)&&true) True))) False);br (Nat.beq j j&&true) a (br e (br e (∃(j':CJ),coSd f j'/\coMu f j'<c/\g/\br j'.tn (h/\br j'.pn False (gd (Nat.beq 5 j'.p.1&&(Nat.beq 0 j'.p.2&&Nat.beq j j'.p.3)&&true) (gd (Nat.beq 6 j'.n.1&&(Nat.beq 0 j'.n.2&&Nat.beq j j'.n.3)&&true) True))) False) b) a)
def coDRTd0fN (T:TD):Prop:=
 letI k:=Value.bool false;letI h:=domB (TD.wh T false);letI g:=k=k;letI f:=h=h;letI e:=TD.mk T.R T.2 false T.4 T.pad T.keep T.span T.promote T.pres T.10 T.11 T.12 T.13 T.oP T.oK T.oM;letI d:=TD.hasT e 0 0;letI c:=Nat.blt 1 (e.C 0);letI b:=coMu e (CJ.mk false (SId.mk 4 0 0) (SId.mk 5 0 0) true (SId.mk 6 0 0) (4+cS e 0));letI a:=∃(j':CJ),coSd e j'/\coMu e j'<b/\f/\br j'.tn (g/\br j'.pn False (gd (Nat.beq 5 j'.p.1&&(Nat.beq 0 j'.p.2&&Nat.beq 0 j'.p.3)&&true) False)) False;br d (br d (∃(j':CJ),coSd e j'/\coMu e j'<b/\f/\br j'.tn (g/\br j'.pn False (gd (Nat.beq 5 j'.p.1&&(Nat.beq 0 j'.p.2&&Nat.beq 0 j'.p.3)&&true) (gd (Nat.beq 6 j'.n.1&&(Nat.beq 0 j'.n.2&&Nat.beq 0 j'.n.3)&&true) True))) False) a) (br c (br c (∃(j':CJ),coSd e j'/\coMu e j'<b/\f/\br j'.tn (g/\br j'.pn False (gd (Nat.beq 5 j'.p.1&&(Nat.beq 0 j'.p.2&&Nat.beq 0 j'.p.3)&&true) (gd (Nat.beq 5 j'.n.1&&(Nat.beq 0 j'.n.2&&Nat.beq 1 j'.n.3)&&true) True))) False) a) (∃(j':CJ),coSd e j'/\coMu e j'<b/\f/\br j'.tn (g/\br j'.pn False (gd (Nat.beq 5 j'.p.1&&(Nat.beq 0 j'.p.2&&Nat.beq 0 j'.p.3)&&true) (gd (Nat.beq 4 j'.n.1&&(Nat.beq 0 j'.n.2&&Nat.beq 0 j'.n.3)&&true) True))) False))
def coDRTdnfN (T:TD) (j:Nat):Prop:=
 letI m:=j+1;letI k:=Value.bool false;letI h:=domB (TD.wh T false);letI g:=k=k;letI f:=h=h;letI e:=TD.mk T.R T.2 false T.4 T.pad T.keep T.span T.promote T.pres T.10 T.11 T.12 T.13 T.oP T.oK T.oM;letI d:=TD.hasT e 0 m;letI c:=Nat.blt (m+1) (e.C 0);letI b:=coMu e (CJ.mk false (SId.mk 5 0 j) (SId.mk 5 0 m) true (SId.mk 6 0 0) (4+cS e 0+Nat.mul 3 j+1+1+1));letI a:=∃(j':CJ),coSd e j'/\coMu e j'<b/\f/\br j'.tn (g/\br j'.pn False (gd (Nat.beq 5 j'.p.1&&(Nat.beq 0 j'.p.2&&Nat.beq m j'.p.3)&&true) False)) False;br d (br d (∃(j':CJ),coSd e j'/\coMu e j'<b/\f/\br j'.tn (g/\br j'.pn False (gd (Nat.beq 5 j'.p.1&&(Nat.beq 0 j'.p.2&&Nat.beq m j'.p.3)&&true) (gd (Nat.beq 6 j'.n.1&&(Nat.beq 0 j'.n.2&&Nat.beq m j'.n.3)&&true) True))) False) a) (br c (br c (∃(j':CJ),coSd e j'/\coMu e j'<b/\f/\br j'.tn (g/\br j'.pn False (gd (Nat.beq 5 j'.p.1&&(Nat.beq 0 j'.p.2&&Nat.beq m j'.p.3)&&true) (gd (Nat.beq 5 j'.n.1&&(Nat.beq 0 j'.n.2&&Nat.beq (m+1) j'.n.3)&&true) True))) False) a) (∃(j':CJ),coSd e j'/\coMu e j'<b/\f/\br j'.tn (g/\br j'.pn False (gd (Nat.beq 5 j'.p.1&&(Nat.beq 0 j'.p.2&&Nat.beq m j'.p.3)&&true) (gd (Nat.beq 4 j'.n.1&&(Nat.beq 0 j'.n.2&&Nat.beq 0 j'.n.3)&&true) True))) False))
def coDRTdufN (T:TD) (j:Nat):Prop:=
 letI m:=Value.bool false;letI k:=domB (TD.wh T false);letI h:=m=m;letI g:=k=k;letI f:=TD.mk T.R T.2 false T.4 T.pad T.keep T.span T.promote T.pres T.10 T.11 T.12 T.13 T.oP T.oK T.oM;letI e:=TD.hasT f 0 j;letI d:=Nat.blt (j+1) (f.C 0);letI c:=coMu f (CJ.mk false (SId.mk 6 0 j) (SId.mk 5 0 j) true (SId.mk 6 0 0) (6+cS f 0+3*j));letI b:=∃(j':CJ),coSd f j'/\coMu f j'<c/\g/\br j'.tn (h/\br j'.pn False (gd (Nat.beq 5 j'.p.1&&(Nat.beq 0 j'.p.2&&Nat.beq j j'.p.3)&&true) False)) False;letI a:=br d (br d (∃(j':CJ),coSd f j'/\coMu f j'<c/\g/\br j'.tn (h/\br j'.pn False (gd (Nat.beq 5 j'.p.1&&(Nat.beq 0 j'.p.2&&Nat.beq j j'.p.3)&&true) (gd (Nat.beq 5 j'.n.1&&(Nat.beq 0 j'.n.2&&Nat.beq (j+1) j'.n.3)&&true) True))) False) b) (∃(j':CJ),coSd f j'/\coMu f j'<c/\g/\br j'.tn (h/\br j'.pn False (gd (Nat.beq 5 j'.p.1&&(Nat.beq 0 j'.p.2&&Nat.beq j j'.p.3)&&true) (gd (Nat.beq 4 j'.n.1&&(Nat.beq 0 j'.n.2&&Nat.beq 0 j'.n.3)&&true) True))) False);br (Nat.beq j j&&true) a (br e (br e (∃(j':CJ),coSd f j'/\coMu f j'<c/\g/\br j'.tn (h/\br j'.pn False (gd (Nat.beq 5 j'.p.1&&(Nat.beq 0 j'.p.2&&Nat.beq j j'.p.3)&&true) (gd (Nat.beq 6 j'.n.1&&(Nat.beq 0 j'.n.2&&Nat.beq j j'.n.3)&&true) True))) False) b) a)
def coDRTd0sN (T:TD) (i:Nat):Prop:=
 letI h:=i+1;letI g:=domB T=domB T;letI f:=Value.bool false;letI e:=TD.hasT T h 0;letI d:=Nat.blt (0+1) (T.C h);letI c:=f=f;letI b:=coMu T (CJ.mk false (SId.mk 4 h 0) (SId.mk 5 h 0) true (SId.mk 6 0 0) (4+cS T h));letI a:=∃(j':CJ),coSd T j'/\coMu T j'<b/\g/\br j'.tn (c/\br j'.pn False (gd (Nat.beq 5 j'.p.1&&(Nat.beq h j'.p.2&&Nat.beq 0 j'.p.3)&&true) False)) False;br e (br e (∃(j':CJ),coSd T j'/\coMu T j'<b/\g/\br j'.tn (c/\br j'.pn False (gd (Nat.beq 5 j'.p.1&&(Nat.beq h j'.p.2&&Nat.beq 0 j'.p.3)&&true) (gd (Nat.beq 6 j'.n.1&&(Nat.beq h j'.n.2&&Nat.beq 0 j'.n.3)&&true) True))) False) a) (br d (br d (∃(j':CJ),coSd T j'/\coMu T j'<b/\g/\br j'.tn (c/\br j'.pn False (gd (Nat.beq 5 j'.p.1&&(Nat.beq h j'.p.2&&Nat.beq 0 j'.p.3)&&true) (gd (Nat.beq 5 j'.n.1&&(Nat.beq h j'.n.2&&Nat.beq 1 j'.n.3)&&true) True))) False) a) (∃(j':CJ),coSd T j'/\coMu T j'<b/\g/\br j'.tn (c/\br j'.pn False (gd (Nat.beq 5 j'.p.1&&(Nat.beq h j'.p.2&&Nat.beq 0 j'.p.3)&&true) (gd (Nat.beq 4 j'.n.1&&(Nat.beq h j'.n.2&&Nat.beq 0 j'.n.3)&&true) True))) False))
def coDRTdnsN (T:TD) (i:Nat) (j:Nat):Prop:=
 letI h:=i+1;letI k:=j+1;letI g:=domB T=domB T;letI f:=Value.bool false;letI e:=TD.hasT T h k;letI d:=Nat.blt (k+1) (T.C h);letI c:=f=f;letI b:=coMu T (CJ.mk false (SId.mk 5 h j) (SId.mk 5 h k) true (SId.mk 6 0 0) (4+cS T h+Nat.mul 3 j+1+1+1));letI a:=∃(j':CJ),coSd T j'/\coMu T j'<b/\g/\br j'.tn (c/\br j'.pn False (gd (Nat.beq 5 j'.p.1&&(Nat.beq h j'.p.2&&Nat.beq k j'.p.3)&&true) False)) False;br e (br e (∃(j':CJ),coSd T j'/\coMu T j'<b/\g/\br j'.tn (c/\br j'.pn False (gd (Nat.beq 5 j'.p.1&&(Nat.beq h j'.p.2&&Nat.beq k j'.p.3)&&true) (gd (Nat.beq 6 j'.n.1&&(Nat.beq h j'.n.2&&Nat.beq k j'.n.3)&&true) True))) False) a) (br d (br d (∃(j':CJ),coSd T j'/\coMu T j'<b/\g/\br j'.tn (c/\br j'.pn False (gd (Nat.beq 5 j'.p.1&&(Nat.beq h j'.p.2&&Nat.beq k j'.p.3)&&true) (gd (Nat.beq 5 j'.n.1&&(Nat.beq h j'.n.2&&Nat.beq (k+1) j'.n.3)&&true) True))) False) a) (∃(j':CJ),coSd T j'/\coMu T j'<b/\g/\br j'.tn (c/\br j'.pn False (gd (Nat.beq 5 j'.p.1&&(Nat.beq h j'.p.2&&Nat.beq k j'.p.3)&&true) (gd (Nat.beq 4 j'.n.1&&(Nat.beq h j'.n.2&&Nat.beq 0 j'.n.3)&&true) True))) False))
def coDRTdusN (T:TD) (i:Nat) (j:Nat):Prop:=
 letI k:=i+1;letI h:=domB T=domB T;letI g:=Value.bool false;letI f:=TD.hasT T k j;letI e:=Nat.blt (j+1) (T.C k);letI d:=g=g;letI c:=coMu T (CJ.mk false (SId.mk 6 k j) (SId.mk 5 k j) true (SId.mk 6 0 0) (6+cS T k+3*j));letI b:=∃(j':CJ),coSd T j'/\coMu T j'<c/\h/\br j'.tn (d/\br j'.pn False (gd (Nat.beq 5 j'.p.1&&(Nat.beq k j'.p.2&&Nat.beq j j'.p.3)&&true) False)) False;letI a:=br e (br e (∃(j':CJ),coSd T j'/\coMu T j'<c/\h/\br j'.tn (d/\br j'.pn False (gd (Nat.beq 5 j'.p.1&&(Nat.beq k j'.p.2&&Nat.beq j j'.p.3)&&true) (gd (Nat.beq 5 j'.n.1&&(Nat.beq k j'.n.2&&Nat.beq (j+1) j'.n.3)&&true) True))) False) b) (∃(j':CJ),coSd T j'/\coMu T j'<c/\h/\br j'.tn (d/\br j'.pn False (gd (Nat.beq 5 j'.p.1&&(Nat.beq k j'.p.2&&Nat.beq j j'.p.3)&&true) (gd (Nat.beq 4 j'.n.1&&(Nat.beq k j'.n.2&&Nat.beq 0 j'.n.3)&&true) True))) False);br (Nat.beq k k&&Nat.beq j j&&true) a (br f (br f (∃(j':CJ),coSd T j'/\coMu T j'<c/\h/\br j'.tn (d/\br j'.pn False (gd (Nat.beq 5 j'.p.1&&(Nat.beq k j'.p.2&&Nat.beq j j'.p.3)&&true) (gd (Nat.beq 6 j'.n.1&&(Nat.beq k j'.n.2&&Nat.beq j j'.n.3)&&true) True))) False) b) a)
def coDRTxdN (T:TD) (i:Nat) (j:Nat):Prop:=
 letI n:=T.tx i j;letI m:=TD.hasT T i j;letI h:=domB T=domB T;letI g:=Value.bool false;letI e:=Nat.beq i i&&Nat.beq j j&&true;letI d:=br m (br e False False) False;letI c:=br (!e) False (br m (br e False d) d);letI b:=∃(j':CJ),coSd T j'/\coMu T j'<coMu T (CJ.mk false (SId.mk 5 i j) (SId.mk 6 i j) true (SId.mk 6 0 0) (5+cS T i+3*j))/\h/\br j'.tn False (gd (Nat.beq 6 j'.t.1&&(Nat.beq i j'.t.2&&Nat.beq j j'.t.3)&&true) (g=g/\br j'.pn False (gd (Nat.beq 6 j'.p.1&&(Nat.beq i j'.p.2&&Nat.beq j j'.p.3)&&true) (gd (Nat.beq 5 j'.n.1&&(Nat.beq i j'.n.2&&Nat.beq j j'.n.3)&&true) True))));h/\(Words n/\List.length n<=2147483647)/\n=n/\∀(x:List UInt8),letI k:=List.drop 1 x;letI f:=Int.ofNat (List.length x);letI a:=br (eqL x []) c (x=n/\b);x=n->br (!eqL x []) (gd (decide (Int.ofNat 0<f)) (br (Int.ofNat (UInt8.toNat (List.getD x 0 (0:UInt8)))==Int.ofNat 32) (gd (decide (Int.ofNat 1<=f)&&decide (f<=f)) (br (eqL k []) c (k=n/\b))) a)) a
def coDRTruN (T:TD) (i:Nat):Prop:=
 letI e:=domB T=domB T;letI d:=Value.bool false;letI c:=Nat.blt (i+1) T.R;letI b:=d=d;letI a:=coMu T (CJ.mk false (SId.mk 5 i (T.C i-1)) (SId.mk 4 i 0) true (SId.mk 6 0 0) (4+cS T i+3*T.C i));br (Nat.beq i i&&true&&true) (br c (br c (∃(j':CJ),coSd T j'/\coMu T j'<a/\e/\br j'.tn (b/\br j'.pn False (gd (Nat.beq 4 j'.p.1&&(Nat.beq i j'.p.2&&Nat.beq 0 j'.p.3)&&true) (gd (Nat.beq 4 j'.n.1&&(Nat.beq (i+1) j'.n.2&&Nat.beq 0 j'.n.3)&&true) True))) False) (∃(j':CJ),coSd T j'/\coMu T j'<a/\e/\br j'.tn (b/\br j'.pn False (gd (Nat.beq 4 j'.p.1&&(Nat.beq i j'.p.2&&Nat.beq 0 j'.p.3)&&true) False)) False)) (∃(j':CJ),coSd T j'/\coMu T j'<a/\e/\br j'.tn (b/\br j'.pn False (gd (Nat.beq 4 j'.p.1&&(Nat.beq i j'.p.2&&Nat.beq 0 j'.p.3)&&true) (gd (Nat.beq 3 j'.n.1&&(Nat.beq 0 j'.n.2&&Nat.beq 0 j'.n.3)&&true) True))) False)) (∃(j':CJ),coSd T j'/\coMu T j'<a/\e/\br j'.tn (b/\br j'.pn False (gd (Nat.beq 4 j'.p.1&&(Nat.beq i j'.p.2&&Nat.beq 0 j'.p.3)&&true) (gd (Nat.beq 5 j'.n.1&&(Nat.beq i j'.n.2&&Nat.beq 0 j'.n.3)&&true) True))) False)
def coDRTbuN (T:TD):Prop:=
 letI a:=Value.bool false;∃(j':CJ),coSd T j'/\coMu T j'<coMu T (CJ.mk false (SId.mk 4 (T.R-1) 0) (SId.mk 3 0 0) true (SId.mk 6 0 0) (3+cS T T.R))/\domB T=domB T/\br j'.tn (a=a/\br j'.pn False (gd (Nat.beq 3 j'.p.1&&(Nat.beq 0 j'.p.2&&Nat.beq 0 j'.p.3)&&true) (gd (Nat.beq 2 j'.n.1&&(Nat.beq 0 j'.n.2&&Nat.beq 0 j'.n.3)&&true) True))) False
def coDRTluN (T:TD):Prop:=
 letI a:=Value.bool false;∃(j':CJ),coSd T j'/\coMu T j'<coMu T (CJ.mk false (SId.mk 3 0 0) (SId.mk 2 0 0) true (SId.mk 6 0 0) (4+cS T T.R))/\domB T=domB T/\br j'.tn (a=a/\br j'.pn False (gd (Nat.beq 2 j'.p.1&&(Nat.beq 0 j'.p.2&&Nat.beq 0 j'.p.3)&&true) (gd (Nat.beq 1 j'.n.1&&(Nat.beq 0 j'.n.2&&Nat.beq 0 j'.n.3)&&true) True))) False
def coDRTr0P (T:TD) (a:Nat) (b:Nat):Prop:=
 letI c:=Value.bool false;∃(j':CJ),coSd T j'/\coMu T j'<coMu T (CJ.mk false (SId.mk 3 0 0) (SId.mk 4 0 0) false (SId.mk 6 a b) 3)/\domB T=domB T/\br j'.tn False (gd (Nat.beq 6 j'.t.1&&(Nat.beq a j'.t.2&&Nat.beq b j'.t.3)&&true) (c=c/\br j'.pn False (gd (Nat.beq 4 j'.p.1&&(Nat.beq 0 j'.p.2&&Nat.beq 0 j'.p.3)&&true) (gd (Nat.beq 5 j'.n.1&&(Nat.beq 0 j'.n.2&&Nat.beq 0 j'.n.3)&&true) True))))
def coDRTrnP (T:TD) (i:Nat) (a:Nat) (b:Nat):Prop:=
 letI d:=i+1;letI c:=Value.bool false;∃(j':CJ),coSd T j'/\coMu T j'<coMu T (CJ.mk false (SId.mk 4 i 0) (SId.mk 4 d 0) false (SId.mk 6 a b) (3+cS T d))/\domB T=domB T/\br j'.tn False (gd (Nat.beq 6 j'.t.1&&(Nat.beq a j'.t.2&&Nat.beq b j'.t.3)&&true) (c=c/\br j'.pn False (gd (Nat.beq 4 j'.p.1&&(Nat.beq d j'.p.2&&Nat.beq 0 j'.p.3)&&true) (gd (Nat.beq 5 j'.n.1&&(Nat.beq d j'.n.2&&Nat.beq 0 j'.n.3)&&true) True))))
def coDRTd0hP (T:TD) (a:Nat) (b:Nat):Prop:=
 letI n:=Value.bool false;letI m:=domB (TD.wh T true);letI k:=n=n;letI h:=m=m;letI g:=TD.mk T.R T.2 true T.4 T.pad T.keep T.span T.promote T.pres T.10 T.11 T.12 T.13 T.oP T.oK T.oM;letI f:=TD.hasT g 0 0;letI e:=Nat.blt 1 (g.C 0);letI d:=coMu g (CJ.mk false (SId.mk 4 0 0) (SId.mk 5 0 0) false (SId.mk 6 a b) (4+cS g 0));letI c:=∃(j':CJ),coSd g j'/\coMu g j'<d/\h/\br j'.tn False (gd (Nat.beq 6 j'.t.1&&(Nat.beq a j'.t.2&&Nat.beq b j'.t.3)&&true) (k/\br j'.pn False (gd (Nat.beq 5 j'.p.1&&(Nat.beq 0 j'.p.2&&Nat.beq 0 j'.p.3)&&true) False)));br f (br f (∃(j':CJ),coSd g j'/\coMu g j'<d/\h/\br j'.tn False (gd (Nat.beq 6 j'.t.1&&(Nat.beq a j'.t.2&&Nat.beq b j'.t.3)&&true) (k/\br j'.pn False (gd (Nat.beq 5 j'.p.1&&(Nat.beq 0 j'.p.2&&Nat.beq 0 j'.p.3)&&true) (gd (Nat.beq 6 j'.n.1&&(Nat.beq 0 j'.n.2&&Nat.beq 0 j'.n.3)&&true) True))))) c) (br e (br e (∃(j':CJ),coSd g j'/\coMu g j'<d/\h/\br j'.tn False (gd (Nat.beq 6 j'.t.1&&(Nat.beq a j'.t.2&&Nat.beq b j'.t.3)&&true) (k/\br j'.pn False (gd (Nat.beq 5 j'.p.1&&(Nat.beq 0 j'.p.2&&Nat.beq 0 j'.p.3)&&true) (gd (Nat.beq 5 j'.n.1&&(Nat.beq 0 j'.n.2&&Nat.beq 1 j'.n.3)&&true) True))))) c) (∃(j':CJ),coSd g j'/\coMu g j'<d/\h/\br j'.tn False (gd (Nat.beq 6 j'.t.1&&(Nat.beq a j'.t.2&&Nat.beq b j'.t.3)&&true) (k/\br j'.pn False (gd (Nat.beq 5 j'.p.1&&(Nat.beq 0 j'.p.2&&Nat.beq 0 j'.p.3)&&true) (gd (Nat.beq 4 j'.n.1&&(Nat.beq 0 j'.n.2&&Nat.beq 0 j'.n.3)&&true) True))))))
def coDRTdnhP (T:TD) (j:Nat) (a:Nat) (b:Nat):Prop:=
 letI p:=j+1;letI n:=Value.bool false;letI m:=domB (TD.wh T true);letI k:=n=n;letI h:=m=m;letI g:=TD.mk T.R T.2 true T.4 T.pad T.keep T.span T.promote T.pres T.10 T.11 T.12 T.13 T.oP T.oK T.oM;letI f:=TD.hasT g 0 p;letI e:=Nat.blt (p+1) (g.C 0);letI d:=coMu g (CJ.mk false (SId.mk 5 0 j) (SId.mk 5 0 p) false (SId.mk 6 a b) (4+cS g 0+Nat.mul 3 j+1+1+1));letI c:=∃(j':CJ),coSd g j'/\coMu g j'<d/\h/\br j'.tn False (gd (Nat.beq 6 j'.t.1&&(Nat.beq a j'.t.2&&Nat.beq b j'.t.3)&&true) (k/\br j'.pn False (gd (Nat.beq 5 j'.p.1&&(Nat.beq 0 j'.p.2&&Nat.beq p j'.p.3)&&true) False)));br f (br f (∃(j':CJ),coSd g j'/\coMu g j'<d/\h/\br j'.tn False (gd (Nat.beq 6 j'.t.1&&(Nat.beq a j'.t.2&&Nat.beq b j'.t.3)&&true) (k/\br j'.pn False (gd (Nat.beq 5 j'.p.1&&(Nat.beq 0 j'.p.2&&Nat.beq p j'.p.3)&&true) (gd (Nat.beq 6 j'.n.1&&(Nat.beq 0 j'.n.2&&Nat.beq p j'.n.3)&&true) True))))) c) (br e (br e (∃(j':CJ),coSd g j'/\coMu g j'<d/\h/\br j'.tn False (gd (Nat.beq 6 j'.t.1&&(Nat.beq a j'.t.2&&Nat.beq b j'.t.3)&&true) (k/\br j'.pn False (gd (Nat.beq 5 j'.p.1&&(Nat.beq 0 j'.p.2&&Nat.beq p j'.p.3)&&true) (gd (Nat.beq 5 j'.n.1&&(Nat.beq 0 j'.n.2&&Nat.beq (p+1) j'.n.3)&&true) True))))) c) (∃(j':CJ),coSd g j'/\coMu g j'<d/\h/\br j'.tn False (gd (Nat.beq 6 j'.t.1&&(Nat.beq a j'.t.2&&Nat.beq b j'.t.3)&&true) (k/\br j'.pn False (gd (Nat.beq 5 j'.p.1&&(Nat.beq 0 j'.p.2&&Nat.beq p j'.p.3)&&true) (gd (Nat.beq 4 j'.n.1&&(Nat.beq 0 j'.n.2&&Nat.beq 0 j'.n.3)&&true) True))))))
def coDRTduhP (T:TD) (j:Nat) (a:Nat) (b:Nat):Prop:=
 letI p:=Value.bool false;letI n:=domB (TD.wh T true);letI m:=p=p;letI k:=n=n;letI h:=TD.mk T.R T.2 true T.4 T.pad T.keep T.span T.promote T.pres T.10 T.11 T.12 T.13 T.oP T.oK T.oM;letI g:=TD.hasT h 0 j;letI f:=Nat.blt (j+1) (h.C 0);letI e:=coMu h (CJ.mk false (SId.mk 6 0 j) (SId.mk 5 0 j) false (SId.mk 6 a b) (6+cS h 0+3*j));letI d:=∃(j':CJ),coSd h j'/\coMu h j'<e/\k/\br j'.tn False (gd (Nat.beq 6 j'.t.1&&(Nat.beq a j'.t.2&&Nat.beq b j'.t.3)&&true) (m/\br j'.pn False (gd (Nat.beq 5 j'.p.1&&(Nat.beq 0 j'.p.2&&Nat.beq j j'.p.3)&&true) False)));letI c:=br f (br f (∃(j':CJ),coSd h j'/\coMu h j'<e/\k/\br j'.tn False (gd (Nat.beq 6 j'.t.1&&(Nat.beq a j'.t.2&&Nat.beq b j'.t.3)&&true) (m/\br j'.pn False (gd (Nat.beq 5 j'.p.1&&(Nat.beq 0 j'.p.2&&Nat.beq j j'.p.3)&&true) (gd (Nat.beq 5 j'.n.1&&(Nat.beq 0 j'.n.2&&Nat.beq (j+1) j'.n.3)&&true) True))))) d) (∃(j':CJ),coSd h j'/\coMu h j'<e/\k/\br j'.tn False (gd (Nat.beq 6 j'.t.1&&(Nat.beq a j'.t.2&&Nat.beq b j'.t.3)&&true) (m/\br j'.pn False (gd (Nat.beq 5 j'.p.1&&(Nat.beq 0 j'.p.2&&Nat.beq j j'.p.3)&&true) (gd (Nat.beq 4 j'.n.1&&(Nat.beq 0 j'.n.2&&Nat.beq 0 j'.n.3)&&true) True)))));br (Nat.beq j j&&true) c (br g (br g (∃(j':CJ),coSd h j'/\coMu h j'<e/\k/\br j'.tn False (gd (Nat.beq 6 j'.t.1&&(Nat.beq a j'.t.2&&Nat.beq b j'.t.3)&&true) (m/\br j'.pn False (gd (Nat.beq 5 j'.p.1&&(Nat.beq 0 j'.p.2&&Nat.beq j j'.p.3)&&true) (gd (Nat.beq 6 j'.n.1&&(Nat.beq 0 j'.n.2&&Nat.beq j j'.n.3)&&true) True))))) d) c)
def coDRTd0fP (T:TD) (a:Nat) (b:Nat):Prop:=
 letI n:=Value.bool false;letI m:=domB (TD.wh T false);letI k:=n=n;letI h:=m=m;letI g:=TD.mk T.R T.2 false T.4 T.pad T.keep T.span T.promote T.pres T.10 T.11 T.12 T.13 T.oP T.oK T.oM;letI f:=TD.hasT g 0 0;letI e:=Nat.blt 1 (g.C 0);letI d:=coMu g (CJ.mk false (SId.mk 4 0 0) (SId.mk 5 0 0) false (SId.mk 6 a b) (4+cS g 0));letI c:=∃(j':CJ),coSd g j'/\coMu g j'<d/\h/\br j'.tn False (gd (Nat.beq 6 j'.t.1&&(Nat.beq a j'.t.2&&Nat.beq b j'.t.3)&&true) (k/\br j'.pn False (gd (Nat.beq 5 j'.p.1&&(Nat.beq 0 j'.p.2&&Nat.beq 0 j'.p.3)&&true) False)));br f (br f (∃(j':CJ),coSd g j'/\coMu g j'<d/\h/\br j'.tn False (gd (Nat.beq 6 j'.t.1&&(Nat.beq a j'.t.2&&Nat.beq b j'.t.3)&&true) (k/\br j'.pn False (gd (Nat.beq 5 j'.p.1&&(Nat.beq 0 j'.p.2&&Nat.beq 0 j'.p.3)&&true) (gd (Nat.beq 6 j'.n.1&&(Nat.beq 0 j'.n.2&&Nat.beq 0 j'.n.3)&&true) True))))) c) (br e (br e (∃(j':CJ),coSd g j'/\coMu g j'<d/\h/\br j'.tn False (gd (Nat.beq 6 j'.t.1&&(Nat.beq a j'.t.2&&Nat.beq b j'.t.3)&&true) (k/\br j'.pn False (gd (Nat.beq 5 j'.p.1&&(Nat.beq 0 j'.p.2&&Nat.beq 0 j'.p.3)&&true) (gd (Nat.beq 5 j'.n.1&&(Nat.beq 0 j'.n.2&&Nat.beq 1 j'.n.3)&&true) True))))) c) (∃(j':CJ),coSd g j'/\coMu g j'<d/\h/\br j'.tn False (gd (Nat.beq 6 j'.t.1&&(Nat.beq a j'.t.2&&Nat.beq b j'.t.3)&&true) (k/\br j'.pn False (gd (Nat.beq 5 j'.p.1&&(Nat.beq 0 j'.p.2&&Nat.beq 0 j'.p.3)&&true) (gd (Nat.beq 4 j'.n.1&&(Nat.beq 0 j'.n.2&&Nat.beq 0 j'.n.3)&&true) True))))))
def coDRTdnfP (T:TD) (j:Nat) (a:Nat) (b:Nat):Prop:=
 letI p:=j+1;letI n:=Value.bool false;letI m:=domB (TD.wh T false);letI k:=n=n;letI h:=m=m;letI g:=TD.mk T.R T.2 false T.4 T.pad T.keep T.span T.promote T.pres T.10 T.11 T.12 T.13 T.oP T.oK T.oM;letI f:=TD.hasT g 0 p;letI e:=Nat.blt (p+1) (g.C 0);letI d:=coMu g (CJ.mk false (SId.mk 5 0 j) (SId.mk 5 0 p) false (SId.mk 6 a b) (4+cS g 0+Nat.mul 3 j+1+1+1));letI c:=∃(j':CJ),coSd g j'/\coMu g j'<d/\h/\br j'.tn False (gd (Nat.beq 6 j'.t.1&&(Nat.beq a j'.t.2&&Nat.beq b j'.t.3)&&true) (k/\br j'.pn False (gd (Nat.beq 5 j'.p.1&&(Nat.beq 0 j'.p.2&&Nat.beq p j'.p.3)&&true) False)));br f (br f (∃(j':CJ),coSd g j'/\coMu g j'<d/\h/\br j'.tn False (gd (Nat.beq 6 j'.t.1&&(Nat.beq a j'.t.2&&Nat.beq b j'.t.3)&&true) (k/\br j'.pn False (gd (Nat.beq 5 j'.p.1&&(Nat.beq 0 j'.p.2&&Nat.beq p j'.p.3)&&true) (gd (Nat.beq 6 j'.n.1&&(Nat.beq 0 j'.n.2&&Nat.beq p j'.n.3)&&true) True))))) c) (br e (br e (∃(j':CJ),coSd g j'/\coMu g j'<d/\h/\br j'.tn False (gd (Nat.beq 6 j'.t.1&&(Nat.beq a j'.t.2&&Nat.beq b j'.t.3)&&true) (k/\br j'.pn False (gd (Nat.beq 5 j'.p.1&&(Nat.beq 0 j'.p.2&&Nat.beq p j'.p.3)&&true) (gd (Nat.beq 5 j'.n.1&&(Nat.beq 0 j'.n.2&&Nat.beq (p+1) j'.n.3)&&true) True))))) c) (∃(j':CJ),coSd g j'/\coMu g j'<d/\h/\br j'.tn False (gd (Nat.beq 6 j'.t.1&&(Nat.beq a j'.t.2&&Nat.beq b j'.t.3)&&true) (k/\br j'.pn False (gd (Nat.beq 5 j'.p.1&&(Nat.beq 0 j'.p.2&&Nat.beq p j'.p.3)&&true) (gd (Nat.beq 4 j'.n.1&&(Nat.beq 0 j'.n.2&&Nat.beq 0 j'.n.3)&&true) True))))))
def coDRTdufP (T:TD) (j:Nat) (a:Nat) (b:Nat):Prop:=
 letI p:=Value.bool false;letI n:=domB (TD.wh T false);letI m:=p=p;letI k:=n=n;letI h:=TD.mk T.R T.2 false T.4 T.pad T.keep T.span T.promote T.pres T.10 T.11 T.12 T.13 T.oP T.oK T.oM;letI g:=TD.hasT h 0 j;letI f:=Nat.blt (j+1) (h.C 0);letI e:=coMu h (CJ.mk false (SId.mk 6 0 j) (SId.mk 5 0 j) false (SId.mk 6 a b) (6+cS h 0+3*j));letI d:=∃(j':CJ),coSd h j'/\coMu h j'<e/\k/\br j'.tn False (gd (Nat.beq 6 j'.t.1&&(Nat.beq a j'.t.2&&Nat.beq b j'.t.3)&&true) (m/\br j'.pn False (gd (Nat.beq 5 j'.p.1&&(Nat.beq 0 j'.p.2&&Nat.beq j j'.p.3)&&true) False)));letI c:=br f (br f (∃(j':CJ),coSd h j'/\coMu h j'<e/\k/\br j'.tn False (gd (Nat.beq 6 j'.t.1&&(Nat.beq a j'.t.2&&Nat.beq b j'.t.3)&&true) (m/\br j'.pn False (gd (Nat.beq 5 j'.p.1&&(Nat.beq 0 j'.p.2&&Nat.beq j j'.p.3)&&true) (gd (Nat.beq 5 j'.n.1&&(Nat.beq 0 j'.n.2&&Nat.beq (j+1) j'.n.3)&&true) True))))) d) (∃(j':CJ),coSd h j'/\coMu h j'<e/\k/\br j'.tn False (gd (Nat.beq 6 j'.t.1&&(Nat.beq a j'.t.2&&Nat.beq b j'.t.3)&&true) (m/\br j'.pn False (gd (Nat.beq 5 j'.p.1&&(Nat.beq 0 j'.p.2&&Nat.beq j j'.p.3)&&true) (gd (Nat.beq 4 j'.n.1&&(Nat.beq 0 j'.n.2&&Nat.beq 0 j'.n.3)&&true) True)))));br (Nat.beq j j&&true) c (br g (br g (∃(j':CJ),coSd h j'/\coMu h j'<e/\k/\br j'.tn False (gd (Nat.beq 6 j'.t.1&&(Nat.beq a j'.t.2&&Nat.beq b j'.t.3)&&true) (m/\br j'.pn False (gd (Nat.beq 5 j'.p.1&&(Nat.beq 0 j'.p.2&&Nat.beq j j'.p.3)&&true) (gd (Nat.beq 6 j'.n.1&&(Nat.beq 0 j'.n.2&&Nat.beq j j'.n.3)&&true) True))))) d) c)
def coDRTd0sP (T:TD) (i:Nat) (a:Nat) (b:Nat):Prop:=
 letI m:=i+1;letI k:=domB T=domB T;letI h:=Value.bool false;letI g:=TD.hasT T m 0;letI f:=Nat.blt (0+1) (T.C m);letI e:=h=h;letI d:=coMu T (CJ.mk false (SId.mk 4 m 0) (SId.mk 5 m 0) false (SId.mk 6 a b) (4+cS T m));letI c:=∃(j':CJ),coSd T j'/\coMu T j'<d/\k/\br j'.tn False (gd (Nat.beq 6 j'.t.1&&(Nat.beq a j'.t.2&&Nat.beq b j'.t.3)&&true) (e/\br j'.pn False (gd (Nat.beq 5 j'.p.1&&(Nat.beq m j'.p.2&&Nat.beq 0 j'.p.3)&&true) False)));br g (br g (∃(j':CJ),coSd T j'/\coMu T j'<d/\k/\br j'.tn False (gd (Nat.beq 6 j'.t.1&&(Nat.beq a j'.t.2&&Nat.beq b j'.t.3)&&true) (e/\br j'.pn False (gd (Nat.beq 5 j'.p.1&&(Nat.beq m j'.p.2&&Nat.beq 0 j'.p.3)&&true) (gd (Nat.beq 6 j'.n.1&&(Nat.beq m j'.n.2&&Nat.beq 0 j'.n.3)&&true) True))))) c) (br f (br f (∃(j':CJ),coSd T j'/\coMu T j'<d/\k/\br j'.tn False (gd (Nat.beq 6 j'.t.1&&(Nat.beq a j'.t.2&&Nat.beq b j'.t.3)&&true) (e/\br j'.pn False (gd (Nat.beq 5 j'.p.1&&(Nat.beq m j'.p.2&&Nat.beq 0 j'.p.3)&&true) (gd (Nat.beq 5 j'.n.1&&(Nat.beq m j'.n.2&&Nat.beq 1 j'.n.3)&&true) True))))) c) (∃(j':CJ),coSd T j'/\coMu T j'<d/\k/\br j'.tn False (gd (Nat.beq 6 j'.t.1&&(Nat.beq a j'.t.2&&Nat.beq b j'.t.3)&&true) (e/\br j'.pn False (gd (Nat.beq 5 j'.p.1&&(Nat.beq m j'.p.2&&Nat.beq 0 j'.p.3)&&true) (gd (Nat.beq 4 j'.n.1&&(Nat.beq m j'.n.2&&Nat.beq 0 j'.n.3)&&true) True))))))
def coDRTdnsP (T:TD) (i:Nat) (j:Nat) (a:Nat) (b:Nat):Prop:=
 letI m:=i+1;letI n:=j+1;letI k:=domB T=domB T;letI h:=Value.bool false;letI g:=TD.hasT T m n;letI f:=Nat.blt (n+1) (T.C m);letI e:=h=h;letI d:=coMu T (CJ.mk false (SId.mk 5 m j) (SId.mk 5 m n) false (SId.mk 6 a b) (4+cS T m+Nat.mul 3 j+1+1+1));letI c:=∃(j':CJ),coSd T j'/\coMu T j'<d/\k/\br j'.tn False (gd (Nat.beq 6 j'.t.1&&(Nat.beq a j'.t.2&&Nat.beq b j'.t.3)&&true) (e/\br j'.pn False (gd (Nat.beq 5 j'.p.1&&(Nat.beq m j'.p.2&&Nat.beq n j'.p.3)&&true) False)));br g (br g (∃(j':CJ),coSd T j'/\coMu T j'<d/\k/\br j'.tn False (gd (Nat.beq 6 j'.t.1&&(Nat.beq a j'.t.2&&Nat.beq b j'.t.3)&&true) (e/\br j'.pn False (gd (Nat.beq 5 j'.p.1&&(Nat.beq m j'.p.2&&Nat.beq n j'.p.3)&&true) (gd (Nat.beq 6 j'.n.1&&(Nat.beq m j'.n.2&&Nat.beq n j'.n.3)&&true) True))))) c) (br f (br f (∃(j':CJ),coSd T j'/\coMu T j'<d/\k/\br j'.tn False (gd (Nat.beq 6 j'.t.1&&(Nat.beq a j'.t.2&&Nat.beq b j'.t.3)&&true) (e/\br j'.pn False (gd (Nat.beq 5 j'.p.1&&(Nat.beq m j'.p.2&&Nat.beq n j'.p.3)&&true) (gd (Nat.beq 5 j'.n.1&&(Nat.beq m j'.n.2&&Nat.beq (n+1) j'.n.3)&&true) True))))) c) (∃(j':CJ),coSd T j'/\coMu T j'<d/\k/\br j'.tn False (gd (Nat.beq 6 j'.t.1&&(Nat.beq a j'.t.2&&Nat.beq b j'.t.3)&&true) (e/\br j'.pn False (gd (Nat.beq 5 j'.p.1&&(Nat.beq m j'.p.2&&Nat.beq n j'.p.3)&&true) (gd (Nat.beq 4 j'.n.1&&(Nat.beq m j'.n.2&&Nat.beq 0 j'.n.3)&&true) True))))))
def coDRTdusP (T:TD) (i:Nat) (j:Nat) (a:Nat) (b:Nat):Prop:=
 letI n:=i+1;letI m:=domB T=domB T;letI k:=Value.bool false;letI h:=TD.hasT T n j;letI g:=Nat.blt (j+1) (T.C n);letI f:=k=k;letI e:=coMu T (CJ.mk false (SId.mk 6 n j) (SId.mk 5 n j) false (SId.mk 6 a b) (6+cS T n+3*j));letI d:=∃(j':CJ),coSd T j'/\coMu T j'<e/\m/\br j'.tn False (gd (Nat.beq 6 j'.t.1&&(Nat.beq a j'.t.2&&Nat.beq b j'.t.3)&&true) (f/\br j'.pn False (gd (Nat.beq 5 j'.p.1&&(Nat.beq n j'.p.2&&Nat.beq j j'.p.3)&&true) False)));letI c:=br g (br g (∃(j':CJ),coSd T j'/\coMu T j'<e/\m/\br j'.tn False (gd (Nat.beq 6 j'.t.1&&(Nat.beq a j'.t.2&&Nat.beq b j'.t.3)&&true) (f/\br j'.pn False (gd (Nat.beq 5 j'.p.1&&(Nat.beq n j'.p.2&&Nat.beq j j'.p.3)&&true) (gd (Nat.beq 5 j'.n.1&&(Nat.beq n j'.n.2&&Nat.beq (j+1) j'.n.3)&&true) True))))) d) (∃(j':CJ),coSd T j'/\coMu T j'<e/\m/\br j'.tn False (gd (Nat.beq 6 j'.t.1&&(Nat.beq a j'.t.2&&Nat.beq b j'.t.3)&&true) (f/\br j'.pn False (gd (Nat.beq 5 j'.p.1&&(Nat.beq n j'.p.2&&Nat.beq j j'.p.3)&&true) (gd (Nat.beq 4 j'.n.1&&(Nat.beq n j'.n.2&&Nat.beq 0 j'.n.3)&&true) True)))));br (Nat.beq n n&&Nat.beq j j&&true) c (br h (br h (∃(j':CJ),coSd T j'/\coMu T j'<e/\m/\br j'.tn False (gd (Nat.beq 6 j'.t.1&&(Nat.beq a j'.t.2&&Nat.beq b j'.t.3)&&true) (f/\br j'.pn False (gd (Nat.beq 5 j'.p.1&&(Nat.beq n j'.p.2&&Nat.beq j j'.p.3)&&true) (gd (Nat.beq 6 j'.n.1&&(Nat.beq n j'.n.2&&Nat.beq j j'.n.3)&&true) True))))) d) c)
def coDRTxdP (T:TD) (i:Nat) (j:Nat) (a:Nat) (b:Nat):Prop:=
 letI h:=T.tx i j;letI k:=T.tx a b;letI g:=TD.hasT T i j;letI f:=domB T=domB T;letI e:=Value.bool false;letI d:=Nat.beq i i&&Nat.beq j j&&true;letI c:=br g (br d False False) False;f/\(Words h/\List.length h<=2147483647)/\h=h/\∀(x:List UInt8),x=h->f/\(Words k/\k≠[]/\List.length k<=2147483647)/\k=k/\[(32:UInt8)]=[(32:UInt8)]/\∀(x_1:List UInt8),x_1=k->br (eqL x []) (br (!d) False (br g (br d False c) c)) (x=h/\∃(j':CJ),coSd T j'/\coMu T j'<coMu T (CJ.mk false (SId.mk 5 i j) (SId.mk 6 i j) false (SId.mk 6 a b) (5+cS T i+3*j))/\f/\br j'.tn False (gd (Nat.beq 6 j'.t.1&&(Nat.beq i j'.t.2&&Nat.beq j j'.t.3)&&true) (e=e/\br j'.pn False (gd (Nat.beq 6 j'.p.1&&(Nat.beq i j'.p.2&&Nat.beq j j'.p.3)&&true) (gd (Nat.beq 5 j'.n.1&&(Nat.beq i j'.n.2&&Nat.beq j j'.n.3)&&true) True)))))
def coDRTruP (T:TD) (i:Nat) (a:Nat) (b:Nat):Prop:=
 letI g:=domB T=domB T;letI f:=Value.bool false;letI e:=Nat.blt (i+1) T.R;letI d:=f=f;letI c:=coMu T (CJ.mk false (SId.mk 5 i (T.C i-1)) (SId.mk 4 i 0) false (SId.mk 6 a b) (4+cS T i+3*T.C i));br (Nat.beq i i&&true&&true) (br e (br e (∃(j':CJ),coSd T j'/\coMu T j'<c/\g/\br j'.tn False (gd (Nat.beq 6 j'.t.1&&(Nat.beq a j'.t.2&&Nat.beq b j'.t.3)&&true) (d/\br j'.pn False (gd (Nat.beq 4 j'.p.1&&(Nat.beq i j'.p.2&&Nat.beq 0 j'.p.3)&&true) (gd (Nat.beq 4 j'.n.1&&(Nat.beq (i+1) j'.n.2&&Nat.beq 0 j'.n.3)&&true) True))))) (∃(j':CJ),coSd T j'/\coMu T j'<c/\g/\br j'.tn False (gd (Nat.beq 6 j'.t.1&&(Nat.beq a j'.t.2&&Nat.beq b j'.t.3)&&true) (d/\br j'.pn False (gd (Nat.beq 4 j'.p.1&&(Nat.beq i j'.p.2&&Nat.beq 0 j'.p.3)&&true) False))))) (∃(j':CJ),coSd T j'/\coMu T j'<c/\g/\br j'.tn False (gd (Nat.beq 6 j'.t.1&&(Nat.beq a j'.t.2&&Nat.beq b j'.t.3)&&true) (d/\br j'.pn False (gd (Nat.beq 4 j'.p.1&&(Nat.beq i j'.p.2&&Nat.beq 0 j'.p.3)&&true) (gd (Nat.beq 3 j'.n.1&&(Nat.beq 0 j'.n.2&&Nat.beq 0 j'.n.3)&&true) True)))))) (∃(j':CJ),coSd T j'/\coMu T j'<c/\g/\br j'.tn False (gd (Nat.beq 6 j'.t.1&&(Nat.beq a j'.t.2&&Nat.beq b j'.t.3)&&true) (d/\br j'.pn False (gd (Nat.beq 4 j'.p.1&&(Nat.beq i j'.p.2&&Nat.beq 0 j'.p.3)&&true) (gd (Nat.beq 5 j'.n.1&&(Nat.beq i j'.n.2&&Nat.beq 0 j'.n.3)&&true) True)))))
def coDRTbuP (T:TD) (a:Nat) (b:Nat):Prop:=
 letI c:=Value.bool false;∃(j':CJ),coSd T j'/\coMu T j'<coMu T (CJ.mk false (SId.mk 4 (T.R-1) 0) (SId.mk 3 0 0) false (SId.mk 6 a b) (3+cS T T.R))/\domB T=domB T/\br j'.tn False (gd (Nat.beq 6 j'.t.1&&(Nat.beq a j'.t.2&&Nat.beq b j'.t.3)&&true) (c=c/\br j'.pn False (gd (Nat.beq 3 j'.p.1&&(Nat.beq 0 j'.p.2&&Nat.beq 0 j'.p.3)&&true) (gd (Nat.beq 2 j'.n.1&&(Nat.beq 0 j'.n.2&&Nat.beq 0 j'.n.3)&&true) True))))
def coDRTluP (T:TD) (a:Nat) (b:Nat):Prop:=
 letI e:=T.tx a b;letI d:=domB T=domB T;letI c:=Value.bool false;d/\(Words e/\e≠[]/\List.length e<=2147483647)/\e=e/\[(32:UInt8)]=[(32:UInt8)]/\∀(x:List UInt8),x=e->x=e/\∃(j':CJ),coSd T j'/\coMu T j'<coMu T (CJ.mk false (SId.mk 3 0 0) (SId.mk 2 0 0) false (SId.mk 6 a b) (4+cS T T.R))/\d/\br j'.tn (c=c/\br j'.pn False (gd (Nat.beq 2 j'.p.1&&(Nat.beq 0 j'.p.2&&Nat.beq 0 j'.p.3)&&true) (gd (Nat.beq 1 j'.n.1&&(Nat.beq 0 j'.n.2&&Nat.beq 0 j'.n.3)&&true) True))) False
def coDRDou (T:TD):Prop:=
 ∃(x:Unit),True/\domB T=domB T/\Value.bool false=Value.bool false/\True
def coR (T:TD):Prop:=
 letI d:=SId.mk 1 0 0;letI c:=True/\True;letI b:=domB T=domB T;letI a:=Value.bool false;coSd T (CJ.mk true d (SId.mk 2 0 0) true d 0)/\(b/\a=a/\True)/\∀(x:Unit),True->∃(x:Unit),True/\b/\True/\(c/\c/\c)/\True
theorem coU_ok (T:TD) (hT:T.Ok):TabOk Tryz.prog (coU T):=by
 refine⟨fun f s h=>?_,fun f s h=>(by cases h)⟩
 unfold coU at h
 simp only at h
 split at h
 ·cases h;exact genS_ok rw_fok (rw_ok T).1
 ·cases h;exact genS_ok hs_fok (hs_ok T).1
 ·cases h;exact genS_ok ts_fok (ts_ok T).1
 ·cases h
theorem coD_rA (T:TD) (hT:T.Ok):coDRA T:=by
 unfold coDRA
 try simp only[sj9,sj5,sj3,and_self]
 repeat' (first|done|omega|(refine co_go .b true 0 0 (by first|exact lastN|assumption|exact fun _=>⟨by omega,by omega,by assumption⟩) ?_ ?_ ?_ ?_<;>first|(first|(simp only[CS.rep,cS];omega)|(simp only[CS.rep,CS.ok];omega)|trivial|(simp only[CS.ok];first|trivial|and_intros<;>first|omega|assumption))|(simp[br_iff,gd_iff,doc,tbl,tbd,Tk.tr,Tk.td,Tk.tx,CS.rep]<;>omega))|exact trivial|assumption|exact()|exact rfl|intro _|refine And.intro ?_ ?_|(exfalso;simp_all;done))
theorem coD_rB (T:TD) (hT:T.Ok):coDRB T:=by
 unfold coDRB
 have hR:=hT.r
 try simp only[sj9,sj5,sj3,and_self]
 repeat' (first|done|omega|(refine co_go .tr0 true 0 0 (by first|exact lastN|assumption|exact fun _=>⟨by omega,by omega,by assumption⟩) ?_ ?_ ?_ ?_<;>first|(first|(simp only[CS.rep,cS];omega)|(simp only[CS.rep,CS.ok];omega)|trivial|(simp only[CS.ok];first|trivial|and_intros<;>first|omega|assumption))|(simp[br_iff,gd_iff,doc,tbl,tbd,Tk.tr,Tk.td,Tk.tx,CS.rep]<;>omega))|exact trivial|assumption|exact()|exact rfl|intro _|refine And.intro ?_ ?_|(exfalso;simp_all;done))
theorem coD_rTr0N (T:TD) (hT:T.Ok):coDRTr0N T:=by
 unfold coDRTr0N
 have hR:=hT.r
 have hS:=cS_i (T:=T) (i:=0) hR
 have hC:=hT.c 0 hR
 try simp only[sj9,sj5,sj3,and_self]
 repeat' (first|done|omega|(refine co_go (.td0 0) true 0 0 (by first|exact lastN|assumption|exact fun _=>⟨by omega,by omega,by assumption⟩) ?_ ?_ ?_ ?_<;>first|(first|(simp only[CS.rep,cS];omega)|(simp only[CS.rep,CS.ok];omega)|trivial|(simp only[CS.ok];first|trivial|and_intros<;>first|omega|assumption))|(simp[br_iff,gd_iff,doc,tbl,tbd,Tk.tr,Tk.td,Tk.tx,CS.rep]<;>omega))|exact trivial|assumption|exact()|exact rfl|intro _|refine And.intro ?_ ?_|(exfalso;simp_all;done))
theorem coD_rTrnN (T:TD) (i:Nat) (hT:T.Ok) (hi:i+1<T.R):coDRTrnN T i:=by
 unfold coDRTrnN
 have hS:=cS_i (T:=T) (i:=i+1) hi
 try simp only[sj9,sj5,sj3,and_self]
 repeat' (first|done|omega|(refine co_go (.td0 (i+1)) true 0 0 (by first|exact lastN|assumption|exact fun _=>⟨by omega,by omega,by assumption⟩) ?_ ?_ ?_ ?_<;>first|(first|(simp only[CS.rep,cS];omega)|(simp only[CS.rep,CS.ok];omega)|trivial|(simp only[CS.ok];first|trivial|and_intros<;>first|omega|assumption))|(simp[br_iff,gd_iff,doc,tbl,tbd,Tk.tr,Tk.td,Tk.tx,CS.rep]<;>omega))|exact trivial|assumption|exact()|exact rfl|intro _|refine And.intro ?_ ?_|(exfalso;simp_all;done))
theorem coD_rTd0hN (T:TD) (hi:0<(T.wh true).R) (hC:0<(T.wh true).C 0):coDRTd0hN T:=by
 unfold coDRTd0hN
 have hS:=cS_i (T:=(T.wh true)) (i:=0) hi
 dsimp only[TD.wh] at*
 try simp only[sj9,sj5,sj3,and_self]
 repeat' (first|done|omega|(refine co_go (.txd 0 0) true 0 0 (by first|exact lastN|assumption|exact fun _=>⟨by omega,by omega,by assumption⟩) ?_ ?_ ?_ ?_<;>first|(first|(simp only[CS.rep,cS];omega)|(simp only[CS.rep,CS.ok];omega)|trivial|(simp only[CS.ok];first|trivial|and_intros<;>first|omega|assumption))|(simp[br_iff,gd_iff,doc,tbl,tbd,Tk.tr,Tk.td,Tk.tx,CS.rep]<;>omega))|(refine co_go (.tdn 0 0) true 0 0 (by first|exact lastN|assumption|exact fun _=>⟨by omega,by omega,by assumption⟩) ?_ ?_ ?_ ?_<;>first|(first|(simp only[CS.rep,cS];omega)|(simp only[CS.rep,CS.ok];omega)|trivial|(simp only[CS.ok];first|trivial|and_intros<;>first|omega|assumption))|(simp[br_iff,gd_iff,doc,tbl,tbd,Tk.tr,Tk.td,Tk.tx,CS.rep]<;>omega))|(refine co_go (.tru 0) true 0 0 (by first|exact lastN|assumption|exact fun _=>⟨by omega,by omega,by assumption⟩) ?_ ?_ ?_ ?_<;>first|(first|(simp only[CS.rep,cS];omega)|(simp only[CS.rep,CS.ok];omega)|trivial|(simp only[CS.ok];first|trivial|and_intros<;>first|omega|assumption))|(simp[br_iff,gd_iff,doc,tbl,tbd,Tk.tr,Tk.td,Tk.tx,CS.rep]<;>omega))|exact trivial|assumption|exact()|exact rfl|intro _|refine And.intro ?_ ?_|(exfalso;simp_all;done))
theorem coD_rTdnhN (T:TD) (j:Nat) (hi:0<(T.wh true).R) (hj:j+1<(T.wh true).C 0):coDRTdnhN T j:=by
 unfold coDRTdnhN
 have hS:=cS_i (T:=(T.wh true)) (i:=0) hi
 dsimp only[TD.wh] at*
 try simp only[sj9,sj5,sj3,and_self]
 repeat' (first|done|omega|(refine co_go (.txd 0 (j+1)) true 0 0 (by first|exact lastN|assumption|exact fun _=>⟨by omega,by omega,by assumption⟩) ?_ ?_ ?_ ?_<;>first|(first|(simp only[CS.rep,cS];omega)|(simp only[CS.rep,CS.ok];omega)|trivial|(simp only[CS.ok];first|trivial|and_intros<;>first|omega|assumption))|(simp[br_iff,gd_iff,doc,tbl,tbd,Tk.tr,Tk.td,Tk.tx,CS.rep]<;>omega))|(refine co_go (.tdn 0 (j+1)) true 0 0 (by first|exact lastN|assumption|exact fun _=>⟨by omega,by omega,by assumption⟩) ?_ ?_ ?_ ?_<;>first|(first|(simp only[CS.rep,cS];omega)|(simp only[CS.rep,CS.ok];omega)|trivial|(simp only[CS.ok];first|trivial|and_intros<;>first|omega|assumption))|(simp[br_iff,gd_iff,doc,tbl,tbd,Tk.tr,Tk.td,Tk.tx,CS.rep]<;>omega))|(refine co_go (.tru 0) true 0 0 (by first|exact lastN|assumption|exact fun _=>⟨by omega,by omega,by assumption⟩) ?_ ?_ ?_ ?_<;>first|(first|(simp only[CS.rep,cS];omega)|(simp only[CS.rep,CS.ok];omega)|trivial|(simp only[CS.ok];first|trivial|and_intros<;>first|omega|assumption))|(simp[br_iff,gd_iff,doc,tbl,tbd,Tk.tr,Tk.td,Tk.tx,CS.rep]<;>omega))|exact trivial|assumption|exact()|exact rfl|intro _|refine And.intro ?_ ?_|(exfalso;simp_all;done))
theorem coD_rTduhN (T:TD) (j:Nat) (hi:0<(T.wh true).R) (hj:j<(T.wh true).C 0) (ht:(T.wh true).hasT 0 j=true):coDRTduhN T j:=by
 unfold coDRTduhN
 have hS:=cS_i (T:=(T.wh true)) (i:=0) hi
 dsimp only[TD.wh] at*
 try simp only[sj9,sj5,sj3,and_self]
 repeat' (first|done|omega|(refine co_go (.tdn 0 j) true 0 0 (by first|exact lastN|assumption|exact fun _=>⟨by omega,by omega,by assumption⟩) ?_ ?_ ?_ ?_<;>first|(first|(simp only[CS.rep,cS];omega)|(simp only[CS.rep,CS.ok];omega)|trivial|(simp only[CS.ok];first|trivial|and_intros<;>first|omega|assumption))|(simp[br_iff,gd_iff,doc,tbl,tbd,Tk.tr,Tk.td,Tk.tx,CS.rep]<;>omega))|(refine co_go (.tru 0) true 0 0 (by first|exact lastN|assumption|exact fun _=>⟨by omega,by omega,by assumption⟩) ?_ ?_ ?_ ?_<;>first|(first|(simp only[CS.rep,cS];omega)|(simp only[CS.rep,CS.ok];omega)|trivial|(simp only[CS.ok];first|trivial|and_intros<;>first|omega|assumption))|(simp[br_iff,gd_iff,doc,tbl,tbd,Tk.tr,Tk.td,Tk.tx,CS.rep]<;>omega))|exact trivial|assumption|exact()|exact rfl|intro _|refine And.intro ?_ ?_|(exfalso;simp_all;done))
theorem coD_rTd0fN (T:TD) (hi:0<(T.wh false).R) (hC:0<(T.wh false).C 0):coDRTd0fN T:=by
 unfold coDRTd0fN
 have hS:=cS_i (T:=(T.wh false)) (i:=0) hi
 dsimp only[TD.wh] at*
 try simp only[sj9,sj5,sj3,and_self]
 repeat' (first|done|omega|(refine co_go (.txd 0 0) true 0 0 (by first|exact lastN|assumption|exact fun _=>⟨by omega,by omega,by assumption⟩) ?_ ?_ ?_ ?_<;>first|(first|(simp only[CS.rep,cS];omega)|(simp only[CS.rep,CS.ok];omega)|trivial|(simp only[CS.ok];first|trivial|and_intros<;>first|omega|assumption))|(simp[br_iff,gd_iff,doc,tbl,tbd,Tk.tr,Tk.td,Tk.tx,CS.rep]<;>omega))|(refine co_go (.tdn 0 0) true 0 0 (by first|exact lastN|assumption|exact fun _=>⟨by omega,by omega,by assumption⟩) ?_ ?_ ?_ ?_<;>first|(first|(simp only[CS.rep,cS];omega)|(simp only[CS.rep,CS.ok];omega)|trivial|(simp only[CS.ok];first|trivial|and_intros<;>first|omega|assumption))|(simp[br_iff,gd_iff,doc,tbl,tbd,Tk.tr,Tk.td,Tk.tx,CS.rep]<;>omega))|(refine co_go (.tru 0) true 0 0 (by first|exact lastN|assumption|exact fun _=>⟨by omega,by omega,by assumption⟩) ?_ ?_ ?_ ?_<;>first|(first|(simp only[CS.rep,cS];omega)|(simp only[CS.rep,CS.ok];omega)|trivial|(simp only[CS.ok];first|trivial|and_intros<;>first|omega|assumption))|(simp[br_iff,gd_iff,doc,tbl,tbd,Tk.tr,Tk.td,Tk.tx,CS.rep]<;>omega))|exact trivial|assumption|exact()|exact rfl|intro _|refine And.intro ?_ ?_|(exfalso;simp_all;done))
theorem coD_rTdnfN (T:TD) (j:Nat) (hi:0<(T.wh false).R) (hj:j+1<(T.wh false).C 0):coDRTdnfN T j:=by
 unfold coDRTdnfN
 have hS:=cS_i (T:=(T.wh false)) (i:=0) hi
 dsimp only[TD.wh] at*
 try simp only[sj9,sj5,sj3,and_self]
 repeat' (first|done|omega|(refine co_go (.txd 0 (j+1)) true 0 0 (by first|exact lastN|assumption|exact fun _=>⟨by omega,by omega,by assumption⟩) ?_ ?_ ?_ ?_<;>first|(first|(simp only[CS.rep,cS];omega)|(simp only[CS.rep,CS.ok];omega)|trivial|(simp only[CS.ok];first|trivial|and_intros<;>first|omega|assumption))|(simp[br_iff,gd_iff,doc,tbl,tbd,Tk.tr,Tk.td,Tk.tx,CS.rep]<;>omega))|(refine co_go (.tdn 0 (j+1)) true 0 0 (by first|exact lastN|assumption|exact fun _=>⟨by omega,by omega,by assumption⟩) ?_ ?_ ?_ ?_<;>first|(first|(simp only[CS.rep,cS];omega)|(simp only[CS.rep,CS.ok];omega)|trivial|(simp only[CS.ok];first|trivial|and_intros<;>first|omega|assumption))|(simp[br_iff,gd_iff,doc,tbl,tbd,Tk.tr,Tk.td,Tk.tx,CS.rep]<;>omega))|(refine co_go (.tru 0) true 0 0 (by first|exact lastN|assumption|exact fun _=>⟨by omega,by omega,by assumption⟩) ?_ ?_ ?_ ?_<;>first|(first|(simp only[CS.rep,cS];omega)|(simp only[CS.rep,CS.ok];omega)|trivial|(simp only[CS.ok];first|trivial|and_intros<;>first|omega|assumption))|(simp[br_iff,gd_iff,doc,tbl,tbd,Tk.tr,Tk.td,Tk.tx,CS.rep]<;>omega))|exact trivial|assumption|exact()|exact rfl|intro _|refine And.intro ?_ ?_|(exfalso;simp_all;done))
theorem coD_rTdufN (T:TD) (j:Nat) (hi:0<(T.wh false).R) (hj:j<(T.wh false).C 0) (ht:(T.wh false).hasT 0 j=true):coDRTdufN T j:=by
 unfold coDRTdufN
 have hS:=cS_i (T:=(T.wh false)) (i:=0) hi
 dsimp only[TD.wh] at*
 try simp only[sj9,sj5,sj3,and_self]
 repeat' (first|done|omega|(refine co_go (.tdn 0 j) true 0 0 (by first|exact lastN|assumption|exact fun _=>⟨by omega,by omega,by assumption⟩) ?_ ?_ ?_ ?_<;>first|(first|(simp only[CS.rep,cS];omega)|(simp only[CS.rep,CS.ok];omega)|trivial|(simp only[CS.ok];first|trivial|and_intros<;>first|omega|assumption))|(simp[br_iff,gd_iff,doc,tbl,tbd,Tk.tr,Tk.td,Tk.tx,CS.rep]<;>omega))|(refine co_go (.tru 0) true 0 0 (by first|exact lastN|assumption|exact fun _=>⟨by omega,by omega,by assumption⟩) ?_ ?_ ?_ ?_<;>first|(first|(simp only[CS.rep,cS];omega)|(simp only[CS.rep,CS.ok];omega)|trivial|(simp only[CS.ok];first|trivial|and_intros<;>first|omega|assumption))|(simp[br_iff,gd_iff,doc,tbl,tbd,Tk.tr,Tk.td,Tk.tx,CS.rep]<;>omega))|exact trivial|assumption|exact()|exact rfl|intro _|refine And.intro ?_ ?_|(exfalso;simp_all;done))
theorem coD_rTd0sN (T:TD) (i:Nat) (hi:(i+1)<T.R) (hC:0<T.C (i+1)):coDRTd0sN T i:=by
 unfold coDRTd0sN
 have hS:=cS_i (T:=T) (i:=(i+1)) hi
 try simp only[sj9,sj5,sj3,and_self]
 repeat' (first|done|omega|(refine co_go (.txd (i+1) 0) true 0 0 (by first|exact lastN|assumption|exact fun _=>⟨by omega,by omega,by assumption⟩) ?_ ?_ ?_ ?_<;>first|(first|(simp only[CS.rep,cS];omega)|(simp only[CS.rep,CS.ok];omega)|trivial|(simp only[CS.ok];first|trivial|and_intros<;>first|omega|assumption))|(simp[br_iff,gd_iff,doc,tbl,tbd,Tk.tr,Tk.td,Tk.tx,CS.rep]<;>omega))|(refine co_go (.tdn (i+1) 0) true 0 0 (by first|exact lastN|assumption|exact fun _=>⟨by omega,by omega,by assumption⟩) ?_ ?_ ?_ ?_<;>first|(first|(simp only[CS.rep,cS];omega)|(simp only[CS.rep,CS.ok];omega)|trivial|(simp only[CS.ok];first|trivial|and_intros<;>first|omega|assumption))|(simp[br_iff,gd_iff,doc,tbl,tbd,Tk.tr,Tk.td,Tk.tx,CS.rep]<;>omega))|(refine co_go (.tru (i+1)) true 0 0 (by first|exact lastN|assumption|exact fun _=>⟨by omega,by omega,by assumption⟩) ?_ ?_ ?_ ?_<;>first|(first|(simp only[CS.rep,cS];omega)|(simp only[CS.rep,CS.ok];omega)|trivial|(simp only[CS.ok];first|trivial|and_intros<;>first|omega|assumption))|(simp[br_iff,gd_iff,doc,tbl,tbd,Tk.tr,Tk.td,Tk.tx,CS.rep]<;>omega))|exact trivial|assumption|exact()|exact rfl|intro _|refine And.intro ?_ ?_|(exfalso;simp_all;done))
theorem coD_rTdnsN (T:TD) (i j:Nat) (hi:(i+1)<T.R) (hj:j+1<T.C (i+1)):coDRTdnsN T i j:=by
 unfold coDRTdnsN
 have hS:=cS_i (T:=T) (i:=(i+1)) hi
 try simp only[sj9,sj5,sj3,and_self]
 repeat' (first|done|omega|(refine co_go (.txd (i+1) (j+1)) true 0 0 (by first|exact lastN|assumption|exact fun _=>⟨by omega,by omega,by assumption⟩) ?_ ?_ ?_ ?_<;>first|(first|(simp only[CS.rep,cS];omega)|(simp only[CS.rep,CS.ok];omega)|trivial|(simp only[CS.ok];first|trivial|and_intros<;>first|omega|assumption))|(simp[br_iff,gd_iff,doc,tbl,tbd,Tk.tr,Tk.td,Tk.tx,CS.rep]<;>omega))|(refine co_go (.tdn (i+1) (j+1)) true 0 0 (by first|exact lastN|assumption|exact fun _=>⟨by omega,by omega,by assumption⟩) ?_ ?_ ?_ ?_<;>first|(first|(simp only[CS.rep,cS];omega)|(simp only[CS.rep,CS.ok];omega)|trivial|(simp only[CS.ok];first|trivial|and_intros<;>first|omega|assumption))|(simp[br_iff,gd_iff,doc,tbl,tbd,Tk.tr,Tk.td,Tk.tx,CS.rep]<;>omega))|(refine co_go (.tru (i+1)) true 0 0 (by first|exact lastN|assumption|exact fun _=>⟨by omega,by omega,by assumption⟩) ?_ ?_ ?_ ?_<;>first|(first|(simp only[CS.rep,cS];omega)|(simp only[CS.rep,CS.ok];omega)|trivial|(simp only[CS.ok];first|trivial|and_intros<;>first|omega|assumption))|(simp[br_iff,gd_iff,doc,tbl,tbd,Tk.tr,Tk.td,Tk.tx,CS.rep]<;>omega))|exact trivial|assumption|exact()|exact rfl|intro _|refine And.intro ?_ ?_|(exfalso;simp_all;done))
theorem coD_rTdusN (T:TD) (i j:Nat) (hi:(i+1)<T.R) (hj:j<T.C (i+1)) (ht:T.hasT (i+1) j=true):coDRTdusN T i j:=by
 unfold coDRTdusN
 have hS:=cS_i (T:=T) (i:=(i+1)) hi
 try simp only[sj9,sj5,sj3,and_self]
 repeat' (first|done|omega|(refine co_go (.tdn (i+1) j) true 0 0 (by first|exact lastN|assumption|exact fun _=>⟨by omega,by omega,by assumption⟩) ?_ ?_ ?_ ?_<;>first|(first|(simp only[CS.rep,cS];omega)|(simp only[CS.rep,CS.ok];omega)|trivial|(simp only[CS.ok];first|trivial|and_intros<;>first|omega|assumption))|(simp[br_iff,gd_iff,doc,tbl,tbd,Tk.tr,Tk.td,Tk.tx,CS.rep]<;>omega))|(refine co_go (.tru (i+1)) true 0 0 (by first|exact lastN|assumption|exact fun _=>⟨by omega,by omega,by assumption⟩) ?_ ?_ ?_ ?_<;>first|(first|(simp only[CS.rep,cS];omega)|(simp only[CS.rep,CS.ok];omega)|trivial|(simp only[CS.ok];first|trivial|and_intros<;>first|omega|assumption))|(simp[br_iff,gd_iff,doc,tbl,tbd,Tk.tr,Tk.td,Tk.tx,CS.rep]<;>omega))|exact trivial|assumption|exact()|exact rfl|intro _|refine And.intro ?_ ?_|(exfalso;simp_all;done))
theorem coD_rTxdN (T:TD) (i j:Nat) (hT:T.Ok) (hi:i<T.R) (hj:j<T.C i) (ht:T.hasT i j=true):coDRTxdN T i j:=by
 unfold coDRTxdN
 have hS:=cS_i (T:=T) hi
 have hn:=hasT_ne ht
 have hp:=List.length_pos_iff.2 hn
 have hw:=(hT.w i j).at hp
 have hl:=hT.l i j
 have hw0:=hT.w i j
 have he:eqL (T.tx i j) []=false:=by rw[eqL_eq];simpa using hn
 simp only[forall_eq,he,eqI,eqI',ltI,leI]
 try simp only[sj9,sj5,sj3,and_self]
 repeat' (first|done|omega|(refine co_go (.tdu i j) false i j (by first|exact lastN|assumption|exact fun _=>⟨by omega,by omega,by assumption⟩) ?_ ?_ ?_ ?_<;>first|(first|(simp only[CS.rep,cS];omega)|(simp only[CS.rep,CS.ok];omega)|trivial|(simp only[CS.ok];first|trivial|and_intros<;>first|omega|assumption))|(simp[br_iff,gd_iff,doc,tbl,tbd,Tk.tr,Tk.td,Tk.tx,CS.rep]<;>omega))|exact trivial|assumption|exact()|exact rfl|intro _|refine And.intro ?_ ?_|(exfalso;simp_all;done))
theorem coD_rTruN (T:TD) (i:Nat) (hT:T.Ok) (hi:i<T.R):coDRTruN T i:=by
 unfold coDRTruN
 have hS:=cS_i (T:=T) hi
 have hS2:=fun h:i+1<T.R=>cS_i (T:=T) (i:=i+1) h
 have hC:=hT.c i hi
 try simp only[sj9,sj5,sj3,and_self]
 repeat' (first|done|omega|(refine co_go (.trn i) true 0 0 (by first|exact lastN|assumption|exact fun _=>⟨by omega,by omega,by assumption⟩) ?_ ?_ ?_ ?_<;>first|(first|(simp only[CS.rep,cS];omega)|(simp only[CS.rep,CS.ok];omega)|trivial|(simp only[CS.ok];first|trivial|and_intros<;>first|omega|assumption))|(simp[br_iff,gd_iff,doc,tbl,tbd,Tk.tr,Tk.td,Tk.tx,CS.rep]<;>omega))|(refine co_go .tbu true 0 0 (by first|exact lastN|assumption|exact fun _=>⟨by omega,by omega,by assumption⟩) ?_ ?_ ?_ ?_<;>first|(first|(simp only[CS.rep,cS];omega)|(simp only[CS.rep,CS.ok];omega)|trivial|(simp only[CS.ok];first|trivial|and_intros<;>first|omega|assumption))|(simp[br_iff,gd_iff,doc,tbl,tbd,Tk.tr,Tk.td,Tk.tx,CS.rep]<;>omega))|exact trivial|assumption|exact()|exact rfl|intro _|refine And.intro ?_ ?_|(exfalso;simp_all;done))
theorem coD_rTbuN (T:TD) (hT:T.Ok):coDRTbuN T:=by
 unfold coDRTbuN
 try simp only[sj9,sj5,sj3,and_self]
 repeat' (first|done|omega|(refine co_go .tlu true 0 0 (by first|exact lastN|assumption|exact fun _=>⟨by omega,by omega,by assumption⟩) ?_ ?_ ?_ ?_<;>first|(first|(simp only[CS.rep,cS];omega)|(simp only[CS.rep,CS.ok];omega)|trivial|(simp only[CS.ok];first|trivial|and_intros<;>first|omega|assumption))|(simp[br_iff,gd_iff,doc,tbl,tbd,Tk.tr,Tk.td,Tk.tx,CS.rep]<;>omega))|exact trivial|assumption|exact()|exact rfl|intro _|refine And.intro ?_ ?_|(exfalso;simp_all;done))
theorem coD_rTluN (T:TD) (hT:T.Ok):coDRTluN T:=by
 unfold coDRTluN
 try simp only[forall_eq]
 try simp only[sj9,sj5,sj3,and_self]
 repeat' (first|done|omega|(refine co_go .dou true 0 0 (by first|exact lastN|assumption|exact fun _=>⟨by omega,by omega,by assumption⟩) ?_ ?_ ?_ ?_<;>first|(first|(simp only[CS.rep,cS];omega)|(simp only[CS.rep,CS.ok];omega)|trivial|(simp only[CS.ok];first|trivial|and_intros<;>first|omega|assumption))|(simp[br_iff,gd_iff,doc,tbl,tbd,Tk.tr,Tk.td,Tk.tx,CS.rep]<;>omega))|exact trivial|assumption|exact()|exact rfl|intro _|refine And.intro ?_ ?_|(exfalso;simp_all;done))
theorem coD_rTr0P (T:TD) (a b:Nat) (hT:T.Ok) (hb:lastOk T false a b):coDRTr0P T a b:=by
 unfold coDRTr0P
 have hR:=hT.r
 have hS:=cS_i (T:=T) (i:=0) hR
 have hC:=hT.c 0 hR
 try simp only[sj9,sj5,sj3,and_self]
 repeat' (first|done|omega|(refine co_go (.td0 0) false a b (by first|exact lastN|assumption|exact fun _=>⟨by omega,by omega,by assumption⟩) ?_ ?_ ?_ ?_<;>first|(first|(simp only[CS.rep,cS];omega)|(simp only[CS.rep,CS.ok];omega)|trivial|(simp only[CS.ok];first|trivial|and_intros<;>first|omega|assumption))|(simp[br_iff,gd_iff,doc,tbl,tbd,Tk.tr,Tk.td,Tk.tx,CS.rep]<;>omega))|exact trivial|assumption|exact()|exact rfl|intro _|refine And.intro ?_ ?_|(exfalso;simp_all;done))
theorem coD_rTrnP (T:TD) (i:Nat) (a b:Nat) (hT:T.Ok) (hi:i+1<T.R) (hb:lastOk T false a b):coDRTrnP T i a b:=by
 unfold coDRTrnP
 have hS:=cS_i (T:=T) (i:=i+1) hi
 try simp only[sj9,sj5,sj3,and_self]
 repeat' (first|done|omega|(refine co_go (.td0 (i+1)) false a b (by first|exact lastN|assumption|exact fun _=>⟨by omega,by omega,by assumption⟩) ?_ ?_ ?_ ?_<;>first|(first|(simp only[CS.rep,cS];omega)|(simp only[CS.rep,CS.ok];omega)|trivial|(simp only[CS.ok];first|trivial|and_intros<;>first|omega|assumption))|(simp[br_iff,gd_iff,doc,tbl,tbd,Tk.tr,Tk.td,Tk.tx,CS.rep]<;>omega))|exact trivial|assumption|exact()|exact rfl|intro _|refine And.intro ?_ ?_|(exfalso;simp_all;done))
theorem coD_rTd0hP (T:TD) (a b:Nat) (hi:0<(T.wh true).R) (hC:0<(T.wh true).C 0) (hb:lastOk (T.wh true) false a b):coDRTd0hP T a b:=by
 unfold coDRTd0hP
 have hS:=cS_i (T:=(T.wh true)) (i:=0) hi
 dsimp only[TD.wh] at*
 try simp only[sj9,sj5,sj3,and_self]
 repeat' (first|done|omega|(refine co_go (.txd 0 0) false a b (by first|exact lastN|assumption|exact fun _=>⟨by omega,by omega,by assumption⟩) ?_ ?_ ?_ ?_<;>first|(first|(simp only[CS.rep,cS];omega)|(simp only[CS.rep,CS.ok];omega)|trivial|(simp only[CS.ok];first|trivial|and_intros<;>first|omega|assumption))|(simp[br_iff,gd_iff,doc,tbl,tbd,Tk.tr,Tk.td,Tk.tx,CS.rep]<;>omega))|(refine co_go (.tdn 0 0) false a b (by first|exact lastN|assumption|exact fun _=>⟨by omega,by omega,by assumption⟩) ?_ ?_ ?_ ?_<;>first|(first|(simp only[CS.rep,cS];omega)|(simp only[CS.rep,CS.ok];omega)|trivial|(simp only[CS.ok];first|trivial|and_intros<;>first|omega|assumption))|(simp[br_iff,gd_iff,doc,tbl,tbd,Tk.tr,Tk.td,Tk.tx,CS.rep]<;>omega))|(refine co_go (.tru 0) false a b (by first|exact lastN|assumption|exact fun _=>⟨by omega,by omega,by assumption⟩) ?_ ?_ ?_ ?_<;>first|(first|(simp only[CS.rep,cS];omega)|(simp only[CS.rep,CS.ok];omega)|trivial|(simp only[CS.ok];first|trivial|and_intros<;>first|omega|assumption))|(simp[br_iff,gd_iff,doc,tbl,tbd,Tk.tr,Tk.td,Tk.tx,CS.rep]<;>omega))|exact trivial|assumption|exact()|exact rfl|intro _|refine And.intro ?_ ?_|(exfalso;simp_all;done))
theorem coD_rTdnhP (T:TD) (j:Nat) (a b:Nat) (hi:0<(T.wh true).R) (hj:j+1<(T.wh true).C 0) (hb:lastOk (T.wh true) false a b):coDRTdnhP T j a b:=by
 unfold coDRTdnhP
 have hS:=cS_i (T:=(T.wh true)) (i:=0) hi
 dsimp only[TD.wh] at*
 try simp only[sj9,sj5,sj3,and_self]
 repeat' (first|done|omega|(refine co_go (.txd 0 (j+1)) false a b (by first|exact lastN|assumption|exact fun _=>⟨by omega,by omega,by assumption⟩) ?_ ?_ ?_ ?_<;>first|(first|(simp only[CS.rep,cS];omega)|(simp only[CS.rep,CS.ok];omega)|trivial|(simp only[CS.ok];first|trivial|and_intros<;>first|omega|assumption))|(simp[br_iff,gd_iff,doc,tbl,tbd,Tk.tr,Tk.td,Tk.tx,CS.rep]<;>omega))|(refine co_go (.tdn 0 (j+1)) false a b (by first|exact lastN|assumption|exact fun _=>⟨by omega,by omega,by assumption⟩) ?_ ?_ ?_ ?_<;>first|(first|(simp only[CS.rep,cS];omega)|(simp only[CS.rep,CS.ok];omega)|trivial|(simp only[CS.ok];first|trivial|and_intros<;>first|omega|assumption))|(simp[br_iff,gd_iff,doc,tbl,tbd,Tk.tr,Tk.td,Tk.tx,CS.rep]<;>omega))|(refine co_go (.tru 0) false a b (by first|exact lastN|assumption|exact fun _=>⟨by omega,by omega,by assumption⟩) ?_ ?_ ?_ ?_<;>first|(first|(simp only[CS.rep,cS];omega)|(simp only[CS.rep,CS.ok];omega)|trivial|(simp only[CS.ok];first|trivial|and_intros<;>first|omega|assumption))|(simp[br_iff,gd_iff,doc,tbl,tbd,Tk.tr,Tk.td,Tk.tx,CS.rep]<;>omega))|exact trivial|assumption|exact()|exact rfl|intro _|refine And.intro ?_ ?_|(exfalso;simp_all;done))
theorem coD_rTduhP (T:TD) (j:Nat) (a b:Nat) (hi:0<(T.wh true).R) (hj:j<(T.wh true).C 0) (ht:(T.wh true).hasT 0 j=true) (hb:lastOk (T.wh true) false a b):coDRTduhP T j a b:=by
 unfold coDRTduhP
 have hS:=cS_i (T:=(T.wh true)) (i:=0) hi
 dsimp only[TD.wh] at*
 try simp only[sj9,sj5,sj3,and_self]
 repeat' (first|done|omega|(refine co_go (.tdn 0 j) false a b (by first|exact lastN|assumption|exact fun _=>⟨by omega,by omega,by assumption⟩) ?_ ?_ ?_ ?_<;>first|(first|(simp only[CS.rep,cS];omega)|(simp only[CS.rep,CS.ok];omega)|trivial|(simp only[CS.ok];first|trivial|and_intros<;>first|omega|assumption))|(simp[br_iff,gd_iff,doc,tbl,tbd,Tk.tr,Tk.td,Tk.tx,CS.rep]<;>omega))|(refine co_go (.tru 0) false a b (by first|exact lastN|assumption|exact fun _=>⟨by omega,by omega,by assumption⟩) ?_ ?_ ?_ ?_<;>first|(first|(simp only[CS.rep,cS];omega)|(simp only[CS.rep,CS.ok];omega)|trivial|(simp only[CS.ok];first|trivial|and_intros<;>first|omega|assumption))|(simp[br_iff,gd_iff,doc,tbl,tbd,Tk.tr,Tk.td,Tk.tx,CS.rep]<;>omega))|exact trivial|assumption|exact()|exact rfl|intro _|refine And.intro ?_ ?_|(exfalso;simp_all;done))
theorem coD_rTd0fP (T:TD) (a b:Nat) (hi:0<(T.wh false).R) (hC:0<(T.wh false).C 0) (hb:lastOk (T.wh false) false a b):coDRTd0fP T a b:=by
 unfold coDRTd0fP
 have hS:=cS_i (T:=(T.wh false)) (i:=0) hi
 dsimp only[TD.wh] at*
 try simp only[sj9,sj5,sj3,and_self]
 repeat' (first|done|omega|(refine co_go (.txd 0 0) false a b (by first|exact lastN|assumption|exact fun _=>⟨by omega,by omega,by assumption⟩) ?_ ?_ ?_ ?_<;>first|(first|(simp only[CS.rep,cS];omega)|(simp only[CS.rep,CS.ok];omega)|trivial|(simp only[CS.ok];first|trivial|and_intros<;>first|omega|assumption))|(simp[br_iff,gd_iff,doc,tbl,tbd,Tk.tr,Tk.td,Tk.tx,CS.rep]<;>omega))|(refine co_go (.tdn 0 0) false a b (by first|exact lastN|assumption|exact fun _=>⟨by omega,by omega,by assumption⟩) ?_ ?_ ?_ ?_<;>first|(first|(simp only[CS.rep,cS];omega)|(simp only[CS.rep,CS.ok];omega)|trivial|(simp only[CS.ok];first|trivial|and_intros<;>first|omega|assumption))|(simp[br_iff,gd_iff,doc,tbl,tbd,Tk.tr,Tk.td,Tk.tx,CS.rep]<;>omega))|(refine co_go (.tru 0) false a b (by first|exact lastN|assumption|exact fun _=>⟨by omega,by omega,by assumption⟩) ?_ ?_ ?_ ?_<;>first|(first|(simp only[CS.rep,cS];omega)|(simp only[CS.rep,CS.ok];omega)|trivial|(simp only[CS.ok];first|trivial|and_intros<;>first|omega|assumption))|(simp[br_iff,gd_iff,doc,tbl,tbd,Tk.tr,Tk.td,Tk.tx,CS.rep]<;>omega))|exact trivial|assumption|exact()|exact rfl|intro _|refine And.intro ?_ ?_|(exfalso;simp_all;done))
theorem coD_rTdnfP (T:TD) (j:Nat) (a b:Nat) (hi:0<(T.wh false).R) (hj:j+1<(T.wh false).C 0) (hb:lastOk (T.wh false) false a b):coDRTdnfP T j a b:=by
 unfold coDRTdnfP
 have hS:=cS_i (T:=(T.wh false)) (i:=0) hi
 dsimp only[TD.wh] at*
 try simp only[sj9,sj5,sj3,and_self]
 repeat' (first|done|omega|(refine co_go (.txd 0 (j+1)) false a b (by first|exact lastN|assumption|exact fun _=>⟨by omega,by omega,by assumption⟩) ?_ ?_ ?_ ?_<;>first|(first|(simp only[CS.rep,cS];omega)|(simp only[CS.rep,CS.ok];omega)|trivial|(simp only[CS.ok];first|trivial|and_intros<;>first|omega|assumption))|(simp[br_iff,gd_iff,doc,tbl,tbd,Tk.tr,Tk.td,Tk.tx,CS.rep]<;>omega))|(refine co_go (.tdn 0 (j+1)) false a b (by first|exact lastN|assumption|exact fun _=>⟨by omega,by omega,by assumption⟩) ?_ ?_ ?_ ?_<;>first|(first|(simp only[CS.rep,cS];omega)|(simp only[CS.rep,CS.ok];omega)|trivial|(simp only[CS.ok];first|trivial|and_intros<;>first|omega|assumption))|(simp[br_iff,gd_iff,doc,tbl,tbd,Tk.tr,Tk.td,Tk.tx,CS.rep]<;>omega))|(refine co_go (.tru 0) false a b (by first|exact lastN|assumption|exact fun _=>⟨by omega,by omega,by assumption⟩) ?_ ?_ ?_ ?_<;>first|(first|(simp only[CS.rep,cS];omega)|(simp only[CS.rep,CS.ok];omega)|trivial|(simp only[CS.ok];first|trivial|and_intros<;>first|omega|assumption))|(simp[br_iff,gd_iff,doc,tbl,tbd,Tk.tr,Tk.td,Tk.tx,CS.rep]<;>omega))|exact trivial|assumption|exact()|exact rfl|intro _|refine And.intro ?_ ?_|(exfalso;simp_all;done))
theorem coD_rTdufP (T:TD) (j:Nat) (a b:Nat) (hi:0<(T.wh false).R) (hj:j<(T.wh false).C 0) (ht:(T.wh false).hasT 0 j=true) (hb:lastOk (T.wh false) false a b):coDRTdufP T j a b:=by
 unfold coDRTdufP
 have hS:=cS_i (T:=(T.wh false)) (i:=0) hi
 dsimp only[TD.wh] at*
 try simp only[sj9,sj5,sj3,and_self]
 repeat' (first|done|omega|(refine co_go (.tdn 0 j) false a b (by first|exact lastN|assumption|exact fun _=>⟨by omega,by omega,by assumption⟩) ?_ ?_ ?_ ?_<;>first|(first|(simp only[CS.rep,cS];omega)|(simp only[CS.rep,CS.ok];omega)|trivial|(simp only[CS.ok];first|trivial|and_intros<;>first|omega|assumption))|(simp[br_iff,gd_iff,doc,tbl,tbd,Tk.tr,Tk.td,Tk.tx,CS.rep]<;>omega))|(refine co_go (.tru 0) false a b (by first|exact lastN|assumption|exact fun _=>⟨by omega,by omega,by assumption⟩) ?_ ?_ ?_ ?_<;>first|(first|(simp only[CS.rep,cS];omega)|(simp only[CS.rep,CS.ok];omega)|trivial|(simp only[CS.ok];first|trivial|and_intros<;>first|omega|assumption))|(simp[br_iff,gd_iff,doc,tbl,tbd,Tk.tr,Tk.td,Tk.tx,CS.rep]<;>omega))|exact trivial|assumption|exact()|exact rfl|intro _|refine And.intro ?_ ?_|(exfalso;simp_all;done))
theorem coD_rTd0sP (T:TD) (i:Nat) (a b:Nat) (hi:(i+1)<T.R) (hC:0<T.C (i+1)) (hb:lastOk T false a b):coDRTd0sP T i a b:=by
 unfold coDRTd0sP
 have hS:=cS_i (T:=T) (i:=(i+1)) hi
 try simp only[sj9,sj5,sj3,and_self]
 repeat' (first|done|omega|(refine co_go (.txd (i+1) 0) false a b (by first|exact lastN|assumption|exact fun _=>⟨by omega,by omega,by assumption⟩) ?_ ?_ ?_ ?_<;>first|(first|(simp only[CS.rep,cS];omega)|(simp only[CS.rep,CS.ok];omega)|trivial|(simp only[CS.ok];first|trivial|and_intros<;>first|omega|assumption))|(simp[br_iff,gd_iff,doc,tbl,tbd,Tk.tr,Tk.td,Tk.tx,CS.rep]<;>omega))|(refine co_go (.tdn (i+1) 0) false a b (by first|exact lastN|assumption|exact fun _=>⟨by omega,by omega,by assumption⟩) ?_ ?_ ?_ ?_<;>first|(first|(simp only[CS.rep,cS];omega)|(simp only[CS.rep,CS.ok];omega)|trivial|(simp only[CS.ok];first|trivial|and_intros<;>first|omega|assumption))|(simp[br_iff,gd_iff,doc,tbl,tbd,Tk.tr,Tk.td,Tk.tx,CS.rep]<;>omega))|(refine co_go (.tru (i+1)) false a b (by first|exact lastN|assumption|exact fun _=>⟨by omega,by omega,by assumption⟩) ?_ ?_ ?_ ?_<;>first|(first|(simp only[CS.rep,cS];omega)|(simp only[CS.rep,CS.ok];omega)|trivial|(simp only[CS.ok];first|trivial|and_intros<;>first|omega|assumption))|(simp[br_iff,gd_iff,doc,tbl,tbd,Tk.tr,Tk.td,Tk.tx,CS.rep]<;>omega))|exact trivial|assumption|exact()|exact rfl|intro _|refine And.intro ?_ ?_|(exfalso;simp_all;done))
theorem coD_rTdnsP (T:TD) (i j:Nat) (a b:Nat) (hi:(i+1)<T.R) (hj:j+1<T.C (i+1)) (hb:lastOk T false a b):coDRTdnsP T i j a b:=by
 unfold coDRTdnsP
 have hS:=cS_i (T:=T) (i:=(i+1)) hi
 try simp only[sj9,sj5,sj3,and_self]
 repeat' (first|done|omega|(refine co_go (.txd (i+1) (j+1)) false a b (by first|exact lastN|assumption|exact fun _=>⟨by omega,by omega,by assumption⟩) ?_ ?_ ?_ ?_<;>first|(first|(simp only[CS.rep,cS];omega)|(simp only[CS.rep,CS.ok];omega)|trivial|(simp only[CS.ok];first|trivial|and_intros<;>first|omega|assumption))|(simp[br_iff,gd_iff,doc,tbl,tbd,Tk.tr,Tk.td,Tk.tx,CS.rep]<;>omega))|(refine co_go (.tdn (i+1) (j+1)) false a b (by first|exact lastN|assumption|exact fun _=>⟨by omega,by omega,by assumption⟩) ?_ ?_ ?_ ?_<;>first|(first|(simp only[CS.rep,cS];omega)|(simp only[CS.rep,CS.ok];omega)|trivial|(simp only[CS.ok];first|trivial|and_intros<;>first|omega|assumption))|(simp[br_iff,gd_iff,doc,tbl,tbd,Tk.tr,Tk.td,Tk.tx,CS.rep]<;>omega))|(refine co_go (.tru (i+1)) false a b (by first|exact lastN|assumption|exact fun _=>⟨by omega,by omega,by assumption⟩) ?_ ?_ ?_ ?_<;>first|(first|(simp only[CS.rep,cS];omega)|(simp only[CS.rep,CS.ok];omega)|trivial|(simp only[CS.ok];first|trivial|and_intros<;>first|omega|assumption))|(simp[br_iff,gd_iff,doc,tbl,tbd,Tk.tr,Tk.td,Tk.tx,CS.rep]<;>omega))|exact trivial|assumption|exact()|exact rfl|intro _|refine And.intro ?_ ?_|(exfalso;simp_all;done))
theorem coD_rTdusP (T:TD) (i j:Nat) (a b:Nat) (hi:(i+1)<T.R) (hj:j<T.C (i+1)) (ht:T.hasT (i+1) j=true) (hb:lastOk T false a b):coDRTdusP T i j a b:=by
 unfold coDRTdusP
 have hS:=cS_i (T:=T) (i:=(i+1)) hi
 try simp only[sj9,sj5,sj3,and_self]
 repeat' (first|done|omega|(refine co_go (.tdn (i+1) j) false a b (by first|exact lastN|assumption|exact fun _=>⟨by omega,by omega,by assumption⟩) ?_ ?_ ?_ ?_<;>first|(first|(simp only[CS.rep,cS];omega)|(simp only[CS.rep,CS.ok];omega)|trivial|(simp only[CS.ok];first|trivial|and_intros<;>first|omega|assumption))|(simp[br_iff,gd_iff,doc,tbl,tbd,Tk.tr,Tk.td,Tk.tx,CS.rep]<;>omega))|(refine co_go (.tru (i+1)) false a b (by first|exact lastN|assumption|exact fun _=>⟨by omega,by omega,by assumption⟩) ?_ ?_ ?_ ?_<;>first|(first|(simp only[CS.rep,cS];omega)|(simp only[CS.rep,CS.ok];omega)|trivial|(simp only[CS.ok];first|trivial|and_intros<;>first|omega|assumption))|(simp[br_iff,gd_iff,doc,tbl,tbd,Tk.tr,Tk.td,Tk.tx,CS.rep]<;>omega))|exact trivial|assumption|exact()|exact rfl|intro _|refine And.intro ?_ ?_|(exfalso;simp_all;done))
theorem coD_rTxdP (T:TD) (i j:Nat) (a b:Nat) (hT:T.Ok) (hi:i<T.R) (hj:j<T.C i) (ht:T.hasT i j=true) (hb:lastOk T false a b):coDRTxdP T i j a b:=by
 unfold coDRTxdP
 have hb0:=hb rfl
 have hw2:=hT.w a b
 have hl2:=hT.l a b
 have hn2:=hasT_ne hb0.2.2
 have hS:=cS_i (T:=T) hi
 have hn:=hasT_ne ht
 have hp:=List.length_pos_iff.2 hn
 have hw:=(hT.w i j).at hp
 have hl:=hT.l i j
 have hw0:=hT.w i j
 have he:eqL (T.tx i j) []=false:=by rw[eqL_eq];simpa using hn
 simp only[forall_eq,he,eqI,eqI',ltI,leI]
 try simp only[sj9,sj5,sj3,and_self]
 repeat' (first|done|omega|(refine co_go (.tdu i j) false i j (by first|exact lastN|assumption|exact fun _=>⟨by omega,by omega,by assumption⟩) ?_ ?_ ?_ ?_<;>first|(first|(simp only[CS.rep,cS];omega)|(simp only[CS.rep,CS.ok];omega)|trivial|(simp only[CS.ok];first|trivial|and_intros<;>first|omega|assumption))|(simp[br_iff,gd_iff,doc,tbl,tbd,Tk.tr,Tk.td,Tk.tx,CS.rep]<;>omega))|exact trivial|assumption|exact()|exact rfl|intro _|refine And.intro ?_ ?_|(exfalso;simp_all;done))
theorem coD_rTruP (T:TD) (i:Nat) (a b:Nat) (hT:T.Ok) (hi:i<T.R) (hb:lastOk T false a b):coDRTruP T i a b:=by
 unfold coDRTruP
 have hS:=cS_i (T:=T) hi
 have hS2:=fun h:i+1<T.R=>cS_i (T:=T) (i:=i+1) h
 have hC:=hT.c i hi
 try simp only[sj9,sj5,sj3,and_self]
 repeat' (first|done|omega|(refine co_go (.trn i) false a b (by first|exact lastN|assumption|exact fun _=>⟨by omega,by omega,by assumption⟩) ?_ ?_ ?_ ?_<;>first|(first|(simp only[CS.rep,cS];omega)|(simp only[CS.rep,CS.ok];omega)|trivial|(simp only[CS.ok];first|trivial|and_intros<;>first|omega|assumption))|(simp[br_iff,gd_iff,doc,tbl,tbd,Tk.tr,Tk.td,Tk.tx,CS.rep]<;>omega))|(refine co_go .tbu false a b (by first|exact lastN|assumption|exact fun _=>⟨by omega,by omega,by assumption⟩) ?_ ?_ ?_ ?_<;>first|(first|(simp only[CS.rep,cS];omega)|(simp only[CS.rep,CS.ok];omega)|trivial|(simp only[CS.ok];first|trivial|and_intros<;>first|omega|assumption))|(simp[br_iff,gd_iff,doc,tbl,tbd,Tk.tr,Tk.td,Tk.tx,CS.rep]<;>omega))|exact trivial|assumption|exact()|exact rfl|intro _|refine And.intro ?_ ?_|(exfalso;simp_all;done))
theorem coD_rTbuP (T:TD) (a b:Nat) (hT:T.Ok) (hb:lastOk T false a b):coDRTbuP T a b:=by
 unfold coDRTbuP
 try simp only[sj9,sj5,sj3,and_self]
 repeat' (first|done|omega|(refine co_go .tlu false a b (by first|exact lastN|assumption|exact fun _=>⟨by omega,by omega,by assumption⟩) ?_ ?_ ?_ ?_<;>first|(first|(simp only[CS.rep,cS];omega)|(simp only[CS.rep,CS.ok];omega)|trivial|(simp only[CS.ok];first|trivial|and_intros<;>first|omega|assumption))|(simp[br_iff,gd_iff,doc,tbl,tbd,Tk.tr,Tk.td,Tk.tx,CS.rep]<;>omega))|exact trivial|assumption|exact()|exact rfl|intro _|refine And.intro ?_ ?_|(exfalso;simp_all;done))
theorem coD_rTluP (T:TD) (a b:Nat) (hT:T.Ok) (hb:lastOk T false a b):coDRTluP T a b:=by
 unfold coDRTluP
 have hb0:=hb rfl
 have hw2:=hT.w a b
 have hl2:=hT.l a b
 have hn2:=hasT_ne hb0.2.2
 try simp only[forall_eq]
 try simp only[sj9,sj5,sj3,and_self]
 repeat' (first|done|omega|(refine co_go .dou true 0 0 (by first|exact lastN|assumption|exact fun _=>⟨by omega,by omega,by assumption⟩) ?_ ?_ ?_ ?_<;>first|(first|(simp only[CS.rep,cS];omega)|(simp only[CS.rep,CS.ok];omega)|trivial|(simp only[CS.ok];first|trivial|and_intros<;>first|omega|assumption))|(simp[br_iff,gd_iff,doc,tbl,tbd,Tk.tr,Tk.td,Tk.tx,CS.rep]<;>omega))|exact trivial|assumption|exact()|exact rfl|intro _|refine And.intro ?_ ?_|(exfalso;simp_all;done))
theorem coD_rDou (T:TD):coDRDou T:=by
 unfold coDRDou
 try simp only[sj9,sj5,sj3,and_self]
 repeat' (first|done|omega|exact trivial|assumption|exact()|exact rfl|intro _|refine And.intro ?_ ?_|(exfalso;simp_all;done))
theorem coD_b (T:TD) (hT:T.Ok):(coD T).Body Tryz.prog (sub (bodyOf Tryz.f145) [0,0,0,1,1,1,1,1,1]):=by
 have hd:T=T.wh true\/T=T.wh false:=by
  cases h:T.hd with
  |true=>left;cases T;simp only[TD.wh] at h⊢;rw[h]
  |false=>right;cases T;simp only[TD.wh] at h⊢;rw[h]
 refine LoopD.bodyH (root:=(bodyOf Tryz.f145)) [0,0,0,1,1,1,1,1,1] ftOk (coU_ok T hT) LTok.nil 1000 ?_
 rintro j ⟨s,o,a,b,hs,hb,rfl⟩
 have hC:∀i,i<T.R->0<T.C i:=hT.c
 cases s with
 |a=>exact Ho.of (coDRA T) (by kernel_rfl) (coD_rA T hT)
 |b=>exact Ho.of (coDRB T) (by kernel_rfl) (coD_rB T hT)
 |tr0=>
  cases o with
  |true=>exact Ho.of (coDRTr0N T) (by kernel_rfl) (coD_rTr0N T hT)
  |false=>exact Ho.of (coDRTr0P T a b) (by kernel_rfl) (coD_rTr0P T a b hT hb)
 |trn i=>
  cases o with
  |true=>exact Ho.of (coDRTrnN T i) (by kernel_rfl) (coD_rTrnN T i hT hs)
  |false=>exact Ho.of (coDRTrnP T i a b) (by kernel_rfl) (coD_rTrnP T i a b hT hs hb)
 |td0 i=>
  cases i with
  |zero=>
   rcases hd with e|e
   ·rw[e] at hs hb⊢
    cases o with
    |true=>exact Ho.of (coDRTd0hN T) (by kernel_rfl) (coD_rTd0hN T hs (hC 0 hs))
    |false=>exact Ho.of (coDRTd0hP T a b) (by kernel_rfl) (coD_rTd0hP T a b hs (hC 0 hs) hb)
   ·rw[e] at hs hb⊢
    cases o with
    |true=>exact Ho.of (coDRTd0fN T) (by kernel_rfl) (coD_rTd0fN T hs (hC 0 hs))
    |false=>exact Ho.of (coDRTd0fP T a b) (by kernel_rfl) (coD_rTd0fP T a b hs (hC 0 hs) hb)
  |succ i=>
   cases o with
   |true=>exact Ho.of (coDRTd0sN T i) (by kernel_rfl) (coD_rTd0sN T i hs (hC _ hs))
   |false=>exact Ho.of (coDRTd0sP T i a b) (by kernel_rfl) (coD_rTd0sP T i a b hs (hC _ hs) hb)
 |tdn i j=>
  cases i with
  |zero=>
   rcases hd with e|e
   ·rw[e] at hs hb⊢
    cases o with
    |true=>exact Ho.of (coDRTdnhN T j) (by kernel_rfl) (coD_rTdnhN T j hs.1 hs.2)
    |false=>exact Ho.of (coDRTdnhP T j a b) (by kernel_rfl) (coD_rTdnhP T j a b hs.1 hs.2 hb)
   ·rw[e] at hs hb⊢
    cases o with
    |true=>exact Ho.of (coDRTdnfN T j) (by kernel_rfl) (coD_rTdnfN T j hs.1 hs.2)
    |false=>exact Ho.of (coDRTdnfP T j a b) (by kernel_rfl) (coD_rTdnfP T j a b hs.1 hs.2 hb)
  |succ i=>
   cases o with
   |true=>exact Ho.of (coDRTdnsN T i j) (by kernel_rfl) (coD_rTdnsN T i j hs.1 hs.2)
   |false=>exact Ho.of (coDRTdnsP T i j a b) (by kernel_rfl) (coD_rTdnsP T i j a b hs.1 hs.2 hb)
 |txd i j=>
  cases o with
  |true=>exact Ho.of (coDRTxdN T i j) (by kernel_rfl) (coD_rTxdN T i j hT hs.1 hs.2.1 hs.2.2)
  |false=>exact Ho.of (coDRTxdP T i j a b) (by kernel_rfl) (coD_rTxdP T i j a b hT hs.1 hs.2.1 hs.2.2 hb)
 |tdu i j=>
  cases i with
  |zero=>
   rcases hd with e|e
   ·rw[e] at hs hb⊢
    cases o with
    |true=>exact Ho.of (coDRTduhN T j) (by kernel_rfl) (coD_rTduhN T j hs.1 hs.2.1 hs.2.2)
    |false=>exact Ho.of (coDRTduhP T j a b) (by kernel_rfl) (coD_rTduhP T j a b hs.1 hs.2.1 hs.2.2 hb)
   ·rw[e] at hs hb⊢
    cases o with
    |true=>exact Ho.of (coDRTdufN T j) (by kernel_rfl) (coD_rTdufN T j hs.1 hs.2.1 hs.2.2)
    |false=>exact Ho.of (coDRTdufP T j a b) (by kernel_rfl) (coD_rTdufP T j a b hs.1 hs.2.1 hs.2.2 hb)
  |succ i=>
   cases o with
   |true=>exact Ho.of (coDRTdusN T i j) (by kernel_rfl) (coD_rTdusN T i j hs.1 hs.2.1 hs.2.2)
   |false=>exact Ho.of (coDRTdusP T i j a b) (by kernel_rfl) (coD_rTdusP T i j a b hs.1 hs.2.1 hs.2.2 hb)
 |tru i=>
  cases o with
  |true=>exact Ho.of (coDRTruN T i) (by kernel_rfl) (coD_rTruN T i hT hs)
  |false=>exact Ho.of (coDRTruP T i a b) (by kernel_rfl) (coD_rTruP T i a b hT hs hb)
 |tbu=>
  cases o with
  |true=>exact Ho.of (coDRTbuN T) (by kernel_rfl) (coD_rTbuN T hT)
  |false=>exact Ho.of (coDRTbuP T a b) (by kernel_rfl) (coD_rTbuP T a b hT hb)
 |tlu=>
  cases o with
  |true=>exact Ho.of (coDRTluN T) (by kernel_rfl) (coD_rTluN T hT)
  |false=>exact Ho.of (coDRTluP T a b) (by kernel_rfl) (coD_rTluP T a b hT hb)
 |dou=>exact Ho.of (coDRDou T) (by kernel_rfl) (coD_rDou T)
theorem co_r (T:TD) (hT:T.Ok):coR T:=by
 unfold coR
 try simp only[br_iff,gd_iff,Bool.and_eq_true,sj5,leB_iff,sj3,sj7]
 repeat' (first|done|omega|exact rfl|exact trivial|exact co_sd0|assumption|exact()|intro _|refine⟨?_,?_⟩)
theorem co_fok:FunOk Tryz.prog 145:=⟨Tryz.f145,by kernel_rfl,rfl,by kernel_rfl⟩
theorem co_ok (T:TD) (hT:T.Ok):(coS T).Body Tryz.prog 145/\(coS T).BodyD Tryz.prog 145:=by
 refine genS_body (fn:=Tryz.f145) (b:=(bodyOf Tryz.f145)) (LT:=fun _=>[([0,0,1,1,1,1,1,1],(coD T).at (CS.a.rep T true 0 0))]) ftOk (coU_ok T hT) 1000 (fun a ha=>LTok.cons (fun fr H K hk=>LoopD.ok (coD_b T hT) hk) (LTok.nil)) (by kernel_rfl) (by kernel_rfl) ?_
 exact fun a ha=>Ho.of (coR T) (by kernel_rfl) (co_r T ha)
theorem coTabs_ok (T:TD) (hT:T.Ok):TabOk Tryz.prog (coTabs T):=by
 refine⟨fun f s h=>?_,fun f s h=>(by cases h)⟩
 unfold coTabs at h
 simp only at h
 split at h
 ·cases h;exact genS_ok co_fok (co_ok T hT).1
 ·cases h
end Tk
