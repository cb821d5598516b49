/- Lemmas of this claim; the last text says what is proved. -/
import Derived.Test.YtblencgndjjleaaGreatDoorK13
set_option linter.all false
set_option maxRecDepth 1000000
namespace Tk
open Go Go.Sx Go.Proofs
open Q
variable [Syms]
def swF:Nat->Nat:=fun k=>97+k
theorem y_p:ExtOk Tryz.prog 92 e_J:=⟨⟨Tryz.f92,aa,aa,aa,aa,aa⟩⟩
theorem y_q:ExtOk Tryz.prog 93 e_L:=⟨⟨Tryz.f93,aa,aa,aa,aa,aa⟩⟩
theorem y_r:ExtOk Tryz.prog 94 x_s:=⟨⟨Tryz.f94,aa,aa,aa,aa,aa⟩⟩
theorem y_s:ExtOk Tryz.prog 106 r_P:=⟨⟨Tryz.f106,aa,aa,aa,aa,aa⟩⟩
theorem y_t:G_D Tryz.prog swF:=by
 rintro k (rfl|rfl|rfl)<;>kernel_rfl
theorem s81:b_q Tryz.prog 92 (e_K Tryz.prog):=k_w y_p
theorem s82:b_q Tryz.prog 93 (e_M Tryz.prog swF):=k_x y_q y_t
theorem s83:b_q Tryz.prog 94 (o_9 Tryz.prog):=r_O y_r
theorem s95:b_q Tryz.prog 106 (p_a Tryz.prog):=r_Q y_s
def s_j:Tabs:=⟨fun f=>match f with
 |92=>some (e_K Tryz.prog)
 |93=>some (e_M Tryz.prog swF)
 |94=>some (o_9 Tryz.prog)
 |106=>some (p_a Tryz.prog)
 |_=>none,fun _=>none⟩
theorem e_T:TabOk Tryz.prog s_j:=by
 refine⟨fun f s h=>?_,fun f s h=>?_⟩
 ·unfold s_j at h
  dsimp only at h
  split at h
  ·have e:=Option.some.inj h;clear h;subst e;exact s81
  ·have e:=Option.some.inj h;clear h;subst e;exact s82
  ·have e:=Option.some.inj h;clear h;subst e;exact s83
  ·have e:=Option.some.inj h;clear h;subst e;exact s95
  ·exact absurd h an
 ·exact absurd h (by simp[s_j])
def e_A(p x q c:Nat)(l:By):List (Nat×ABlk):=[(p,.row [.slc q 0 l.length (.u c 0),.lit (.int .i64 0),.lit (.int .i8 0)] 157 (.n 3)),(x,c_8),(q,.bytes l 5 (.u c 1))]
theorem byA{l:By}{p:Nat}:SubA p (.by_ l) (.by_ l):=a_g rfl
def TD.SdT(T:TD)(j:SId×Bool):Prop:=j.2=false->j.1=tbd\/(∃i,i<T.R/\j.1=tr i)\/(∃i k,i<T.R/\k<T.C i/\j.1=Tk.td i k)\/(∃i k,i<T.R/\k<T.C i/\j.1=Tk.tx i k)
theorem b_V{T:TD}{a b:SId×Bool}{P:SId×Bool->Prop}(h:T.Nx a b)(hb:T.SdT b)(hP:P b):∃j':SId×Bool,T.SdT j'/\T.mu j'<T.mu a/\P j':=⟨b,hb,h.m,hP⟩
theorem TD.sdT0{T:TD}:T.SdT (tbd,false):=fun _=>.inl rfl
theorem TD.sdTe{T:TD}{x:SId}:T.SdT (x,true):=fun h=>am
theorem TD.sdTr{T:TD}{i:Nat}(h:i<T.R):T.SdT (tr i,false):=fun _=>.inr (.inl ⟨i,h,rfl⟩)
theorem TD.sdTd{T:TD}{i k:Nat}(h:i<T.R)(hk:k<T.C i):T.SdT (Tk.td i k,false):=fun _=>.inr (.inr (.inl ⟨i,k,h,hk,rfl⟩))
theorem TD.sdTx{T:TD}{i k:Nat}(h:i<T.R)(hk:k<T.C i):T.SdT (Tk.tx i k,false):=fun _=>.inr (.inr (.inr ⟨i,k,h,hk,rfl⟩))
def hN(T:TD):Nat:=cond T.hd 1 0
def Q.rn(T:TD)(q:Nat):Nat:=cond T.hd (T.C q) (match q with|0=>0|q+1=>T.C q)
def Q.rc(T:TD)(q c:Nat):By:=cond T.hd (ct T q c) (match q with|0=>[]|q+1=>ct T q c)
def h_P:AVal->By
 | .by_ l=>l
 |_=>[]
def Q.rowE(g:Nat->By):Nat->Bool
 |0=>true
 |n+1=>rowE g n&&h_7 (g n)
def Q.rowI(g:Nat->By)(k:Nat):Prop:=rowE g k=true
theorem u_d{g:Nat->By}:rowI g 0:=rfl
theorem u_e{g:Nat->By}{k:Nat}(h:rowI g k)(he:(g k).length=0):rowI g (k+1):=by
 unfold rowI at*
 rw[rowE,h,List.length_eq_zero_iff.1 he];rfl
theorem q_e{g:Nat->By}{k:Nat}(he:(g k).length≠0):∀{n:Nat},k<n->rowE g n=false
 |n+1,h=>by
  rw[rowE,Bool.and_eq_false_iff]
  by_cases e:k=n
  ·subst e;right;cases h2:g k with
   |nil=>rw[h2] at he;exact absurd rfl he
   |cons a b=>rfl
  ·left;exact q_e he ac
def Q.rowsN(f:Nat->AVal)(q:Nat):Nat:=match f q with
 | .famx _ n=>n
 |_=>0
def Q.rowsC(f:Nat->AVal)(q c:Nat):By:=match f q with
 | .famx g _=>h_P (g c)
 |_=>[]
def Q.eR(rn:Nat->Nat)(rc:Nat->Nat->By)(q:Nat):Bool:=rowE (rc q) (rn q)
def Q.fN(e:Nat->Bool)(n:Nat):Nat->Nat
 |0=>n
 |k+1=>cond (Nat.blt 0 (n-(k+1))&&e (n-(k+1))) (n-(k+1)) (fN e n k)
def Q.fS(e:Nat->Bool)(n:Nat):Nat:=fN e n n
def Q.fI(e:Nat->Bool)(k:Nat):Prop:=∀q,1<=q->q<k->e q=false
theorem u_f{e:Nat->Bool}{n:Nat}:∀(m:Nat),m<=n->fI e (n-m)->fN e n n=fN e n m:=by
 intro m hm hI
 obtain⟨d,hd⟩:∃d,n=m+d:=⟨n-m,ac⟩
 have key:∀d,m+d<=n->fI e (n-m)->fN e n (m+d)=fN e n m:=by
  intro d
  induction d with
  |zero=>intro _ _;rfl
  |succ d ih=>
   intro h1 h2
   have:fN e n (m+d+1)=cond (Nat.blt 0 (n-(m+d+1))&&e (n-(m+d+1))) (n-(m+d+1)) (fN e n (m+d)):=rfl
   rw[show m+(d+1)=m+d+1 from rfl,this,ih ac h2]
   have:(Nat.blt 0 (n-(m+d+1))&&e (n-(m+d+1)))=false:=by
    rw[Bool.and_eq_false_iff]
    by_cases g:0<n-(m+d+1)
    ·right;exact h2 _ g ac
    ·left;exact a_C.2 ac
   rw[this];rfl
 have:=key d ac hI
 rwa [←hd] at this
theorem G_J{e:Nat->Bool}:fI e 0:=fun q _ h=>ac
theorem G_K{e:Nat->Bool}:fI e 1:=fun q h1 h=>ac
theorem G_L{e:Nat->Bool}{k:Nat}(h:fI e k)(he:e k=false):fI e (k+1):=fun q h1 h2=>by
 by_cases g:q=k
 ·rw[g];exact he
 ·exact h q h1 ac
theorem q_f{e:Nat->Bool}{n k:Nat}(h:fI e k)(hk:n<=k):fS e n=n:=by
 unfold fS;rw[u_f 0 ac (fun q h1 h2=>h q h1 ac)];rfl
theorem u_g{e:Nat->Bool}{n k:Nat}(h:fI e k)(hk:k<n)(h1:1<=k)(he:e k=true):fS e n=k:=by
 unfold fS
 have hm:n-(n-k)=k:=ac
 rw[u_f (n-k) ac (by rw[hm];exact h)]
 obtain⟨d,hd⟩:∃d,n-k=d+1:=⟨n-k-1,ac⟩
 have hk2:n-(d+1)=k:=ac
 rw[hd,fN,hk2,he,a_z.2 ac];rfl
def Q.kp(e:Nat->Bool)(j:Nat):List Nat:=(List.range j).filter fun q=>Nat.beq q 0|| !e q
def Q.dI(e:Nat->Bool)(n i j:Nat)(M:List Nat):Prop:=M.length=n/\i<j/\j<=n/\M.take i=kp e j/\∀q,j<=q->q<n->M.getD q 0=q
def Q.at0(M:List Nat)(q:Nat):Nat:=M.getD q 0
theorem x_w{e:Nat->Bool}{j:Nat}:kp e (j+1)=kp e j++(if(Nat.beq j 0|| !e j)=true then[j] else[]):=by
 unfold kp;rw[List.range_succ,List.filter_append];simp only[List.filter_cons,List.filter_nil]
theorem d_X{e:Nat->Bool}:∀{j:Nat},(kp e j).length<=j
 |0=>Nat.le_refl _
 |j+1=>by
  have:=d_X (e:=e) (j:=j)
  rw[x_w,List.length_append];split<;>simp<;>omega
theorem G_1{e:Nat->Bool}{n i j:Nat}{M:List Nat}(h:dI e n i j M)(hj:j<n)(he:e (at0 M j)=false):dI e n (i+1) (j+1) (M.set i (at0 M j)):=by
 obtain⟨h1,h2,h3,h4,h5⟩:=h
 have e1:at0 M j=j:=h5 j (Nat.le_refl _) hj
 rw[e1] at he⊢
 refine⟨by simp[h1],ac,ac,?_,fun q h6 h7=>?_⟩
 ·have hi:i<M.length:=ac
  have:(M.set i j).take (i+1)=M.take i++[j]:=by
   rw[List.take_succ,List.getElem?_set_self hi,List.take_set_of_le (Nat.le_refl _)];rfl
  rw[this,h4,x_w,he];simp
 ·rw[List.getD_eq_getElem?_getD,List.getElem?_set_ne ac,←List.getD_eq_getElem?_getD];exact h5 q ac h7
theorem G_2{e:Nat->Bool}{n i j:Nat}{M:List Nat}(h:dI e n i j M)(hj:j<n)(he:e (at0 M j)=true):dI e n i (j+1) M:=by
 obtain⟨h1,h2,h3,h4,h5⟩:=h
 have e1:at0 M j=j:=h5 j (Nat.le_refl _) hj
 rw[e1] at he
 have:(Nat.beq j 0|| !e j)=false:=aU
 exact⟨h1,ac,ac,by rw[h4,x_w,this];simp,fun q h6 h7=>h5 q ac h7⟩
theorem q_g{e:Nat->Bool}{k:Nat}(h:fI e k):kp e k=List.range k:=by
 unfold kp
 rw[List.filter_eq_self]
 intro q hq
 rw[List.mem_range] at hq
 by_cases g:q=0
 ·subst g;rfl
 ·rw[h q ac hq];simp
theorem G_3{e:Nat->Bool}{n k:Nat}(h:fI e k)(hk:k<n)(h1:1<=k)(he:e k=true):dI e n k (k+1) (List.range n):=by
 have:(Nat.beq k 0|| !e k)=false:=aU
 refine⟨List.length_range,ac,ac,?_,fun q h6 h7=>?_⟩
 ·rw[x_w,this,q_g h,List.take_range,Nat.min_eq_left ac];simp
 ·rw[List.getD_eq_getElem?_getD,List.getElem?_range h7];rfl
theorem i_w{n q:Nat}(h:q<n):at0 (List.range n) q=q:=by
 unfold at0;rw[List.getD_eq_getElem?_getD,List.getElem?_range h];rfl
theorem s_k{e:Nat->Bool}{n:Nat}(hn:1<=n):(fS e n=n/\fI e n)\/(fS e n<n/\1<=fS e n/\e (fS e n)=true/\fI e (fS e n)):=by
 have:∀k,k<=n->fI e k\/∃m,m<k/\1<=m/\e m=true/\fI e m:=by
  intro k
  induction k with
  |zero=>exact fun _=>.inl G_J
  |succ k ih=>
   intro h
   rcases ih ac with h1|⟨m,h1,h2⟩
   ·by_cases g:k=0
    ·subst g;exact .inl G_K
    ·cases he:e k with
     |false=>exact .inl (G_L h1 he)
     |true=>exact .inr ⟨k,ac,ac,he,h1⟩
   ·exact .inr ⟨m,ac,h2⟩
 rcases this n (Nat.le_refl _) with h|⟨m,h1,h2,h3,h4⟩
 ·exact .inl ⟨q_f h (Nat.le_refl _),h⟩
 ·right;rw[u_g h4 h1 h2 h3];exact⟨h1,h2,h3,h4⟩
theorem p_o{M:List Nat}{i q:Nat}(h:q<i):at0 (M.take i) q=at0 M q:=by
 unfold at0;rw[List.getD_eq_getElem?_getD,List.getElem?_take_of_lt h,←List.getD_eq_getElem?_getD]
theorem t_u{p:Nat}{c:Bool}{a b a':AVal}(hc:c=true)(h:SubA p a a'):SubA p (.ite c a b) a':=fun ι ι' v hle hd=>by
 cases hd with
 |ite h1 h2=>exact h ι ι' v hle (h1 hc)
def Q.allE(rn:Nat->Nat)(rc:Nat->Nat->By)(n:Nat):Bool:=Nat.beq (kp (eR rn rc) n).length 1&&eR rn rc (at0 (kp (eR rn rc) n) 0)
theorem d_Y{e:Nat->Bool}{n:Nat}(h:1<=n):1<=(kp e n).length:=by
 have:0∈kp e n:=by unfold kp;rw[List.mem_filter];exact⟨List.mem_range.2 ac,rfl⟩
 exact List.length_pos_of_mem this
def Q.b1(rn:Nat->Nat)(rc:Nat->Nat->By):Nat:=cond (eR rn rc 0) 1 0
theorem x_x{p:Nat}{c:Bool}{a b b':AVal}(hc:c=false)(h:SubA p b b'):SubA p (.ite c a b) b':=fun ι ι' v hle hd=>by
 cases hd with
 |ite h1 h2=>exact h ι ι' v hle (h2 hc)
def nR(T:TD):Nat:=T.R-hN T+1
def Q.kI(T:TD)(q:Nat):Nat:=cond T.skip (at0 (kp (eR (rn T) (rc T)) (nR T)) q) q
def Q.kN(T:TD):Nat:=cond T.skip (kp (eR (rn T) (rc T)) (nR T)).length (nR T)
def Q.fB(T:TD):Nat:=cond T.promote (b1 (fun q=>rn T (kI T q)) (fun q=>rc T (kI T q))) 0
def Q.finR(T:TD):(Nat->Nat)×(Nat->Nat->By)×Nat×Nat:=
 (fun q=>rn T (kI T (q+fB T)),fun q=>rc T (kI T (q+fB T)),kN T-fB T,nR T)
def Q.nilR(T:TD):Bool:=cond T.skip (allE (rn T) (rc T) (nR T)) (T.promote&&(Nat.beq (nR T) 1&&eR (rn T) (rc T) 0))
def Q.noT(T:TD):Bool:=(T.role&& !T.pres)||nilR T
theorem y_u{rn:Nat->Nat}{rc:Nat->Nat->By}:b1 rn rc<=1:=by unfold b1;cases eR _ _ 0<;>simp
theorem b_l{rn:Nat->Nat}{rc:Nat->Nat->By}:rowsN (fun q=>.famx (fun c=>.by_ (rc q c)) (rn q))=rn:=rfl
theorem b_m{rn:Nat->Nat}{rc:Nat->Nat->By}:rowsC (fun q=>.famx (fun c=>.by_ (rc q c)) (rn q))=rc:=rfl
theorem h_k{T:TD}(h:nilR T=false):1<=(finR T).2.2.1:=by
 show 1<=kN T-fB T
 unfold nilR at h
 have hb:=y_u (rn:=fun q=>rn T (kI T q)) (rc:=fun q=>rc T (kI T q))
 unfold kN fB
 cases hs:T.skip with
 |true=>
  rw[hs,cond_true] at h
  rw[cond_true]
  have h1:1<=(kp (eR (rn T) (rc T)) (nR T)).length:=d_Y (by unfold nR;omega)
  by_cases g:(kp (eR (rn T) (rc T)) (nR T)).length=1
  ·have h2:eR (rn T) (rc T) (at0 (kp (eR (rn T) (rc T)) (nR T)) 0)=false:=by
    unfold allE at h
    rw[a_k.2 g,Bool.true_and] at h
    exact h
   have h3:b1 (fun q=>rn T (kI T q)) (fun q=>rc T (kI T q))=0:=by
    unfold b1
    rw[show eR (fun q=>rn T (kI T q)) (fun q=>rc T (kI T q)) 0=eR (rn T) (rc T) (kI T 0) from rfl,show kI T 0=at0 (kp (eR (rn T) (rc T)) (nR T)) 0 from by unfold kI;rw[hs];rfl,h2];rfl
   rw[h3];cases T.promote<;>simp only[cond_true,cond_false]<;>omega
  ·cases T.promote<;>simp only[cond_true,cond_false]<;>omega
 |false=>
  rw[hs,cond_false] at h
  rw[cond_false]
  have h1:1<=nR T:=by unfold nR;omega
  cases hp:T.promote with
  |false=>rw[cond_false];omega
  |true=>
   rw[hp,Bool.true_and] at h
   rw[cond_true]
   by_cases g:nR T=1
   ·rw[a_k.2 g,Bool.true_and] at h
    have h3:b1 (fun q=>rn T (kI T q)) (fun q=>rc T (kI T q))=0:=by
     unfold b1
     rw[show eR (fun q=>rn T (kI T q)) (fun q=>rc T (kI T q)) 0=eR (rn T) (rc T) (kI T 0) from rfl,show kI T 0=0 from by unfold kI;rw[hs];rfl,h];rfl
    rw[h3];omega
   ·omega
theorem m_M{T:TD}(h:noT T=false):nilR T=false:=by
 unfold noT at h
 rw[Bool.or_eq_false_iff] at h
 exact h.2
theorem y_v{T:TD}(hT:T.Ok)(q k:Nat):WT (rc T q k)/\(rc T q k).length<=2147483647:=by
 have key:∀i,WT (ct T i k)/\(ct T i k).length<=2147483647:=fun i=>⟨fun b hb=>d_W (hT.w i k) b (e_R hb),Nat.le_trans e_S (hT.l i k)⟩
 unfold rc
 cases T.hd with
 |true=>exact key q
 |false=>cases q with
  |zero=>exact⟨fun b hb=>bN,an⟩
  |succ q=>exact key q
theorem u_h{T:TD}(hT:T.Ok)(q:Nat):rn T q<=12:=by
 unfold rn
 cases T.hd with
 |true=>exact hT.c2 q
 |false=>cases q with
  |zero=>simp
  |succ q=>exact hT.c2 q
def b_C(rn:Nat->Nat)(rc:Nat->Nat->By)(m c:Nat):Prop:=(∀q k,WT (rc q k)/\(rc q k).length<=2147483647)/\(∀q,rn q<=12)/\m<=14/\m<=c/\c<=14
theorem e_q{T:TD}(hT:T.Ok):b_C (finR T).1 (finR T).2.1 (finR T).2.2.1 (finR T).2.2.2:=by
 have h1:kN T<=nR T:=by
  unfold kN
  cases T.skip with
  |true=>exact d_X
  |false=>exact Nat.le_refl _
 have h2:nR T<=14:=by have:=hT.r2;unfold nR;omega
 refine⟨fun q k=>y_v hT _ _,fun q=>u_h hT _,?_,?_,h2⟩
 ·show kN T-_<=14;omega
 ·show kN T-_<=nR T;omega
def Q.wd(W:List Nat)(k:Nat):Nat:=W.getD k 0
def mcA(W:List Nat)(k:Nat):List Nat:=cond (Nat.ble W.length k) (W++[1]) W
def Q.mcS(W:List Nat)(k n:Nat):List Nat:=cond (Nat.blt (wd (mcA W k) k) n) ((mcA W k).set k n) (mcA W k)
def Q.cntC(g:Nat->By):Nat->Nat->List Nat->List Nat
 |0,_,W=>W
 |r+1,k,W=>cntC g r (k+1) (mcS W k (g k).length)
def Q.cntR(rn:Nat->Nat)(rc:Nat->Nat->By):Nat->Nat->List Nat->List Nat
 |0,_,W=>W
 |r+1,q,W=>cntR rn rc r (q+1) (cntC (rc q) (rn q) 0 W)
def Q.cnt(rn:Nat->Nat)(rc:Nat->Nat->By)(m:Nat):List Nat:=cntR rn rc m 0 []
def Q.mcI(g:Nat->By)(n:Nat)(V:List Nat)(k:Nat)(W:List Nat):Prop:=k<=n/\k<=W.length/\W.length<=12/\cntC g (n-k) k W=V
def Q.moI(rn:Nat->Nat)(rc:Nat->Nat->By)(m q:Nat)(W:List Nat):Prop:=q<=m/\W.length<=12/\cntR rn rc (m-q) q W=cnt rn rc m
theorem f_n{W:List Nat}{k:Nat}(h:k<=W.length):k<(mcA W k).length/\(mcA W k).length<=(if W.length<=k then W.length+1 else W.length):=by
 unfold mcA
 by_cases g:W.length<=k
 ·rw[a_m.2 g,cond_true,if_pos g];simp;omega
 ·rw[a_e.2 ac,cond_false,if_neg g];exact⟨ac,Nat.le_refl _⟩
theorem d_D{W:List Nat}{k n:Nat}:(mcS W k n).length=(mcA W k).length:=by
 unfold mcS;cases Nat.blt (wd (mcA W k) k) n<;>simp
theorem y_w{g:Nat->By}{n k:Nat}{V W:List Nat}(h:mcI g n V k W)(hk:k<n)(hn:n<=12):mcI g n V (k+1) (mcS W k (g k).length):=by
 obtain⟨h1,h2,h3,h4⟩:=h
 have hl:=f_n h2
 refine⟨hk,by rw[d_D];omega,?_,?_⟩
 ·rw[d_D];refine Nat.le_trans hl.2 ?_;split<;>omega
 ·obtain⟨r,hr⟩:∃r,n-k=r+1:=⟨n-k-1,ac⟩
  rw[hr] at h4
  rw[show n-(k+1)=r from ac];exact h4
theorem s_l{g:Nat->By}{n k:Nat}{V W:List Nat}(h:mcI g n V k W)(hk:n<=k):W=V:=by
 obtain⟨h1,h2,h3,h4⟩:=h
 rw[show n-k=0 from ac] at h4;exact h4
theorem y_x{g:Nat->By}{n:Nat}{W:List Nat}(h:W.length<=12):mcI g n (cntC g n 0 W) 0 W:=⟨Nat.zero_le _,Nat.zero_le _,h,rfl⟩
theorem h_l{g:Nat->By}:∀(r k:Nat) (W:List Nat),k<=W.length->W.length<=12->k+r<=12->(cntC g r k W).length<=12
 |0,_,W,_,h,_=>h
 |r+1,k,W,h1,h2,h3=>by
  have hl:=f_n h1
  refine h_l r (k+1) _ (by rw[d_D];omega) ?_ ac
  rw[d_D];refine Nat.le_trans hl.2 ?_;split<;>omega
theorem y_y{rn:Nat->Nat}{rc:Nat->Nat->By}{m q:Nat}{W:List Nat}(h:moI rn rc m q W)(hq:q<m)(hn:rn q<=12):moI rn rc m (q+1) (cntC (rc q) (rn q) 0 W):=by
 obtain⟨h1,h2,h3⟩:=h
 refine⟨hq,h_l _ _ _ (Nat.zero_le _) h2 ac,?_⟩
 obtain⟨r,hr⟩:∃r,m-q=r+1:=⟨m-q-1,ac⟩
 rw[hr] at h3
 rw[show m-(q+1)=r from ac];exact h3
theorem s_m{rn:Nat->Nat}{rc:Nat->Nat->By}{m q:Nat}{W:List Nat}(h:moI rn rc m q W)(hq:m<=q):W=cnt rn rc m:=by
 obtain⟨h1,h2,h3⟩:=h
 rw[show m-q=0 from ac] at h3;exact h3
theorem y_z{rn:Nat->Nat}{rc:Nat->Nat->By}{m:Nat}:moI rn rc m 0 []:=⟨Nat.zero_le _,an,rfl⟩
theorem wdA{W:List Nat}{i:Nat}(h:i<W.length):wd (W++[1]) i=wd W i:=by
 unfold wd;rw[List.getD_eq_getElem?_getD,List.getElem?_append_left h,←List.getD_eq_getElem?_getD]
theorem wdL{W:List Nat}:wd (W++[1]) W.length=1:=by
 unfold wd;rw[List.getD_eq_getElem?_getD,List.getElem?_append_right (Nat.le_refl _),Nat.sub_self];rfl
theorem wdS{W:List Nat}{k n:Nat}(h:k<W.length):wd (W.set k n) k=n:=by
 unfold wd;rw[List.getD_eq_getElem?_getD,List.getElem?_set_self h];rfl
theorem wdN{W:List Nat}{k n i:Nat}(h:i≠k):wd (W.set k n) i=wd W i:=by
 unfold wd;rw[List.getD_eq_getElem?_getD,List.getElem?_set_ne (fun e=>h e.symm),←List.getD_eq_getElem?_getD]
theorem y_A{W:List Nat}{k n:Nat}(h:k=W.length)(hn:1<n):mcS W k n=(W++[1]).set k n:=by
 subst h;unfold mcS mcA;rw[a_m.2 (Nat.le_refl _),cond_true,wdL,a_z.2 hn,cond_true]
theorem y_B{W:List Nat}{k n:Nat}(h:k=W.length)(hn:¬1<n):mcS W k n=W++[1]:=by
 subst h;unfold mcS mcA;rw[a_m.2 (Nat.le_refl _),cond_true,wdL,a_C.2 ac,cond_false]
theorem y_C{W:List Nat}{k n:Nat}(h:k<W.length)(hn:wd W k<n):mcS W k n=W.set k n:=by
 unfold mcS mcA;rw[a_e.2 h,cond_false,a_z.2 hn,cond_true]
theorem y_D{W:List Nat}{k n:Nat}(h:k<W.length)(hn:¬wd W k<n):mcS W k n=W:=by
 unfold mcS mcA;rw[a_e.2 h,cond_false,a_C.2 ac,cond_false]
theorem p_p{W W':List Nat}{n:Nat}{us:List (Nat×AVal)}(h:∀i,i<n->c_b i us=true->wd W i=wd W' i):SubF (fun i=>AVal.lit (Value.int IntKind.i64 (wd W i:Nat))) (fun i=>AVal.lit (Value.int IntKind.i64 (wd W' i:Nat))) n us:=fun i hi hu=>by
 show SubA _ (AVal.lit (Value.int IntKind.i64 (wd W i:Nat))) (AVal.lit (Value.int IntKind.i64 (wd W' i:Nat)))
 rw[h i hi hu];exact a_g rfl
end Tk
namespace Tk
open Go Go.Sx Go.Proofs
open Q
variable [Syms]
theorem m_N{g:Nat->By}:∀(r k:Nat) (W:List Nat),W.length<=(cntC g r k W).length/\(k<=W.length->k+r<=(cntC g r k W).length)
 |0,k,W=>⟨Nat.le_refl _,fun h=>h⟩
 |r+1,k,W=>by
  have h:=m_N (g:=g) r (k+1) (mcS W k (g k).length)
  have h1:W.length<=(mcS W k (g k).length).length:=by
   rw[d_D];unfold mcA;cases Nat.ble W.length k<;>simp
  refine⟨Nat.le_trans h1 h.1,fun hk=>?_⟩
  have h2:=h.2 (by rw[d_D];exact(f_n hk).1)
  show k+(r+1)<=(cntC g r (k+1) (mcS W k (g k).length)).length
  omega
theorem m_O{rn:Nat->Nat}{rc:Nat->Nat->By}:∀(r q:Nat) (W:List Nat),W.length<=(cntR rn rc r q W).length/\∀p,q<=p->p<q+r->rn p<=(cntR rn rc r q W).length
 |0,q,W=>⟨Nat.le_refl _,fun p h1 h2=>ac⟩
 |r+1,q,W=>by
  have h:=m_O (rn:=rn) (rc:=rc) r (q+1) (cntC (rc q) (rn q) 0 W)
  have h1:=m_N (g:=rc q) (rn q) 0 W
  refine⟨Nat.le_trans h1.1 h.1,fun p h2 h3=>?_⟩
  by_cases e:p=q
  ·subst e
   have:=h1.2 (Nat.zero_le _)
   rw[Nat.zero_add] at this
   exact Nat.le_trans this h.1
  ·exact h.2 p ac ac
theorem u_i{rn:Nat->Nat}{rc:Nat->Nat->By}{m q:Nat}(h:q<m):rn q<=(cnt rn rc m).length:=(m_O m 0 []).2 q (Nat.zero_le _) ac
theorem j_V{rn:Nat->Nat}{rc:Nat->Nat->By}(hn:∀q,rn q<=12):∀(r q:Nat) (W:List Nat),W.length<=12->(cntR rn rc r q W).length<=12
 |0,_,_,h=>h
 |r+1,q,W,h=>j_V hn r (q+1) _ (h_l _ _ _ (Nat.zero_le _) h (by have:=hn q;omega))
theorem h_m{rn:Nat->Nat}{rc:Nat->Nat->By}{m:Nat}(hn:∀q,rn q<=12):(cnt rn rc m).length<=12:=j_V hn _ _ _ an
def Q.wdOk(n:Nat)(W:List Nat):Prop:=∀k,wd W k<=n
theorem u_j{n:Nat}{W:List Nat}{k c:Nat}(h:wdOk n W)(hc:c<=n)(h1:1<=n)(hk:k<=W.length):wdOk n (mcS W k c):=by
 intro i
 have hA:∀i,wd (mcA W k) i<=n:=fun i=>by
  unfold mcA
  cases Nat.ble W.length k with
  |false=>exact h i
  |true=>
   rw[cond_true]
   by_cases g:i<W.length
   ·rw[wdA g];exact h i
   ·by_cases g2:i=W.length
    ·subst g2;rw[wdL];exact h1
    ·unfold wd;rw[List.getD_eq_getElem?_getD,List.getElem?_eq_none af];exact Nat.zero_le _
 unfold mcS
 cases Nat.blt (wd (mcA W k) k) c with
 |false=>exact hA i
 |true=>
  rw[cond_true]
  by_cases g:i=k
  ·subst g;rw[wdS (f_n hk).1];exact hc
  ·rw[wdN g];exact hA i
theorem m_P{n:Nat}{g:Nat->By}(hg:∀k,(g k).length<=n)(h1:1<=n):∀(r k:Nat) (W:List Nat),k<=W.length->wdOk n W->wdOk n (cntC g r k W)
 |0,_,_,_,h=>h
 |r+1,k,W,hk,h=>m_P hg h1 r (k+1) _ (by rw[d_D];exact(f_n hk).1) (u_j h (hg k) h1 hk)
theorem m_Q{n:Nat}{rn:Nat->Nat}{rc:Nat->Nat->By}(hg:∀q k,(rc q k).length<=n)(h1:1<=n):∀(r q:Nat) (W:List Nat),wdOk n W->wdOk n (cntR rn rc r q W)
 |0,_,_,h=>h
 |r+1,q,W,h=>m_Q hg h1 r (q+1) _ (m_P (hg q) h1 _ _ _ (Nat.zero_le _) h)
theorem j_W{n:Nat}{rn:Nat->Nat}{rc:Nat->Nat->By}{m:Nat}(hg:∀q k,(rc q k).length<=n)(h1:1<=n):wdOk n (cnt rn rc m):=m_Q hg h1 _ _ _ (fun k=>by simp[wd])
def Q.fc(rn:Nat->Nat)(rc:Nat->Nat->By)(q c:Nat):By:=cond (Nat.blt c (rn q)) (rc q c) []
def b_i(rn:Nat->Nat)(rc:Nat->Nat->By)(w q i:Nat):AVal:=.ite (Nat.blt i q) (.fam (fun c=>.by_ (fc rn rc i c)) w) (.famx (fun c=>.by_ (rc i c)) (rn i))
theorem SubA.ite2{p:Nat}{c:Bool}{a b a' b':AVal}(h:c=true->SubA p a a')(h':c=false->SubA p b b'):SubA p (.ite c a b) (.ite c a' b'):=fun ι ι' v hle hd=>by
 cases hd with
 |ite h1 h2=>exact .ite (fun e=>h e ι ι' v hle (h1 e)) (fun e=>h' e ι ι' v hle (h2 e))
theorem SubA.toIte{p:Nat}{c:Bool}{a x y:AVal}(h:c=true->SubA p a x)(h':c=false->SubA p a y):SubA p a (.ite c x y):=fun ι ι' v hle hd=>.ite (fun e=>h e ι ι' v hle hd) (fun e=>h' e ι ι' v hle hd)
theorem SubA.famx_fam{p:Nat}{f f':Nat->AVal}{n:Nat}(h:∀k,k<n->SubA p (f k) (f' k)):SubA p (.famx f n) (.fam f' n):=fun ι ι' v hle hd=>by
 cases hd with
 |famx hd=>exact SubA.fam h ι ι' _ hle hd
variable {rn:Nat->Nat} {rc:Nat->Nat->By} {w m q:Nat}
theorem y_E{c:Nat}(h:c<rn q):fc rn rc q c=rc q c:=by unfold fc;rw[a_z.2 h];rfl
theorem m_R{c:Nat}(h:rn q<=c):fc rn rc q c=[]:=by unfold fc;rw[a_C.2 ac];rfl
theorem j_X{c n:Nat}(h:(rc q c).length<=n):(fc rn rc q c).length<=n:=by unfold fc;cases Nat.blt c (rn q)<;>simp[h]
theorem s_n{c:Nat}(h:WT (rc q c)):WT (fc rn rc q c):=by
 unfold fc;cases Nat.blt c (rn q)
 ·exact fun b hb=>bN
 ·exact h
theorem h_n{p n:Nat}:∀k,k<n->SubA p (AVal.by_ (fc rn rc q k)) (AVal.by_ (fc rn rc q k)):=fun _ _=>byA
theorem j_Y{p:Nat}:∀k,k<rn q->SubA p (AVal.by_ (rc q k)) (AVal.by_ (fc rn rc q k)):=fun k hk=>by rw[y_E hk];exact byA
theorem c_g{us:List (Nat×AVal)}:SubF (b_i rn rc w q) (b_i rn rc w q) m us:=fun i _ _=>SubA.ite2 (fun _=>SubA.fam h_n) (fun _=>SubA.famx fun _ _=>byA)
theorem u_k:SubF (fun i=>AVal.famx (fun c=>.by_ (rc i c)) (rn i)) (b_i rn rc w 0) m []:=fun i _ _=>SubA.toIte (fun e=>absurd (a_z.1 e) ac) (fun _=>SubA.famx fun _ _=>byA)
theorem h_o:SubF (b_i rn rc w m) (fun i=>AVal.fam (fun c=>.by_ (fc rn rc i c)) w) m []:=fun i hi _=>t_u (a_z.2 hi) (SubA.fam h_n)
theorem e_r(h:rn q=w):SubF (b_i rn rc w q) (b_i rn rc w (q+1)) m []:=fun i hi _=>by
 refine SubA.toIte (fun e=>?_) (fun e=>?_)
 ·have e:=a_z.1 e
  by_cases g:i<q
  ·exact t_u (a_z.2 g) (SubA.fam h_n)
  ·have:i=q:=ac
   subst this
   refine x_x (a_C.2 (Nat.le_refl _)) ?_
   rw[←h]
   exact SubA.famx_fam j_Y
 ·have e:=a_C.1 e
  exact x_x (a_C.2 ac) (SubA.famx fun _ _=>byA)
theorem m_S{v:AVal}:SubF (b_i rn rc w q) (b_i rn rc w (q+1)) m [(q,v)]:=fun i hi hu=>by
 have hne:i≠q:=j_K hu _ (List.mem_singleton.2 rfl)
 refine SubA.toIte (fun e=>?_) (fun e=>?_)
 ·have e:=a_z.1 e
  exact t_u (a_z.2 ac) (SubA.fam h_n)
 ·have e:=a_C.1 e
  exact x_x (a_C.2 ac) (SubA.famx fun _ _=>byA)
def TD.wp(T:TD)(p:By):TD:={T with pad:=p}
def u_l:AVal->Nat
 | .lit (.int _ (Int.ofNat n))=>n
 |_=>0
theorem f_o{k:IntKind}{n:Nat}:u_l (.lit (.int k (n:Nat)))=n:=rfl
theorem j_b{l:By}:h_P (.by_ l)=l:=rfl
def Q.pd1(p:By):By:=cond (eqL p h_g||eqL p k_C) [32] []
def Q.pdF(p:By)(n:Nat):By:=cond (eqL p h_g) (List.replicate n 32) []
def Q.celT(p:By)(w:Nat)(g:By):By:=pd1 p++g++pdF p (w-g.length)++pd1 p++[124]
def Q.bar0(k:Nat):By:=cond (Nat.beq k 0) [124] []
def Q.rowT(p:By)(W:Nat->Nat)(g:Nat->By):Nat->By
 |0=>[]
 |k+1=>rowT p W g k++(bar0 k++celT p (W k) (g k))
def Q.undT(p:By)(W:Nat->Nat):Nat->By
 |0=>[]
 |k+1=>undT p W k++(bar0 k++[45]++cond (eqL p h_g) (List.replicate (W k) 45) [45]++[45,124])
def Q.bdyT(p:By)(W:Nat->Nat)(w:Nat)(f:Nat->Nat->By):Nat->By
 |0=>[]
 |k+1=>bdyT p W w f k++(rowT p W (f (k+1)) w++[10])
def Q.tabT(p:By)(W:Nat->Nat)(w:Nat)(f:Nat->Nat->By)(m:Nat):By:=[10,10]++rowT p W (f 0) w++[10]++undT p W w++[10]++bdyT p W w f (m-1)++[10,10]
theorem s_o{p:By}:(pd1 p).length<=1:=by unfold pd1;cases eqL p h_g||eqL p k_C<;>simp
theorem s_p{p:By}{n:Nat}:(pdF p n).length<=n:=by unfold pdF;cases eqL p h_g<;>simp
theorem p_q{p:By}{w:Nat}{g:By}:(celT p w g).length<=w+g.length+3:=by
 have h1:=s_o (p:=p)
 have h2:=s_p (p:=p) (n:=w-g.length)
 unfold celT;simp only[List.length_append,List.length_cons,List.length_nil];omega
theorem j_Z{k:Nat}:(bar0 k).length<=1:=by unfold bar0;cases Nat.beq k 0<;>simp
def Q.fits(n:Nat)(l:By):Prop:=l.length+n<=a_i
def e_s:Nat:=2147483647
theorem b_7{p:By}{W:Nat->Nat}{g:Nat->By}(hW:∀k,W k<=e_s)(hg:∀k,(g k).length<=e_s):∀k,(rowT p W g k).length<=k*4294967300
 |0=>by simp[rowT]
 |k+1=>by
  have h:=b_7 (p:=p) hW hg k
  have h1:=p_q (p:=p) (w:=W k) (g:=g k)
  have h2:=hW k
  have h3:=hg k
  have h4:=j_Z (k:=k)
  simp only[e_s] at h2 h3
  rw[Nat.succ_mul]
  simp only[rowT,List.length_append];omega
theorem c_o{p:By}{W:Nat->Nat}(hW:∀k,W k<=e_s):∀k,(undT p W k).length<=k*4294967300
 |0=>by simp[undT]
 |k+1=>by
  have h:=c_o (p:=p) hW k
  have h2:=hW k
  have h4:=j_Z (k:=k)
  simp only[e_s] at h2
  have h5:(cond (eqL p h_g) (List.replicate (W k) (45:UInt8)) [45]).length<=W k+1:=by cases eqL p h_g<;>simp
  rw[Nat.succ_mul]
  simp only[undT,List.length_append,List.length_cons,List.length_nil];omega
theorem e_U{p:By}{W:Nat->Nat}{w:Nat}{f:Nat->Nat->By}(hW:∀k,W k<=e_s)(hg:∀q k,(f q k).length<=e_s)(hw:w<=12):∀k,(bdyT p W w f k).length<=k*51539607601
 |0=>by simp[bdyT]
 |k+1=>by
  have h:=e_U (p:=p) hW hg hw k
  have h1:=b_7 (p:=p) hW (hg (k+1)) w
  have h2:w*4294967300<=12*4294967300:=Nat.mul_le_mul_right _ hw
  rw[Nat.succ_mul]
  simp only[bdyT,List.length_append,List.length_cons,List.length_nil];omega
end Tk
namespace Tk
open Go Go.Sx Go.Proofs
open Q
variable [Syms]
def Q.catT(T:TD)(i:Nat):Nat->By
 |0=>[]
 |k+1=>catT T i k++T.tx i k
def Q.rowF(T:TD)(i:Nat):By:=[10,10]++catT T i (T.C i)++[10,10]
def Q.rowsF(T:TD):Nat->By
 |0=>[]
 |i+1=>rowsF T i++rowF T i
def Q.fbF(T:TD):By:=[10,10]++rowsF T T.R++[10,10]
def Q.tabF(T:TD):By:=tabT T.pad (wd (cnt (finR T).1 (finR T).2.1 (finR T).2.2.1)) (cnt (finR T).1 (finR T).2.1 (finR T).2.2.1).length (fc (finR T).1 (finR T).2.1) (finR T).2.2.1
def Q.docF(T:TD):By:=cond (noT T) (fbF T) (tabF T)
theorem e_V{T:TD}(hT:T.Ok)(i:Nat):∀k,(catT T i k).length<=k*2147483647
 |0=>by simp[catT]
 |k+1=>by
  have h:=e_V hT i k
  have h1:=hT.l i k
  rw[Nat.succ_mul];simp only[catT,List.length_append];omega
theorem j_0{T:TD}(hT:T.Ok)(i:Nat):(rowF T i).length<=25769803768:=by
 have h:=e_V hT i (T.C i)
 have h1:T.C i*2147483647<=12*2147483647:=Nat.mul_le_mul_right _ (hT.c2 i)
 simp only[rowF,List.length_append,List.length_cons,List.length_nil];omega
theorem d_Z{T:TD}(hT:T.Ok):∀k,(rowsF T k).length<=k*25769803768
 |0=>by simp[rowsF]
 |k+1=>by
  have h:=d_Z hT k
  have h1:=j_0 hT k
  rw[Nat.succ_mul];simp only[rowsF,List.length_append];omega
def Q.dch(c:UInt8):Prop:=c.toNat=10\/(32<=c.toNat/\c.toNat<128)
def Q.DT(l:By):Prop:=∀b∈l,dch b
theorem DT.nil:DT []:=fun b h=>am
theorem DT.app{a b:By}(ha:DT a)(hb:DT b):DT (a++b):=fun c h=>by
 rcases List.mem_append.1 h with h|h
 ·exact ha c h
 ·exact hb c h
theorem DT.one{c:UInt8}(h:dch c):DT [c]:=fun b hb=>by rw[List.mem_singleton.1 hb];exact h
theorem DT.two{c d:UInt8}(h:dch c)(h':dch d):DT [c,d]:=DT.app (DT.one h) (DT.one h')
theorem DT.rep{c:UInt8}{n:Nat}(h:dch c):DT (List.replicate n c):=fun b hb=>bH
theorem DT.cond{c:Bool}{a b:By}(ha:DT a)(hb:DT b):DT (cond c a b):=by
 cases c
 ·exact hb
 ·exact ha
theorem DT.wt{l:By}(h:WT l):DT l:=fun b hb=>by have:=h b hb;unfold wc at this;unfold dch;omega
theorem d10:dch 10:=.inl rfl
theorem d32:dch 32:=.inr ⟨ar,ar⟩
theorem d45:dch 45:=.inr ⟨ar,ar⟩
theorem x_y:dch 124:=.inr ⟨ar,ar⟩
theorem j_c{p:By}{W:Nat->Nat}{g:Nat->By}(h:∀k,DT (g k)):∀k,DT (rowT p W g k)
 |0=>DT.nil
 |k+1=>DT.app (j_c h k) (DT.app (DT.cond (DT.one x_y) DT.nil) (DT.app (DT.app (DT.app (DT.app (DT.cond (DT.one d32) DT.nil) (h k)) (DT.cond (DT.rep d32) DT.nil)) (DT.cond (DT.one d32) DT.nil)) (DT.one x_y)))
theorem m_T{p:By}{W:Nat->Nat}:∀k,DT (undT p W k)
 |0=>DT.nil
 |k+1=>DT.app (m_T k) (DT.app (DT.app (DT.app (DT.cond (DT.one x_y) DT.nil) (DT.one d45)) (DT.cond (DT.rep d45) (DT.one d45))) (DT.two d45 x_y))
theorem m_U{p:By}{W:Nat->Nat}{w:Nat}{f:Nat->Nat->By}(h:∀q k,DT (f q k)):∀k,DT (bdyT p W w f k)
 |0=>DT.nil
 |k+1=>DT.app (m_U h k) (DT.app (j_c (h _) w) (DT.one d10))
theorem e_G:DT [10,10]:=DT.two d10 d10
theorem s_q{p:By}{W:Nat->Nat}{w m:Nat}{f:Nat->Nat->By}(h:∀q k,DT (f q k)):DT (tabT p W w f m):=
 DT.app (DT.app (DT.app (DT.app (DT.app (DT.app e_G (j_c (h 0) w)) (DT.one d10)) (m_T w)) (DT.one d10)) (m_U h _)) e_G
theorem m_V{T:TD}(hT:T.Ok)(i:Nat):∀k,DT (catT T i k)
 |0=>DT.nil
 |k+1=>DT.app (m_V hT i k) (DT.wt (d_W (hT.w i k)))
theorem s_r{T:TD}(hT:T.Ok)(i:Nat):DT (rowF T i):=DT.app (DT.app e_G (m_V hT i _)) e_G
theorem j_1{T:TD}(hT:T.Ok):∀k,DT (rowsF T k)
 |0=>DT.nil
 |k+1=>DT.app (j_1 hT k) (s_r hT k)
theorem m_W{T:TD}(hT:T.Ok):DT (docF T):=by
 unfold docF
 refine DT.cond (DT.app (DT.app e_G (j_1 hT _)) e_G) (s_q fun q k=>DT.wt (s_n ((e_q hT).1 q k).1))
theorem j_2{T:TD}(hT:T.Ok):(docF T).length<=773094114020:=by
 unfold docF
 cases noT T with
 |true=>
  have cl:=d_Z hT T.R
  have cr:T.R*25769803768<=13*25769803768:=Nat.mul_le_mul_right _ hT.r2
  simp only[cond_true,fbF,List.length_append,List.length_cons,List.length_nil];omega
 |false=>
  have hr:=e_q hT
  have hW:∀k,wd (cnt (finR T).1 (finR T).2.1 (finR T).2.2.1) k<=e_s:=j_W (fun q k=>(hr.1 q k).2) (by simp[e_s])
  have hw:=h_m (rc:=(finR T).2.1) (m:=(finR T).2.2.1) hr.2.1
  have hg:∀q k,(fc (finR T).1 (finR T).2.1 q k).length<=e_s:=fun q k=>j_X (hr.1 q k).2
  have h1:=b_7 (p:=T.pad) hW (hg 0) (cnt (finR T).1 (finR T).2.1 (finR T).2.2.1).length
  have h2:=c_o (p:=T.pad) hW (cnt (finR T).1 (finR T).2.1 (finR T).2.2.1).length
  have h3:(cnt (finR T).1 (finR T).2.1 (finR T).2.2.1).length*4294967300<=12*4294967300:=Nat.mul_le_mul_right _ hw
  have h4:=e_U (p:=T.pad) hW hg hw ((finR T).2.2.1-1)
  have h5:((finR T).2.2.1-1)*51539607601<=13*51539607601:=Nat.mul_le_mul_right _ (by have:=hr.2.2.1;omega)
  simp only[cond_false,tabF,tabT,List.length_append,List.length_cons,List.length_nil];omega
theorem m_X{l:By}(h:DT l):DT (trim l):=fun b hb=>h b (e_R hb)
theorem m_Y{l old new:By}(hl:DT l)(hn:DT new):∀(n i:Nat) (out:By),DT out->DT (rpL l old new n i out)
 |0,_,_,h=>h
 |n+1,i,out,h=>by
  simp only[rpL]
  by_cases g:i<l.length
  ·rw[a_z.2 g,cond_true]
   exact DT.cond (m_Y hl hn n _ _ (DT.app h hn)) (m_Y hl hn n _ _ (DT.app h (DT.one (hl _ (b_a g)))))
  ·rw[a_C.2 ac,cond_false];exact h
theorem f_p{l old new:By}(hl:DT l)(hn:DT new):DT (rpF l old new):=m_Y hl hn _ _ _ DT.nil
theorem j_d{l old new:By}(hn:new.length<=old.length):∀(n i:Nat) (out:By),(rpL l old new n i out).length<=out.length+(l.length-i)
 |0,_,_=>by simp[rpL]
 |n+1,i,out=>by
  simp only[rpL]
  by_cases g:i<l.length
  ·rw[a_z.2 g,cond_true]
   cases hc:(Nat.ble (i+old.length) l.length&&eqL ((l.take (i+old.length)).drop i) old) with
   |true=>
    have h1:=a_m.1 (Bool.and_eq_true _ _▸hc).1
    have:=j_d (l:=l) hn n (i+old.length) (out++new)
    rw[List.length_append] at this
    rw[cond_true];omega
   |false=>
    have:=j_d (l:=l) hn n (i+1) (out++[l.getD i 0])
    rw[List.length_append,List.length_singleton] at this
    rw[cond_false];omega
  ·rw[a_C.2 ac,cond_false];omega
theorem d_E{l old new:By}(hn:new.length<=old.length):(rpF l old new).length<=l.length:=by
 have:=j_d (l:=l) hn l.length 0 []
 simpa[rpF] using this
theorem h_p(P:UInt8->Prop)(h10:P 10)(h32:P 32):∀(l:By) (s:Nat×By×By),(∀b∈l,P b)->(∀b∈s.2.1,P b)->(∀b∈s.2.2,P b)->(∀b∈(l.foldl step s).2.1,P b)/\(∀b∈(l.foldl step s).2.2,P b)/\(l.foldl step s).2.1.length+(l.foldl step s).2.2.length<=s.2.1.length+s.2.2.length+l.length
 |[],s,_,h1,h2=>⟨h1,h2,an⟩
 |c::l,s,hl,h1,h2=>by
  rw[List.foldl_cons]
  have hc:P c:=hl c an
  have key:(∀b∈(step s c).2.1,P b)/\(∀b∈(step s c).2.2,P b)/\(step s c).2.1.length+(step s c).2.2.length<=s.2.1.length+s.2.2.length+1:=by
   unfold step
   have hmem:∀x:UInt8,P x->∀b∈s.2.2++s.2.1++[x],P b:=fun x hx b hb=>by
    simp only[List.mem_append,List.mem_singleton] at hb
    rcases hb with(hb|hb)|hb
    ·exact h2 b hb
    ·exact h1 b hb
    ·rw[hb];exact hx
   split
   ·refine⟨fun b hb=>bN,?_,?_⟩
    ·show ∀b∈(if s.1+1<=2 then s.2.2++s.2.1++[10] else s.2.2),P b
     split
     ·exact hmem 10 h10
     ·exact h2
    ·show([]:By).length+(if s.1+1<=2 then s.2.2++s.2.1++[10] else s.2.2).length<=_
     split
     ·simp;omega
     ·simp;omega
   ·split
    ·refine⟨fun b hb=>?_,h2,af⟩
     simp only[List.mem_append,List.mem_singleton] at hb
     rcases hb with hb|hb
     ·exact h1 b hb
     ·rw[hb];exact h32
    ·exact⟨fun b hb=>bN,hmem c hc,af⟩
  obtain⟨k1,k2,k3⟩:=key
  obtain⟨r1,r2,r3⟩:=h_p P h10 h32 l (step s c) (fun b hb=>hl b (by simp[hb])) k1 k2
  exact⟨r1,r2,by simp only[List.length_cons];omega⟩
theorem q_h{l:By}(h:DT l):DT (tcF l):=by
 obtain⟨h1,h2,_⟩:=h_p dch d10 d32 l (0,[],[]) h (fun b hb=>bN) (fun b hb=>bN)
 exact DT.app h2 h1
theorem m_Z{l:By}:(tcF l).length<=l.length:=by
 obtain⟨_,_,h⟩:=h_p (fun _=>True) trivial trivial l (0,[],[]) (fun _ _=>trivial) (fun _ _=>trivial) (fun _ _=>trivial)
 show((l.foldl step (0,[],[])).2.2++(l.foldl step (0,[],[])).2.1).length<=_
 rw[List.length_append];simp at h;omega
theorem DT.b128{l:By}(h:DT l):∀b∈l,b.toNat<128:=fun b hb=>by have:=h b hb;unfold dch at this;omega
theorem DT.n7{l:By}(h:DT l):∀b∈l,b.toNat≠7:=fun b hb=>by have:=h b hb;unfold dch at this;omega
end Tk

