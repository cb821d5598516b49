/- Lemmas of this claim; the last text says what is proved. -/
import Derived.Test.YtjkgmpkgfhhaiaaGreatK21
import Derived.Test.YtjkgmpkgfhhaiaaGreatK22
import Derived.Test.YtjkgmpkgfhhaiaaGreatK30
import Derived.Test.YtjkgmpkgfhhaiaaGreatK31
set_option linter.all false
set_option maxRecDepth 1000000
namespace Tk
open Go Go.Sx Go.Proofs
open Q
variable [Syms]
def rtDR (T:TD) (l:By) (old:By) (c:UInt8) (r:By):Prop:=
 letI t:=c::r;letI s:=old=old;letI q:=List.length l;letI n:=domB T=domB T;letI p:=t=t;letI k:=List.length r+1;letI m:=q+1;letI h:=Int.ofNat q;letI g:=UInt8.toNat (List.getD l 0 (0:UInt8));letI f:=decide (Int.ofNat 0<h);letI e:=IntKind.wrap .i64 (Int.ofNat (0+List.length old));letI d:=decide (e<=h);letI b:=∃(j':Unit),True/\m<m/\n/\l=l/\s/\p/\False;letI a:=gd f (gd (Nat.blt 0 q) (gd (decide (Int.ofNat g<Int.ofNat 256)&&true&&true) (b\/∃(j':Nat×By),rpI l old t j'.fst j'.snd/\q-j'.fst<m/\n/\l=l/\s/\p/\gd (Nat.beq 1 (List.length j'.snd)) (Value.int .i64 (Int.ofNat 1)=Value.int .i64 (Int.ofNat j'.fst)/\(∃(r:List UInt8),[UInt8.ofNat g]=j'.snd++r)/\True))));br f (br d (gd (decide (Int.ofNat 0<=e)&&d) (br (eqL (List.drop 0 (List.take (Int.toNat e) l)) old) (gd (Nat.ble k 140737488355328) (b\/∃(j':Nat×By),rpI l old t j'.fst j'.snd/\q-j'.fst<m/\n/\l=l/\s/\p/\gd (Nat.beq k (List.length j'.snd)) (Value.int .i64 e=Value.int .i64 (Int.ofNat j'.fst)/\(∃(r_1:List UInt8),t=j'.snd++r_1)/\True))) a)) a) ((∃(x:Unit),True/\n/\rpF l old t=[]/\True)\/False)
def rtDQ (T:TD) (l:By) (old:By) (c:UInt8) (r:By) (i:Nat) (out:By):Prop:=
 letI y:=c::r;letI w:=old=old;letI v:=List.length l;letI s:=List.length out;letI t:=domB T=domB T;letI u:=y=y;letI q:=v-i;letI p:=s+1;letI n:=Int.ofNat v;letI m:=List.take s out;letI k:=s+List.length r+1;letI h:=UInt8.toNat (List.getD l i (0:UInt8));letI g:=Nat.ble s s;letI f:=decide (Int.ofNat i<n);letI e:=IntKind.wrap .i64 (Int.ofNat (i+List.length old));letI d:=decide (e<=n);letI b:=∃(j':Unit),True/\v+1<q/\t/\l=l/\w/\u/\False;letI a:=gd f (gd (Nat.blt i v) (gd (decide (Int.ofNat h<Int.ofNat 256)&&true&&true) (gd (g&&(Nat.ble p 140737488355328&&true)) (b\/∃(j':Nat×By),rpI l old y j'.fst j'.snd/\v-j'.fst<q/\t/\l=l/\w/\u/\gd (Nat.beq p (List.length j'.snd)) (Value.int .i64 (IntKind.wrap .i64 (Int.ofNat (i+1)))=Value.int .i64 (Int.ofNat j'.fst)/\(∃(r:List UInt8),m++[UInt8.ofNat h]=j'.snd++r)/\True)))));br f (br d (gd (decide (Int.ofNat i<=e)&&d) (br (eqL (List.drop i (List.take (Int.toNat e) l)) old) (gd (g&&(Nat.ble k 140737488355328&&true)) (b\/∃(j':Nat×By),rpI l old y j'.fst j'.snd/\v-j'.fst<q/\t/\l=l/\w/\u/\gd (Nat.beq k (List.length j'.snd)) (Value.int .i64 e=Value.int .i64 (Int.ofNat j'.fst)/\(∃(r_1:List UInt8),m++y=j'.snd++r_1)/\True))) a)) a) ((∃(x:Unit),True/\t/\0+s<=s/\m=rpF l old y/\True)\/False)
def rtR (T:TD) (l:By) (old:By) (c:UInt8) (r:By):Prop:=
 letI d:=domB T=domB T;letI b:=rpF l old (c::r);letI a:=Value.int .i64 (Int.ofNat 0);True/\(d/\l=l/\old=old/\c::r=c::r/\a=a/\True)/\∀(x:Unit),True->∃(x:By),x=b/\d/\True/\True/\b=x/\True
theorem rtD_r (T:TD) (l old:By) (c:UInt8) (r:By) (hd:0<old.length/\l.length<=bufMax/\old.length<=bufMax/\(c::r).length<=old.length):rtDR T l old c r:=by
 unfold rtDR
 obtain⟨h1,h2,h3,h4⟩:=hd
 simp only[bufMax] at h2 h3
 have h:=rpI_0 (l:=l) (old:=old) (new:=c::r)
 have hI:=h.1
 have hl:=h.2.1
 have tn:∀n:Nat,Int.toNat (Int.ofNat n)=n:=fun n=>rfl
 have tk:List.take ([]:By).length []=([]:By):=List.take_length
 have ofN:∀c:UInt8,UInt8.ofNat c.toNat=c:=fun c=>by simp
 have e1:IntKind.wrap IntKind.i64 (Int.ofNat old.length)=Int.ofNat old.length:=wrapI (by simp only[Int.ofNat_eq_natCast];omega) (by simp only[Int.ofNat_eq_natCast];omega)
 have e2:l.length≥1->IntKind.wrap IntKind.i64 (Int.ofNat 1)=Int.ofNat 1:=fun h=>wrapI (by simp only[Int.ofNat_eq_natCast];omega) (by simp only[Int.ofNat_eq_natCast];omega)
 have hb:∀i,(List.getD l i 0).toNat<256:=fun i=>(List.getD l i 0).toNat_lt
 have Y:=fun(g1:old.length<=l.length) (g2:eqL (List.drop 0 (List.take old.length l)) old=true)=>rpI_y h (old:=old) (by omega) h1 h4 (by simpa only[Nat.zero_add] using g2)
 have N1:=fun(g1:0<l.length) (g2:¬old.length<=l.length)=>rpI_n h (old:=old) g1 (fun g=>absurd g (by omega))
 have N2:=fun(g1:0<l.length) (g2:eqL (List.drop 0 (List.take old.length l)) old=false)=>rpI_n h (old:=old) g1 (fun g=>by simpa only[Nat.zero_add] using g2)
 simp only[Nat.zero_add,List.nil_append] at Y N1 N2
 simp only[List.length_cons] at h4
 simp only[Nat.zero_add,Nat.add_zero,e1,tn,tk,ofN]
 simp only[sj2,sj1,leB_iff',sj13]
 refine⟨fun g1=>⟨fun g2=>⟨by omega,fun g3=>⟨by omega,?_⟩,fun g3=>⟨by omega,by omega,by first|exact hb _|exact Int.ofNat_lt.2 (hb _),?_⟩⟩,fun g2=>⟨by omega,by omega,by first|exact hb _|exact Int.ofNat_lt.2 (hb _),?_⟩⟩,fun g1=>?_⟩
 ·exact⟨(old.length,c::r),Y g2 g3,by first|omega|(simp;omega),by simp,rfl,⟨[],by simp⟩⟩
 ·exact⟨(1,[l.getD 0 0]),N2 g1 g3,by first|omega|(simp;omega),by simp,rfl,⟨[],by simp⟩⟩
 ·exact⟨(1,[l.getD 0 0]),N1 g1 (by omega),by first|omega|(simp;omega),by simp,rfl,⟨[],by simp⟩⟩
 ·exact(rpI_end h (by omega)).symm
theorem rtD_q (T:TD) (l old:By) (c:UInt8) (r:By) (i:Nat) (out:By) (hd:0<old.length/\l.length<=bufMax/\old.length<=bufMax/\(c::r).length<=old.length) (h:rpI l old (c::r) i out):rtDQ T l old c r i out:=by
 unfold rtDQ
 obtain⟨h1,h2,h3,h4⟩:=hd
 simp only[bufMax] at h2 h3
 have hI:=h.1
 have hl:=h.2.1
 have tn:∀n:Nat,Int.toNat (Int.ofNat n)=n:=fun n=>rfl
 have tk:List.take (out:By).length out=(out:By):=List.take_length
 have ofN:∀c:UInt8,UInt8.ofNat c.toNat=c:=fun c=>by simp
 have e1:IntKind.wrap IntKind.i64 (Int.ofNat (i+old.length))=Int.ofNat (i+old.length):=wrapI (by simp only[Int.ofNat_eq_natCast];omega) (by simp only[Int.ofNat_eq_natCast];omega)
 have e2:l.length≥(i+1)->IntKind.wrap IntKind.i64 (Int.ofNat (i+1))=Int.ofNat (i+1):=fun h=>wrapI (by simp only[Int.ofNat_eq_natCast];omega) (by simp only[Int.ofNat_eq_natCast];omega)
 have hb:∀i,(List.getD l i 0).toNat<256:=fun i=>(List.getD l i 0).toNat_lt
 have Y:=fun(g1:(i+old.length)<=l.length) (g2:eqL (List.drop i (List.take (i+old.length) l)) old=true)=>rpI_y h (old:=old) (by omega) h1 h4 (by simpa only[Nat.zero_add] using g2)
 have N1:=fun(g1:i<l.length) (g2:¬(i+old.length)<=l.length)=>rpI_n h (old:=old) g1 (fun g=>absurd g (by omega))
 have N2:=fun(g1:i<l.length) (g2:eqL (List.drop i (List.take (i+old.length) l)) old=false)=>rpI_n h (old:=old) g1 (fun g=>by simpa only[Nat.zero_add] using g2)
 simp only[List.length_cons] at h4
 simp only[Nat.zero_add,Nat.add_zero,e1,tn,tk,ofN]
 simp only[sj2,sj1,leB_iff',sj13]
 refine⟨fun g1=>⟨fun g2=>⟨by omega,fun g3=>⟨by omega,?_⟩,fun g3=>⟨by omega,by omega,by first|exact hb _|exact Int.ofNat_lt.2 (hb _),?_⟩⟩,fun g2=>⟨by omega,by omega,by first|exact hb _|exact Int.ofNat_lt.2 (hb _),?_⟩⟩,fun g1=>?_⟩
 ·exact⟨(i+old.length,out++c::r),Y g2 g3,by first|omega|(simp;omega),by simp[Nat.add_assoc],rfl,⟨[],by simp⟩⟩
 ·exact⟨by omega,(i+1,out++[l.getD i 0]),N2 g1 g3,by first|omega|(simp;omega),by simp,by rw[←Int.ofNat_eq_natCast,e2 (by omega)],⟨[],by simp⟩⟩
 ·exact⟨by omega,(i+1,out++[l.getD i 0]),N1 g1 (by omega),by first|omega|(simp;omega),by simp,by rw[←Int.ofNat_eq_natCast,e2 (by omega)],⟨[],by simp⟩⟩
 ·exact⟨Nat.le_refl _,rpI_end h (by omega)⟩
theorem rtD_b (T:TD) (l old:By) (c:UInt8) (r:By) (hd:0<old.length/\l.length<=bufMax/\old.length<=bufMax/\(c::r).length<=old.length):(rtD T l old c r).Body2 (rtDE T l old c r) Tryz.prog (sub (bodyOf Tryz.f417) [0,0,1,0,1,1]):=by
 refine LoopD.bodyH2 (root:=(bodyOf Tryz.f417)) [0,0,1,0,1,1] ftOk (nofOk) (LTok.nil) 1000 ?_ ?_
 ·exact fun j hj=>Ho.of (rtDR T l old c r) (by kernel_rfl) (rtD_r T l old c r hd)
 ·exact fun j hj=>Ho.of (rtDQ T l old c r j.1 j.2) (by kernel_rfl) (rtD_q T l old c r j.1 j.2 hd hj)
theorem rt_r (T:TD) (l old:By) (c:UInt8) (r:By):rtR T l old c r:=by
 unfold rtR
 try simp only[br_iff,gd_iff,Bool.and_eq_true,sj5,leB_iff,leB_iff',sj3,sj7]
 repeat' (first|done|omega|exact rfl|exact trivial|exact()|intro _|refine⟨?_,?_⟩)
theorem rt_fok:FunOk Tryz.prog 417:=⟨Tryz.f417,by kernel_rfl,rfl,by kernel_rfl⟩
theorem rt_ok (T:TD):(rtS T).Body Tryz.prog 417/\(rtS T).BodyD Tryz.prog 417:=by
 refine genS_body (fn:=Tryz.f417) (b:=(bodyOf Tryz.f417)) (LT:=fun⟨l,old,c,r⟩=>[([0,1,0,1,1],(rtD T l old c r).at ())]) ftOk (nofOk) 1000 (fun⟨l,old,c,r⟩ ha=>LTok.cons (fun fr H K hk=>LoopD.ok2 (rtD_b T l old c r ha) hk) (LTok.nil)) (by kernel_rfl) (by kernel_rfl) ?_
 exact fun a ha=>Ho.of (rtR T a.1 a.2.1 a.2.2.1 a.2.2.2) (by kernel_rfl) (rt_r T a.1 a.2.1 a.2.2.1 a.2.2.2)
def ueER (T:TD) (l:By) (i:Nat):Prop:=
 letI m:=i+1;letI h:=List.length l;letI k:=List.take i l;letI g:=domB T=domB T;letI f:=Int.ofNat h;letI e:=List.length k;letI d:=UInt8.toNat (List.getD l i (0:UInt8));letI c:=Value.int .i64 f;letI b:=decide (Int.ofNat i<f);letI a:=Int.ofNat d;br b (gd b (gd (Nat.blt i h) (br (a !=Int.ofNat 7) (gd (decide (a<Int.ofNat 256)&&true&&true) (gd (Nat.ble i e&&(Nat.ble m 140737488355328&&true)) (∃(j':Nat),Nat.le j' h/\h-j'<h-i/\g/\l=l/\c=c/\Value.int .i64 (IntKind.wrap .i64 (Int.ofNat m))=Value.int .i64 (Int.ofNat j')/\gd (Nat.beq m j') ((∃(r:List UInt8),List.take i k++[UInt8.ofNat d]=List.take j' l++r)/\True)))) False))) (∃(x:Unit),True/\g/\0+i<=e/\List.take i (List.drop 0 k)=l/\True)
def ueDR (T:TD) (l:By) (i:Nat):Prop:=
 letI f:=List.length l;letI e:=domB T=domB T;letI d:=Int.ofNat f;letI c:=IntKind.wrap .i64 (Int.ofNat (i+1));letI b:=decide (Int.ofNat i<d);letI a:=∃(x:Unit),True/\e/\l=l/\True;br b (gd b (gd (Nat.blt i f) (br (Int.ofNat (UInt8.toNat (List.getD l i (0:UInt8)))!=Int.ofNat 7) (∃(j':Nat),Nat.le j' f/\f-j'<f-i/\e/\Value.int .i64 c=Value.int .i64 (Int.ofNat j')/\l=l/\True) (br (decide (c≥d)) a False)))) a
def ueR (T:TD) (l:By):Prop:=
 letI k:=List.length l;letI h:=domB T=domB T;letI g:=Nat.le 0 k;letI e:=Int.ofNat k;letI f:=Int.ofNat 281474976710656;letI d:=Value.int .i64 (Int.ofNat 0);letI c:=Value.int .i64 e;letI b:=d=d;letI a:=decide (e<=f)&&(decide (Int.ofNat (1*k)<=f)&&true);gd (decide (e<=e)&&a) (g/\(h/\b/\l=l/\True)/\∀(x:Unit),True->gd a (g/\(h/\l=l/\c=c/\b/\gd (Nat.blt k 9223372036854775808) ((∃(r:List UInt8),[]=r)/\k*1<=k/\True))/\∀(x:Unit),True->∃(x:By),x=l/\h/\True/\True/\l=x/\True))
theorem ueU_ok (T:TD):TabOk Tryz.prog (ueU T):=by
 refine⟨fun f s h=>?_,fun f s h=>?_⟩
 ·unfold ueU at h
  simp only at h
  split at h
  ·cases h;exact noS_ok
  ·cases h
 ·cases h
theorem ueE_r (T:TD) (l:By) (i:Nat) (hd:(∀b∈l,b.toNat≠7)/\l.length<=bufMax) (hi:i<=l.length):ueER T l i:=by
 unfold ueER
 obtain⟨h1,h2⟩:=hd
 simp only[bufMax] at h2
 have ofN:∀c:UInt8,UInt8.ofNat c.toNat=c:=fun c=>by simp
 have e1:i<l.length->IntKind.wrap IntKind.i64 (Int.ofNat (i+1))=Int.ofNat (i+1):=fun h=>by rw[wrapI (by simp only[Int.ofNat_eq_natCast];omega) (by simp only[Int.ofNat_eq_natCast];omega)]
 simp only[sj2,intN,intM,ofN,sj1,leB_iff',sj0]
 exact⟨fun g=>⟨g,g,fun _=>⟨(l.getD i 0).toNat_lt,⟨by rw[List.length_take];omega,by omega⟩,i+1,Nat.succ_le_of_lt g,by omega,congrArg _ (e1 g),rfl,[],by rw[List.take_of_length_le (l:=List.take i l) (List.length_take_le _ _),List.append_nil,takeS g]⟩,fun e=>absurd e (h1 _ (getD_mem g))⟩,fun g=>⟨by rw[List.length_take];omega,by rw[List.take_of_length_le (l:=List.take i l) (List.length_take_le _ _),List.take_of_length_le (by omega)]⟩⟩
theorem ueE_b (T:TD) (l:By) (hd:(∀b∈l,b.toNat≠7)/\l.length<=bufMax):(ueE T l).Body Tryz.prog (sub (bodyOf Tryz.f472) [0,0,1,0,1,1,1,1,1,1]):=by
 refine LoopD.bodyH (root:=(bodyOf Tryz.f472)) [0,0,1,0,1,1,1,1,1,1] ftOk (ueU_ok T) (LTok.nil) 1000 ?_
 exact fun i hi=>Ho.of (ueER T l i) (by kernel_rfl) (ueE_r T l i hd hi)
theorem ueD_r (T:TD) (l:By) (i:Nat) (hd:(∀b∈l,b.toNat≠7)/\l.length<=bufMax) (hi:i<=l.length):ueDR T l i:=by
 unfold ueDR
 obtain⟨h1,h2⟩:=hd
 simp only[bufMax] at h2
 have ofN:∀c:UInt8,UInt8.ofNat c.toNat=c:=fun c=>by simp
 have e1:i<l.length->IntKind.wrap IntKind.i64 (Int.ofNat (i+1))=Int.ofNat (i+1):=fun h=>by rw[wrapI (by simp only[Int.ofNat_eq_natCast];omega) (by simp only[Int.ofNat_eq_natCast];omega)]
 simp only[sj2,intN,intM,ofN,sj1,leB_iff',sj0]
 exact⟨fun g=>⟨g,g,fun _=>⟨i+1,Nat.succ_le_of_lt g,by omega,congrArg _ (e1 g)⟩,fun e=>absurd e (h1 _ (getD_mem g))⟩,fun _=>trivial⟩
theorem ueD_b (T:TD) (l:By) (hd:(∀b∈l,b.toNat≠7)/\l.length<=bufMax):(ueD T l).Body Tryz.prog (sub (bodyOf Tryz.f472) [0,0,1,0,1,1,1,1]):=by
 refine LoopD.bodyH (root:=(bodyOf Tryz.f472)) [0,0,1,0,1,1,1,1] ftOk (ueU_ok T) (LTok.nil) 1000 ?_
 exact fun i hi=>Ho.of (ueDR T l i) (by kernel_rfl) (ueD_r T l i hd hi)
theorem ue_r (T:TD) (l:By) (h2:l.length<=bufMax):ueR T l:=by
 unfold ueR
 simp only[bufMax] at h2
 simp only[sj2,sj1,leB_iff',sj0]
 exact⟨⟨Nat.le_refl _,by omega,by omega⟩,Nat.zero_le _,fun _ _=>⟨⟨by omega,by omega⟩,Nat.zero_le _,⟨by omega,⟨[],rfl⟩,by omega⟩,fun _ _=>trivial⟩⟩
theorem ue_fok:FunOk Tryz.prog 472:=⟨Tryz.f472,by kernel_rfl,rfl,by kernel_rfl⟩
theorem ue_ok (T:TD):(ueS T).Body Tryz.prog 472/\(ueS T).BodyD Tryz.prog 472:=by
 refine genS_body (fn:=Tryz.f472) (b:=(bodyOf Tryz.f472)) (LT:=fun l=>[([0,1,0,1,1,1,1],(ueD T l).at (0:Nat)),([0,1,0,1,1,1,1,1,1],(ueE T l).at (0:Nat))]) ftOk (ueU_ok T) 1000 (fun l ha=>LTok.cons (fun fr H K hk=>LoopD.ok (ueD_b T l ha) hk) (LTok.cons (fun fr H K hk=>LoopD.ok (ueE_b T l ha) hk) (LTok.nil))) (by kernel_rfl) (by kernel_rfl) ?_
 exact fun a ha=>Ho.of (ueR T a) (by kernel_rfl) (ue_r T a ha.2)
def ccDR (T:TD) (i:Nat) (j:Nat):Prop:=
 letI u1:=T.C i;letI v1:=j+1;letI t1:=T.tx i j;letI s1:=List UInt8;letI p1:=TD.hasT T i j;letI r1:=u1=u1;letI n1:=domB T=domB T;letI k1:=Int.ofNat u1;letI h1:=[(7:UInt8),124];letI g1:=List.length t1;letI f1:=Nat.ble v1 u1;letI d1:=Value.int .i64 (Int.ofNat 0);letI c1:=gd (Nat.ble u1 u1) True;letI z:=Nat.beq i i&&Nat.beq j j&&true;letI a1:=Value.int IntKind.i8 (Int.ofNat 0);letI b1:=Value.int .i64 k1;letI y:=fun(q:Nat)=>AVal.by_ (ct T i q);letI w:=h1=h1;letI v:=decide (Int.ofNat j<k1);letI u:=fun(q:Nat)=>AVal.sp (SId.mk 5 i q) 0;letI t:=eqL T.span [(109:UInt8),105,114,114,111,114];letI s:=[((92:UInt8),[(124:UInt8)]).fst,(124:UInt8)];letI r:=Value.int .i64 (IntKind.wrap .i64 (Int.ofNat v1));letI p:=d1=d1;letI m:=a1=a1;letI n:=b1=b1;letI k:=[(92:UInt8),124]=s;letI h:=SubF y y j [];letI g:=SubF u u u1 [];letI f:=Nat.beq j j&&(Nat.ble (u1*1) u1&&Nat.blt u1 9223372036854775808&&(Nat.ble (0+j+1+j+1+j+1+j+1+j+1+j+1+j+1+j+1+j+1+j+1+j+1+j+1+j+1+j+1+j+1+j+1+j+1+j+1+j+1+j+1+j+1+j+1+j+1+j+1) 140737488355328&&(Nat.ble v1 140737488355328&&true)));letI e:=∃(j':Nat),Nat.le j' u1/\u1-j'<u1-j/\n1/\r1/\g/\n/\r=Value.int .i64 (Int.ofNat j')/\gd (Nat.beq v1 j') False;letI a:=br t e e;br v (gd v (gd (Nat.blt j u1) (br p1 (n1/\(p1=true/\WT t1/\0<g1/\g1<=2147483647)/\gd z (p/\m/\∀(x:s1),letI q1:=List.length x;letI m1:=q1-0;letI e1:=Int.ofNat q1;x=t1->gd (decide (e1<=e1)) (n1/\((∀(b:UInt8),b∈x->UInt8.toNat b<128)/\q1<=70368744177664/\TD.Ok T)/\0+m1<=q1/\List.take m1 x=x/\∀(x_1:s1),x_1=trim x->n1/\(0<2/\List.length x_1<=70368744177664/\2<=70368744177664/\1+1<=2)/\x_1=x_1/\w/\k/\∀(x:s1),x=rpF x_1 h1 s->n1/\((∀(b:UInt8),b∈x->UInt8.toNat b≠7)/\List.length x<=70368744177664)/\x=x/\∀(x_2:s1),letI c:=∃(j':Nat),Nat.le j' u1/\u1-j'<u1-j/\n1/\r1/\g/\n/\r=Value.int .i64 (Int.ofNat j')/\gd (Nat.beq v1 j') (r1/\j'=v1/\h/\x_2=ct T i j/\c1);x_2=x->gd f (br f1 (br t c c) a)))) (n1/\p1=false/\gd z (p/\m/\∀(x:Unit),True->n1/\((∀(b:UInt8),b∈[]->UInt8.toNat b<128)/\0<=70368744177664/\TD.Ok T)/\([]:s1)=[]/\∀(x:s1),x=trim []->n1/\(0<2/\List.length x<=70368744177664/\2<=70368744177664/\1+1<=2)/\x=x/\w/\k/\∀(x_1:s1),x_1=rpF x h1 s->n1/\((∀(b:UInt8),b∈x_1->UInt8.toNat b≠7)/\List.length x_1<=70368744177664)/\x_1=x_1/\∀(x:s1),letI d:=∃(j':Nat),Nat.le j' u1/\u1-j'<u1-j/\n1/\r1/\g/\n/\r=Value.int .i64 (Int.ofNat j')/\gd (Nat.beq v1 j') (r1/\j'=v1/\h/\x=ct T i j/\c1);x=x_1->gd f (br f1 (br t d d) a)))))) (∃(x:Unit),True/\n1/\gd (Nat.beq u1 j) (j=u1/\j=j/\h/\True))
def ccR (T:TD) (i:Nat):Prop:=
 letI g:=T.C i;letI f:=True/\True;letI e:=domB T=domB T;letI b:=Int.ofNat 281474976710656;letI a:=Value.int .i64 (Int.ofNat 0);e/\(i<T.R/\0<g/\g<=12)/\gd (Nat.beq i i&&true&&true) (∀(x:Nat),letI h:=T.C x;letI d:=Int.ofNat h;x=i->gd (decide (d<=b)&&(decide (Int.ofNat (24*h)<=b)&&true)) (Nat.le 0 g/\(e/\h=g/\SubF (fun(q:Nat)=>AVal.sp (SId.mk 5 x q) 0) (fun(q:Nat)=>AVal.sp (SId.mk 5 i q) 0) h []/\Value.int .i64 d=Value.int .i64 (Int.ofNat g)/\a=a/\h=g/\0=0/\0=0/\gd (Nat.ble g (h*1)) True)/\∀(x:Unit),True->∃(x:Nat),x=i/\e/\((∀(i:Nat),letI c:=AVal.by_ (ct T x i);i<T.C x->SubA 0 c c)/\True)/\((((((True/\f)/\f)/\f)/\f)/\f)/\True)/\g=T.C x/\SubF (fun(q:Nat)=>AVal.by_ (ct T i q)) (fun(q:Nat)=>AVal.by_ (ct T x q)) g []/\True))
theorem ccU_ok (T:TD):TabOk Tryz.prog (ccU T):=by
 refine⟨fun f s h=>?_,fun f s h=>?_⟩
 ·unfold ccU at h
  simp only at h
  split at h
  ·cases h;exact genS_ok fa_fok (fa_ok T).1
  ·cases h;exact iteS_ok (genS_ok xd_fok (xd_ok T).1) (genS_ok xd_fok (xe_ok T).1)
  ·cases h;exact genS_ok tr_fok (tr_ok T).1
  ·cases h;exact genS_ok rt_fok (rt_ok T).1
  ·cases h;exact genS_ok ue_fok (ue_ok T).1
  ·cases h
 ·cases h
theorem ccD_r (T:TD) (i j:Nat) (hd:i<T.R/\T.Ok) (h:j<=T.C i):ccDR T i j:=by
 unfold ccDR
 obtain⟨h1,ok⟩:=hd
 have c2:=ok.c2 i
 have tk:∀l:By,List.take l.length l=l:=fun l=>List.take_length
 have e1:IntKind.wrap IntKind.i64 (Int.ofNat (j+1))=Int.ofNat (j+1):=by rw[wrapI (by simp only[Int.ofNat_eq_natCast];omega) (by simp only[Int.ofNat_eq_natCast];omega)]
 have w:=wt_words (ok.w i j)
 have hl:=ok.l i j
 have m7:∀b∈trim (T.tx i j),b.toNat≠7:=fun b hb=>by have:=w b (trim_mem hb);unfold wc at this;omega
 have m8:∀b∈T.tx i j,b.toNat<128:=fun b hb=>by have:=w b hb;unfold wc at this;omega
 have hr:rpF (trim (T.tx i j)) [7,124] [92,124]=trim (T.tx i j):=rpF_id m7
 have hr0:rpF (trim []) [7,124] [92,124]=trim []:=rpF_id (by rw[trim_e];simp)
 have tl:=trim_len (l:=T.tx i j)
 have tl0:(trim []).length=0:=by rw[trim_e];rfl
 have z7:∀b∈trim [],b.toNat≠7:=by rw[trim_e];simp
 simp only[e1,tk,Nat.sub_zero]
 simp only[sj2,sj12,forall_eq,hr,hr0,tk,Nat.sub_zero,tl0,sj1,leB_iff',sj0]
 have s1:SubF (fun q=>AVal.sp {k:=5,i:=i,j:=q} 0) (fun q=>AVal.sp {k:=5,i:=i,j:=q} 0) (T.C i) []:=fun _ _ _=>pinA
 have s2:∀n,SubF (fun q=>AVal.by_ (ct T i q)) (fun q=>AVal.by_ (ct T i q)) n []:=fun n _ _ _=>byA
 have fin:∀x:By,x=ct T i j->j<T.C i->∃j',j'<=T.C i/\T.C i-j'<T.C i-j/\SubF (fun q=>AVal.sp {k:=5,i:=i,j:=q} 0) (fun q=>AVal.sp {k:=5,i:=i,j:=q} 0) (T.C i) []/\Value.int IntKind.i64 ((j+1:Nat):Int)=Value.int IntKind.i64 (j':Nat)/\j+1=j'/\j'=j+1/\SubF (fun q=>AVal.by_ (ct T i q)) (fun q=>AVal.by_ (ct T i q)) j []/\x=ct T i j/\T.C i<=T.C i:=fun x hx g=>⟨j+1,by omega,by omega,s1,rfl,rfl,rfl,s2 _,hx,Nat.le_refl _⟩
 have ne:T.hasT i j=true->0<(T.tx i j).length:=fun h=>List.length_pos_iff.2 (hasT_ne h)
 have em:T.hasT i j=false->trim []=ct T i j:=fun h=>by
  have:T.tx i j=[]:=by
   cases e:T.tx i j with
   |nil=>rfl
   |cons a b=>simp[TD.hasT,e,nilB] at h
  unfold ct;rw[this]
 exact⟨fun g=>⟨g,g,fun ht=>⟨⟨ht,w,ne ht,hl⟩,Nat.le_refl _,⟨m8,by omega,ok⟩,Nat.le_refl _,⟨by omega,by omega,by omega,by omega⟩,⟨m7,by omega⟩,by refine⟨?_,?_⟩<;>omega,fun _=>⟨fun _=>fin _ rfl g,fun _=>fin _ rfl g⟩,fun h=>absurd g (by omega)⟩,fun ht=>⟨ht,fun _=>⟨⟨by simp,by omega,ok⟩,⟨by omega,by omega,by omega,by omega⟩,⟨z7,by omega⟩,by refine⟨?_,?_⟩<;>omega,fun _=>⟨fun _=>fin _ (em ht) g,fun _=>fin _ (em ht) g⟩,fun h=>absurd g (by omega)⟩⟩⟩,fun ng=>⟨by omega,by omega,s2 _⟩⟩
theorem ccD_b (T:TD) (i:Nat) (hd:i<T.R/\T.Ok):(ccD T i).Body Tryz.prog (sub (bodyOf Tryz.f429) [0,0,1,0,1,1,1,1]):=by
 refine LoopD.bodyH (root:=(bodyOf Tryz.f429)) [0,0,1,0,1,1,1,1] ftOk (ccU_ok T) (LTok.nil) 1000 ?_
 exact fun j hj=>Ho.of (ccDR T i j) (by kernel_rfl) (ccD_r T i j hd hj)
theorem cc_r (T:TD) (i:Nat) (hd:i<T.R/\T.Ok):ccR T i:=by
 unfold ccR
 obtain⟨h1,ok⟩:=hd
 have c2:=ok.c2 i
 simp only[sj2,eq_self,implies_true,Nat.le_eq,forall_eq,sj1,leB_iff',sj0]
 trace_state
 exact⟨⟨h1,ok.c i h1,c2⟩,⟨by omega,by omega⟩,Nat.zero_le _,⟨fun _ _ _=>pinA,by omega⟩,fun _ _=>⟨fun _ _=>byA,fun _ _ _=>byA⟩⟩
theorem cc_fok:FunOk Tryz.prog 429:=⟨Tryz.f429,by kernel_rfl,rfl,by kernel_rfl⟩
theorem cc_ok (T:TD):(ccS T).Body Tryz.prog 429/\(ccS T).BodyD Tryz.prog 429:=by
 refine genS_body (fn:=Tryz.f429) (b:=(bodyOf Tryz.f429)) (LT:=fun i=>[([0,1,0,1,1,1,1],(ccD T i).at (0:Nat))]) ftOk (ccU_ok T) 1000 (fun i ha=>LTok.cons (fun fr H K hk=>LoopD.ok (ccD_b T i ha) hk) (LTok.nil)) (by kernel_rfl) (by kernel_rfl) ?_
 exact fun a ha=>Ho.of (ccR T a) (by kernel_rfl) (cc_r T a ha)
def rvDR (T:TD) (n:Nat) (i:Nat) (j:Nat):Prop:=
 letI k:=Int.ofNat 1;letI h:=domB T=domB T;letI g:=Nat.blt i n&&true;letI f:=fun(x:Nat)=>AVal.e0;letI e:=Int.ofNat j-k;letI d:=decide (Int.ofNat i<Int.ofNat n);letI c:=Int.toNat e;letI b:=Nat.blt c n;letI a:=decide (Int.ofNat 0<=e)&&decide (e<Int.ofNat n);br (decide (Int.ofNat i<e)) (gd a (gd b (gd d (gd (Nat.blt i n) (gd d (gd g (gd a (gd (b&&true) (∃(j':Nat×Nat),(j'.fst<=n/\j'.snd<=n)/\n+1+j'.snd-j'.fst<n+1+j-i/\h/\gd (Nat.beq n n) (Value.int .i64 (IntKind.wrap .i64 (Int.ofNat (i+1)))=Value.int .i64 (Int.ofNat j'.fst)/\Value.int .i64 (IntKind.wrap .i64 (e-k))=Value.int .i64 (Int.ofNat j'.snd-k)/\n=n/\SubF f f n [(c,AVal.e0),(i,AVal.e0)]/\gd (b&&(!Nat.beq c i&&true)) (gd g True))))))))))) (∃(x:Unit),True/\h/\n<=n/\SubF f f n []/\True)
def rvR (T:TD) (n:Nat):Prop:=
 letI e:=domB T=domB T;letI d:=List (Nat×AVal);letI c:=fun(x:Nat)=>AVal.e0;letI b:=Int.ofNat n-Int.ofNat 1;letI a:=Value.int .i64 (Int.ofNat 0);(0<=n/\n<=n)/\(e/\gd (Nat.beq n n) (a=a/\Value.int .i64 (IntKind.wrap .i64 b)=Value.int .i64 b/\n<=n/\SubF c c n []/\True))/\∀(x:Unit),True->∃(x:Nat),x=n/\e/\True/\(([]:d)=([]:d)/\([]:List AVal)=([]:List AVal)/\∀(i:Nat),i<x->SubA 0 AVal.e0 AVal.e0)/\x<=n/\SubF c c x []/\True
theorem rvD_r (T:TD) (n i j:Nat) (hd:n<=100) (h:i<=n/\j<=n):rvDR T n i j:=by
 unfold rvDR
 have sf:∀us,SubF (fun _=>AVal.e0) (fun _=>AVal.e0) n us:=fun us _ _ _=>nlS_sub rfl
 cases j with
 |zero=>
  have hf:decide (Int.ofNat i<Int.ofNat 0-Int.ofNat 1)=false:=decide_eq_false (by simp only[Int.ofNat_eq_natCast];omega)
  rw[hf]
  exact⟨(),trivial,rfl,Nat.le_refl _,sf _,trivial⟩
 |succ j=>
  have e0:Int.ofNat (j+1)-Int.ofNat 1=Int.ofNat j:=by simp only[Int.ofNat_eq_natCast];omega
  have e1:IntKind.wrap IntKind.i64 (Int.ofNat (i+1))=Int.ofNat (i+1):=wrapI (by simp only[Int.ofNat_eq_natCast];omega) (by simp only[Int.ofNat_eq_natCast];omega)
  have e2:IntKind.wrap IntKind.i64 (Int.ofNat j-Int.ofNat 1)=Int.ofNat j-Int.ofNat 1:=wrapI (by simp only[Int.ofNat_eq_natCast];omega) (by simp only[Int.ofNat_eq_natCast];omega)
  have tn:∀n:Nat,Int.toNat (Int.ofNat n)=n:=fun n=>rfl
  simp only[e0,e1,e2,tn]
  simp only[sj2,eq_self,implies_true,Bool.not_eq_true',beqN_iff',sj1,leB_iff',sj0]
  refine⟨fun g=>?_,fun _=>⟨Nat.le_refl _,sf _⟩⟩
  repeat' (first|omega|exact sf _|exact rfl|refine⟨(i+1,j),⟨by omega,by omega⟩,by simp only[];omega,?_⟩|refine And.intro ?_ ?_)
theorem rvD_b (T:TD) (n:Nat) (hd:n<=100):(rvD T n).Body Tryz.prog (sub (bodyOf Tryz.f443) [0,0,1]):=by
 refine LoopD.bodyH (root:=(bodyOf Tryz.f443)) [0,0,1] ftOk (nofOk) (LTok.nil) 1000 ?_
 exact fun j hj=>Ho.of (rvDR T n j.1 j.2) (by kernel_rfl) (rvD_r T n j.1 j.2 hd hj)
theorem rv_r (T:TD) (n:Nat) (hd:n<=100):rvR T n:=by
 unfold rvR
 have e1:IntKind.wrap IntKind.i64 (Int.ofNat n-Int.ofNat 1)=Int.ofNat n-Int.ofNat 1:=wrapI (by simp only[Int.ofNat_eq_natCast];omega) (by simp only[Int.ofNat_eq_natCast];omega)
 simp only[e1]
 simp only[sj2,eq_self,implies_true,sj1,leB_iff',sj0]
 exact⟨⟨Nat.zero_le _,Nat.le_refl _⟩,⟨Nat.le_refl _,fun _ _ _=>nlS_sub rfl⟩,fun _ _=>⟨fun _ _=>nlS_sub rfl,Nat.le_refl _,fun _ _ _=>nlS_sub rfl⟩⟩
theorem rv_fok:FunOk Tryz.prog 443:=⟨Tryz.f443,by kernel_rfl,rfl,by kernel_rfl⟩
theorem rv_ok (T:TD):(rvS T).Body Tryz.prog 443/\(rvS T).BodyD Tryz.prog 443:=by
 refine genS_body (fn:=Tryz.f443) (b:=(bodyOf Tryz.f443)) (LT:=fun n=>[([0,1],(rvD T n).at (0,n))]) ftOk (nofOk) 1000 (fun n ha=>LTok.cons (fun fr H K hk=>LoopD.ok (rvD_b T n ha) hk) (LTok.nil)) (by kernel_rfl) (by kernel_rfl) ?_
 exact fun a ha=>Ho.of (rvR T a) (by kernel_rfl) (rv_r T a ha)
end Tk
