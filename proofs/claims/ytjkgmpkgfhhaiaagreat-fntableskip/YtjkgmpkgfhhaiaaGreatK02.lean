/- Lemmas of this claim; the last text says what is proved. -/
import Derived.Test.YtjkgmpkgfhhaiaaGreatK01
set_option linter.all false
namespace Go.Sx
open Go
variable [Syms]
def gd (b:Bool) (p:Prop):Prop:=cond b p False
def br (b:Bool) (p q:Prop):Prop:=cond b p q
theorem gd_out {b:Bool} {p:Prop} (h:gd b p):b=true/\p:=by
 cases b
 ·exact h.elim
 ·exact⟨rfl,h⟩
theorem gd_in {b:Bool} {p:Prop} (h:b=true) (h':p):gd b p:=by subst h;exact h'
theorem br_in {b:Bool} {p q:Prop} (h:b=true->p) (h':b=false->q):br b p q:=by
 cases b
 ·exact h' rfl
 ·exact h rfl
theorem br_out {b:Bool} {p q:Prop} (h:br b p q):(b=true/\p)\/(b=false/\q):=by
 cases b
 ·exact .inr ⟨rfl,h⟩
 ·exact .inl ⟨rfl,h⟩
def undefA:AVal:=.tup []
def AVal.cells:AVal->List AVal
 | .agg cs=>cs
 | .lit (.agg cs)=>cs.toList.map (ofValue 2)
 | .lit (.string s)=>[.str s.data.toList]
 |v=>[v]
def oneB:AVal->Bool
 | .lit v=>v.oneCell'
 | .agg _=>false
 | .tup _=>false
 | .top=>false
 | .ite _ _ _=>false
 |_=>true
def oneA:AVal->Bool
 | .ite _ a b=>oneB a&&oneB b
 |v=>oneB v
theorem Den.oneB {ι:Inj} {a v} (h:Den ι a v) (ho:oneB a=true):v.oneCell'=true:=by
 cases h<;>first|exact ho|rfl|assumption|(rename_i q h;exact q.one _ _ h)|cases ho
theorem Den.one {ι:Inj} {a v} (h:Den ι a v) (ho:oneA a=true):v.oneCell'=true:=by
 cases h with
 |@ite c a b v ht hf=>
  simp only[oneA,Bool.and_eq_true] at ho
  cases c with
  |true=>exact(ht rfl).oneB ho.1
  |false=>exact(hf rfl).oneB ho.2
 |lit=>exact ho
 |any h1 h2=>exact h2
 |top=>cases ho
 |agg h1=>cases ho
 |tup h1=>cases ho
 |@mp q v h1=>exact q.one _ _ h1
 |_=>rfl
theorem one_cells {v:Value} (h:v.oneCell'=true):v.cells=#[v]:=by cases v<;>first|rfl|cases h
def nt:AVal->Bool
 | .top=>false
 | .ite _ a b=>oneB a&&oneB b
 |_=>true
theorem Den.cells {ι:Inj} {a v} (h:Den ι a v) (hnt:nt a=true):DenL ι a.cells v.cells.toList:=by
 cases h with
 |top=>cases hnt
 |lit=>cases v<;>first|exact .cons .lit .nil|exact DenL.map_of (ofValue_den 2) _|exact .cons .str .nil
 |agg h=>exact h
 |str=>exact .cons .str .nil
 |any h h'=>rw[h];exact .cons (.any h h') .nil
 |rope=>exact .cons .rope .nil
 |lenr=>exact .cons .lenr .nil
 |ub h=>exact .cons (.ub h) .nil
 |rsl h hl ho hc=>exact .cons (.rsl h hl ho hc) .nil
 |ptr h=>exact .cons (.ptr h) .nil
 |slc h hl ho hc=>exact .cons (.slc h hl ho hc) .nil
 |map h=>exact .cons (.map h) .nil
 |fn h h'=>exact .cons (.fn h h') .nil
 |ifc h=>exact .cons (.ifc h) .nil
 |tup h=>exact .cons (.tup h) .nil
 |sp h=>exact .cons (.sp h) .nil
 |ssl h hl=>exact .cons (.ssl h hl) .nil
 |smp h=>exact .cons (.smp h) .nil
 |by_ h hl ho=>exact .cons (.by_ h hl ho) .nil
 |by0=>exact .cons .by0 .nil
 |bp h ho=>exact .cons (.bp h ho) .nil
 |fam h hn hv hl ho=>exact .cons (.fam h hn hv hl ho) .nil
 |fam0=>exact .cons .fam0 .nil
 |fmp h hn hv ho=>exact .cons (.fmp h hn hv ho) .nil
 |famx h=>exact .cons (.famx h) .nil
 |fmw h hn hv hl ho=>exact .cons (.fmw h hn hv hl ho) .nil
 |fmw0=>exact .cons .fmw0 .nil
 |fwp h hn hv hk ho=>exact .cons (.fwp h hn hv hk ho) .nil
 |fpt h hv=>exact .cons (.fpt h hv) .nil
 |ite ht hf=>
  have h1:=(Den.ite ht hf).one hnt
  rw[one_cells h1]
  exact .cons (.ite ht hf) .nil
 |e0=>exact .cons .e0 .nil
 |@mp q v h1=>
  rw[one_cells (q.one _ _ h1)]
  exact .cons (.mp h1) .nil
theorem DenL.one {ι:Inj}:∀{a v},DenL ι a v->a.all oneA=true->∀x∈v,x.oneCell'=true
 |_,_,.nil,_,_,hx=>by cases hx
 |_,_,.cons h hs,ho,x,hx=>by
  simp only[List.all_cons,Bool.and_eq_true] at ho
  rcases List.mem_cons.1 hx with rfl|hx
  ·exact h.one ho.1
  ·exact DenL.one hs ho.2 x hx
def splice:List AVal->Nat->List AVal->List AVal
 |c::cs,0,v::vs=>v::splice cs 0 vs
 |c::cs,n+1,vs=>c::splice cs n vs
 |cs,_,_=>cs
def spliceV:List Value->Nat->List Value->List Value
 |c::cs,0,v::vs=>v::spliceV cs 0 vs
 |c::cs,n+1,vs=>c::spliceV cs n vs
 |cs,_,_=>cs
theorem DenL.splice {ι:Inj}:∀{c d} (_:DenL ι c d) (n:Nat) {v w} (_:DenL ι v w),DenL ι (splice c n v) (spliceV d n w)
 |_,_,.nil,n,_,_,h=>by cases n<;>cases h<;>exact .nil
 |_,_,.cons hc hcs,0,_,_,.nil=>.cons hc hcs
 |_,_,.cons hc hcs,0,_,_,.cons h hs=>.cons h (DenL.splice hcs 0 hs)
 |_,_,.cons hc hcs,n+1,_,_,h=>.cons hc (DenL.splice hcs n h)
theorem spliceV_length:∀(c:List Value) (n:Nat) (v:List Value),(spliceV c n v).length=c.length
 |[],0,_=>by cases ‹List Value› <;>rfl
 |[],_+1,_=>rfl
 |_::_,0,[]=>rfl
 |_::cs,0,_::vs=>by simp[spliceV,spliceV_length cs 0 vs]
 |_::cs,n+1,vs=>by simp[spliceV,spliceV_length cs n vs]
theorem spliceV_append:∀(c r:List Value) (n:Nat) (v:List Value),n+v.length<=c.length->spliceV (c++r) n v=spliceV c n v++r
 |[],r,0,[],_=>by cases r<;>rfl
 |[],r,0,_::_,h=>by simp at h
 |[],r,n+1,v,h=>by simp at h
 |_::_,r,0,[],_=>rfl
 |_::cs,r,0,_::vs,h=>by
  simp only[List.cons_append,spliceV]
  rw[spliceV_append cs r 0 vs (by simp at h⊢;omega)]
 |_::cs,r,n+1,vs,h=>by
  simp only[List.cons_append,spliceV]
  rw[spliceV_append cs r n vs (by simp at h⊢;omega)]
theorem spliceV_set:∀(c:List Value) (n:Nat) (x:Value) (v:List Value),n<c.length->spliceV c n (x::v)=spliceV (c.set n x) (n+1) v
 |[],_,_,_,h=>by simp at h
 |c::cs,0,x,v,_=>by simp[spliceV]
 |c::cs,n+1,x,v,h=>by
  simp only[List.set_cons_succ,spliceV]
  rw[spliceV_set cs n x v (by simpa using h)]
theorem spliceV_nil:∀(c:List Value) (n:Nat),spliceV c n []=c
 |[],0=>rfl
 |[],_+1=>rfl
 |_::_,0=>rfl
 |_::cs,n+1=>by simp[spliceV,spliceV_nil cs n]
def nthA {α:Type}:List α->Nat->Option α
 |[],_=>none
 |x::_,0=>some x
 |_::xs,n+1=>nthA xs n
theorem nthA_eq {α:Type}:∀(l:List α) (n:Nat),nthA l n=l[n]?
 |[],_=>rfl
 |_::_,0=>rfl
 |_::xs,n+1=>by simpa[nthA] using nthA_eq xs n
theorem cell_at {w:World} {r:Nat} {c:Array Value} {e:TypeId} {fz:Nat×Nat} (h:w.heap[r]?=some (.cells c e fz)) (off:Nat):w.cell? ⟨r,off,none⟩=c[off]?:=by
 simp[World.cell?,h]
theorem frozen_at {w:World} {r:Nat} {c:Array Value} {e:TypeId} {fz:Nat×Nat} (h:w.heap[r]?=some (.cells c e fz)) (off:Nat):w.frozen? ⟨r,off,none⟩=(decide (fz.1<=off)&&decide (off<fz.2)):=by
 simp[World.frozen?,h]
theorem run_loadCellsFrom {P:Program} {w:World} {r:Nat} {c:Array Value} {e:TypeId} {fz:Nat×Nat} (h:w.heap[r]?=some (.cells c e fz)) (off:Nat):
 ∀(n i:Nat) (acc:Array Value),off+i+n<=c.size->(loadCellsFrom ⟨r,off,none⟩ i n acc).run P w=.ok (acc++((c.toList.drop (off+i)).take n).toArray) w:=by
 intro n
 induction n with
 |zero=>intro i acc _;simp[loadCellsFrom]
 |succ n ih=>
  intro i acc hle
  have ha:(⟨r,off,none⟩:Addr).add i=⟨r,off+i,none⟩:=by
   unfold Addr.add;split
   ·next h0=>subst h0;rfl
   ·rfl
  simp only[loadCellsFrom,Sem.run_bind,run_load,ha,cell_at h]
  have hlt:off+i<c.size:=by omega
  rw[Array.getElem?_eq_getElem hlt]
  simp only[Result.andThen_ok]
  rw[ih (i+1) _ (by omega)]
  congr 1
  have hd:(c.toList.drop (off+i)).take (n+1)=c[off+i]::(c.toList.drop (off+(i+1))).take n:=by
   have hcons:c.toList.drop (off+i)=c[off+i]::c.toList.drop (off+i+1):=by
    rw[List.drop_eq_getElem_cons (by simpa using hlt)];simp
   rw[hcons,List.take_succ_cons]
   rfl
  rw[hd]
  simp
theorem run_loadCells {P:Program} {w:World} {r:Nat} {c:Array Value} {e:TypeId} {fz:Nat×Nat} (h:w.heap[r]?=some (.cells c e fz)) (off n:Nat) (hle:off+n<=c.size):
 (loadCells ⟨r,off,none⟩ n).run P w=.ok ((c.toList.drop off).take n).toArray w:=by
 unfold loadCells
 rw[run_loadCellsFrom h off n 0 #[] (by omega)]
 simp
def setBlk (w:World) (r:Nat) (o:Obj):World:={w with heap:=w.heap.setIfInBounds r o}
theorem setBlk_get {w:World} {r:Nat} {o o':Obj} (h:w.heap[r]?=some o'):(setBlk w r o).heap[r]?=some o:=by
 have:r<w.heap.size:=by
  rcases Nat.lt_or_ge r w.heap.size with h'|h'
  ·exact h'
  ·simp[Array.getElem?_eq_none h'] at h
 simp[setBlk,this]
theorem setBlk_other {w:World} {r k:Nat} {o:Obj} (h:k≠r):(setBlk w r o).heap[k]?=w.heap[k]?:=by
 simp[setBlk,Array.getElem?_setIfInBounds_ne (Ne.symm h)]
theorem setBlk_size {w:World} {r:Nat} {o:Obj}:(setBlk w r o).heap.size=w.heap.size:=by simp[setBlk]
theorem setBlk_setBlk {w:World} {r:Nat} {o o':Obj}:setBlk (setBlk w r o) r o'=setBlk w r o':=by simp[setBlk]
theorem setBlk_self {w:World} {r:Nat} {o:Obj} (h:w.heap[r]?=some o):setBlk w r o=w:=by
 have:w.heap.setIfInBounds r o=w.heap:=by
  apply Array.ext_getElem?
  intro i
  by_cases hi:i=r
  ·subst hi
   rw[h]
   have:i<w.heap.size:=by
    rcases Nat.lt_or_ge i w.heap.size with h'|h'
    ·exact h'
    ·simp[Array.getElem?_eq_none h'] at h
   simp[this]
  ·simp[Array.getElem?_setIfInBounds_ne (Ne.symm hi)]
 simp[setBlk,this]
theorem setCell_blk {w:World} {r off:Nat} {c:Array Value} {e:TypeId} {fz:Nat×Nat} (h:w.heap[r]?=some (.cells c e fz)) (v:Value):
 w.setCell ⟨r,off,none⟩ v=setBlk w r (.cells (c.setIfInBounds off v) e fz):=by
 have hlt:r<w.heap.size:=by
  rcases Nat.lt_or_ge r w.heap.size with h'|h'
  ·exact h'
  ·simp[Array.getElem?_eq_none h'] at h
 unfold World.setCell setBlk
 congr 1
 apply Array.ext_getElem?
 intro i
 rw[Array.getElem?_modify]
 by_cases hi:r=i
 ·subst hi
  rw[if_pos rfl,h]
  simp[hlt]
 ·simp[hi,Array.getElem?_setIfInBounds_ne hi]
theorem run_storeCells {P:Program} {r off:Nat} {e:TypeId} {fz:Nat×Nat}:
 ∀(vs:List Value) (i:Nat) (w:World) (c:List Value),w.heap[r]?=some (.cells c.toArray e fz)->off+i+vs.length<=c.length->(∀k,off+i<=k->k<off+i+vs.length->¬(fz.1<=k/\(k<fz.2\/fz.2<fz.1)))->(∀x∈vs,x.oneCell'=true)->
  (storeCells ⟨r,off,none⟩ vs i).run P w=.ok () (setBlk w r (.cells (spliceV c (off+i) vs).toArray e fz)):=by
 intro vs
 induction vs with
 |nil=>
  intro i w c h _ _ _
  simp only[storeCells,Sem.run_pure,spliceV_nil]
  rw[setBlk_self h]
 |cons v vs ih=>
  intro i w c h hle hfz hone
  have ha:(⟨r,off,none⟩:Addr).add i=⟨r,off+i,none⟩:=by
   unfold Addr.add;split
   ·next h0=>subst h0;rfl
   ·rfl
  have hlt:off+i<c.length:=by simp at hle;omega
  simp only[storeCells,Sem.run_bind,ha]
  rw[run_store P w _ _ _ (hone v (by simp)),cell_at h,frozen_at h]
  have hg:c.toArray[off+i]?=some c[off+i]:=by simp[hlt]
  rw[hg]
  have hnf:(decide (fz.1<=off+i)&&decide (off+i<fz.2))=false:=by
   have:=hfz (off+i) (Nat.le_refl _) (by simp)
   simp only[Bool.and_eq_false_iff,decide_eq_false_iff_not]
   by_cases h1:fz.1<=off+i
   ·exact .inr fun h2=>this ⟨h1,.inl h2⟩
   ·exact .inl h1
  rw[hnf]
  simp only[Bool.false_eq_true,if_false,Result.andThen_ok]
  rw[setCell_blk h]
  have e1:c.toArray.setIfInBounds (off+i) v=(c.set (off+i) v).toArray:=by simp
  rw[e1]
  have h':=setBlk_get (o:=.cells (c.set (off+i) v).toArray e fz) h
  rw[ih (i+1) _ _ h' (by simp at hle⊢;omega) (fun k h1 h2=>hfz k (by omega) (by simp at h2⊢;omega)) (fun x hx=>hone x (List.mem_cons_of_mem _ hx)),setBlk_setBlk]
  rw[spliceV_set c (off+i) v vs hlt,Nat.add_assoc]
def iteK:Nat->AVal->(AVal->Prop)->Prop
 |n+1,.ite c a b,K=>br c (iteK n a K) (iteK n b K)
 |_,v,K=>K v
theorem iteK_out {ι:Inj}:∀{n:Nat} {a:AVal} {v:Value} {K:AVal->Prop},iteK n a K->Den ι a v->∃b,Den ι b v/\K b
 |0,a,v,K,h,hd=>⟨a,hd,by simpa[iteK] using h⟩
 |n+1,a,v,K,h,hd=>by
  cases a with
  |ite c x y=>
   simp only[iteK] at h
   cases hd with
   |ite ht hf=>
   rcases br_out h with⟨hc,h⟩|⟨hc,h⟩
   ·exact iteK_out h (ht hc)
   ·exact iteK_out h (hf hc)
  |_=>exact⟨_,hd,h⟩
def rd (b:ABlk) (off:Nat) (K:AVal->Prop):Prop:=
 match b with
 | .row cs _ _=>match nthA cs off with|some v=>iteK 4 v K|none=>False
 | .bytes l _ _=>gd (Nat.blt off l.length) (K (.lit (byteV (l.getD off 0))))
 | .fam f n us xs _ _=>match xs with
   |[v]=>br (Nat.blt off n) (iteK 8 (famAt f us off) K) (gd (Nat.beq off n) (iteK 4 v K))
   |_=>gd (Nat.blt off n) (iteK 8 (famAt f us off) K)
 |_=>False
def rdN (b:ABlk) (off n:Nat) (K:List AVal->Prop):Prop:=
 match b with
 | .row cs _ _=>gd (Nat.ble (off+n) cs.length) (K ((cs.drop off).take n))
 |_=>False
def wr (b:ABlk) (off:Nat) (vs:List AVal) (K:ABlk->Prop):Prop:=
 match b with
 | .row cs e tot=>gd (Nat.ble (off+vs.length) cs.length&&vs.all oneA) (K (.row (splice cs off vs) e tot))
 | .bytes l e tot=>match vs with
   |[.lit (.int .u8 n)]=>match tot with
    | .n m=>br (Nat.blt off l.length) (gd (decide (0<=n)&&decide (n<256)) (K (.bytes (l.set off (UInt8.ofNat n.toNat)) e tot)))
      (gd (Nat.beq off l.length&&(Nat.blt off m&&(decide (0<=n)&&decide (n<256)))) (K (.bytes (l++[UInt8.ofNat n.toNat]) e tot)))
    |_=>gd (Nat.blt off l.length&&(decide (0<=n)&&decide (n<256))) (K (.bytes (l.set off (UInt8.ofNat n.toNat)) e tot))
   |_=>False
 | .fam f n us xs e tot=>match vs with
   |[v]=>match xs with
    |[_]=>gd (oneA v) (br (Nat.blt off n) (K (.fam f n ((off,v)::us) xs e tot)) (gd (Nat.beq off n) (K (.fam f n us [v] e tot))))
    |_=>gd (Nat.blt off n&&oneA v) (K (.fam f n ((off,v)::us) xs e tot))
   |_=>False
 |_=>False
theorem blt_lt {a b:Nat} (h:Nat.blt a b=true):a<b:=Nat.le_of_ble_eq_true h
theorem ble_le {a b:Nat} (h:Nat.ble a b=true):a<=b:=Nat.le_of_ble_eq_true h
theorem rd_ok {ι:Inj} {b:ABlk} {o:Obj} {off:Nat} {K:AVal->Prop} (hb:BDen ι b o) (h:rd b off K):
 ∃c e fz a v,o=.cells c e fz/\c[off]?=some v/\Den ι a v/\K a:=by
 cases b with
 |row cs e tot=>
  obtain⟨vs,rest,rfl,hd,_⟩:=hb
  simp only[rd] at h
  cases hn:nthA cs off with
  |none=>rw[hn] at h;exact h.elim
  |some a=>
   rw[hn] at h
   obtain⟨y,hy,hden⟩:=hd.get off (by rw[←nthA_eq];exact hn)
   obtain⟨a',hden',h⟩:=iteK_out h hden
   refine⟨_,_,_,a',y,rfl,?_,hden',h⟩
   have:off<vs.length:=(List.getElem?_eq_some_iff.1 hy).1
   simp[List.getElem?_append_left this,hy]
 |bytes l e tot=>
  obtain⟨rest,fz,rfl,_,_⟩:=hb
  obtain⟨hlt,hK⟩:=gd_out h
  have hlt:=blt_lt hlt
  refine⟨_,_,_,_,byteV (l.getD off 0),rfl,?_,.lit,hK⟩
  rw[List.getElem?_toArray,List.getElem?_append_left (by simpa using hlt)]
  simp[List.getD,hlt]
 |rbytes r e tot=>exact h.elim
 |fam f n us xs e tot=>
  obtain⟨vs,ys,rest,rfl,hn,hv,hx,_⟩:=hb
  have key:Nat.blt off n=true->iteK 8 (famAt f us off) K->∃c e' fz a v,(Obj.cells (vs++ys++rest).toArray e (0,0))=.cells c e' fz/\c[off]?=some v/\Den ι a v/\K a:=fun hlt hK=>by
   have hlt:=blt_lt hlt
   have hlt':off<vs.length:=by omega
   obtain⟨a,hden,hK⟩:=iteK_out hK (hv off vs[off] (List.getElem?_eq_getElem hlt'))
   refine⟨_,_,_,a,_,rfl,?_,hden,hK⟩
   rw[List.append_assoc]
   simp[List.getElem?_append_left hlt',hlt']
  simp only[rd] at h
  split at h
  ·rename_i v
   rcases br_out h with⟨hlt,hK⟩|⟨_,h⟩
   ·exact key hlt hK
   ·obtain⟨heq,hK⟩:=gd_out h
    have heq:=Nat.eq_of_beq_eq_true heq
    subst heq
    cases hx with
    |@cons _ u _ _ h1 h2=>
    cases h2
    obtain⟨a,hden,hK⟩:=iteK_out hK h1
    refine⟨_,_,_,a,u,rfl,?_,hden,hK⟩
    rw[List.append_assoc]
    simp[←hn]
  ·obtain⟨hlt,hK⟩:=gd_out h
   exact key hlt hK
 |famw f wd n xs e tot=>exact h.elim
 |map es c=>exact h.elim
 |siter l p=>exact h.elim
theorem rdN_ok {ι:Inj} {b:ABlk} {o:Obj} {off n:Nat} {K:List AVal->Prop} (hb:BDen ι b o) (h:rdN b off n K):
 ∃(c:Array Value) (e:TypeId) (fz:Nat×Nat) (a:List AVal),o=.cells c e fz/\off+n<=c.size/\DenL ι a ((c.toList.drop off).take n)/\K a:=by
 cases b with
 |row cs e tot=>
  obtain⟨vs,rest,rfl,hd,_⟩:=hb
  obtain⟨hle,hK⟩:=gd_out h
  have hle:=ble_le hle
  have hl:=hd.length
  refine⟨_,_,_,_,rfl,by simp;omega,?_,hK⟩
  have:((vs++rest).toArray.toList.drop off).take n=(vs.drop off).take n:=by
   simp only[List.drop_append]
   rw[List.take_append_of_le_length (by simp;omega)]
  rw[this]
  exact(hd.drop off).take n
 |_=>exact h.elim
theorem byte_of_int (n:Int) (h0:0<=n) (h1:n<256):byteV (UInt8.ofNat n.toNat)=.int .u8 n:=by
 unfold byteV
 congr 1
 simp
 omega
theorem wr_ok {P:Program} {ι:Inj} {b:ABlk} {o:Obj} {off:Nat} {vs:List AVal} {us:List Value} {K:ABlk->Prop} (hb:BDen ι b o) (hv:DenL ι vs us) (h:wr b off vs K) {w:World} {r:Nat} (hw:w.heap[r]?=some o):
 ∃b' o',K b'/\BDen ι b' o'/\(storeCells ⟨r,off,none⟩ us).run P w=.ok () (setBlk w r o'):=by
 cases b with
 |row cs e tot=>
  obtain⟨c,rest,rfl,hd,ht⟩:=hb
  obtain⟨hc,hK⟩:=gd_out h
  simp only[Bool.and_eq_true] at hc
  have hle:=ble_le hc.1
  have hl:=hd.length
  have hl':=hv.length
  refine⟨_,.cells (spliceV c off us++rest).toArray e (0,0),hK,⟨spliceV c off us,rest,rfl,hd.splice off hv,by rw[spliceV_length];exact ht⟩,?_⟩
  have:=run_storeCells (P:=P) (off:=off) (e:=e) (fz:=(0,0)) us 0 w (c++rest) hw (by simp;omega) (fun k _ _ hh=>by simp at hh) (hv.one hc.2)
  rw[this]
  rw[Nat.add_zero,spliceV_append c rest off us (by omega)]
 |bytes l e tot=>
  obtain⟨rest,fz,rfl,ht,hfz⟩:=hb
  simp only[wr] at h
  split at h
  ·rename_i n
   have key:Nat.blt off l.length=true->(decide (0<=n)&&decide (n<256))=true->K (.bytes (l.set off (UInt8.ofNat n.toNat)) e tot)->∃b' o',K b'/\BDen ι b' o'/\(storeCells ⟨r,off,none⟩ us).run P w=.ok () (setBlk w r o'):=fun hlt hc hK=>by
    simp only[Bool.and_eq_true,decide_eq_true_eq] at hc
    have hlt:=blt_lt hlt
    have hc:True/\0<=n/\n<256:=⟨trivial,hc⟩
    cases hv with
    |cons hx hs=>
     cases hx
     cases hs
     refine⟨_,.cells ((l.set off (UInt8.ofNat n.toNat)).map byteV++rest).toArray e fz,hK,⟨rest,fz,rfl,by simpa using ht,fun k hk=>hfz k (by simpa using hk)⟩,?_⟩
     have:=run_storeCells (P:=P) (off:=off) (e:=e) (fz:=fz) [.int .u8 n] 0 w (l.map byteV++rest) hw (by simp;omega) (fun k h1 h2=>hfz k (by simp only[List.length_cons,List.length_nil] at h2;omega)) (by intro x hx;simp at hx;subst hx;rfl)
     rw[this]
     have hsp:spliceV (l.map byteV++rest) (off+0) [.int .u8 n]=(l.set off (UInt8.ofNat n.toNat)).map byteV++rest:=by
      rw[spliceV_set _ _ _ _ (by simp;omega),spliceV_nil,Nat.add_zero,List.set_append_left _ _ (by simpa using hlt),List.map_set,byte_of_int n hc.2.1 hc.2.2]
     rw[hsp]
   split at h
   ·rename_i m
    rcases br_out h with⟨hlt,h⟩|⟨_,h⟩
    ·obtain⟨hc,hK⟩:=gd_out h
     exact key hlt hc hK
    ·obtain⟨hc,hK⟩:=gd_out h
     simp only[Bool.and_eq_true,decide_eq_true_eq] at hc
     have heq:=Nat.eq_of_beq_eq_true hc.1
     have hm:=blt_lt hc.2.1
     have ht:m<=l.length+rest.length:=ht
     subst heq
     cases hv with
     |cons hx hs=>
     cases hx
     cases hs
     cases rest with
     |nil=>simp at ht;omega
     |cons y rest=>
     refine⟨_,.cells ((l++[UInt8.ofNat n.toNat]).map byteV++rest).toArray e fz,hK,⟨rest,fz,rfl,by show m<=_;simp at ht⊢;omega,fun k hk=>hfz k (by simp at hk⊢;omega)⟩,?_⟩
     have:=run_storeCells (P:=P) (off:=l.length) (e:=e) (fz:=fz) [.int .u8 n] 0 w (l.map byteV++y::rest) hw (by simp) (fun k h1 h2=>hfz k (by simp only[List.length_cons,List.length_nil] at h2⊢;omega)) (by intro x hx;simp at hx;subst hx;rfl)
     rw[this]
     have hsp:spliceV (l.map byteV++y::rest) (l.length+0) [.int .u8 n]=(l++[UInt8.ofNat n.toNat]).map byteV++rest:=by
      rw[spliceV_set _ _ _ _ (by simp),spliceV_nil,Nat.add_zero,List.set_append_right _ _ (by simp)]
      simp[byte_of_int n hc.2.2.1 hc.2.2.2]
     rw[hsp]
   ·obtain⟨hc,hK⟩:=gd_out h
    simp only[Bool.and_eq_true] at hc
    exact key hc.1 (by simp only[Bool.and_eq_true];exact hc.2) hK
  ·exact h.elim
 |rbytes r e tot=>exact h.elim
 |fam f n us xs e tot=>
  obtain⟨c,ys,rest,rfl,hn,hcv,hx,ht⟩:=hb
  simp only[wr] at h
  split at h
  ·rename_i v
   cases hv with
   |@cons _ u _ _ h1 h2=>
   cases h2
   have h2:DenL ι [v] [u]:=.cons h1 .nil
   have key:Nat.blt off n=true->oneA v=true->K (.fam f n ((off,v)::us) xs e tot)->∃b' o',K b'/\BDen ι b' o'/\(storeCells ⟨r,off,none⟩ [u]).run P w=.ok () (setBlk w r o'):=fun hlt hc hK=>by
    have hlt:=blt_lt hlt
    have hc:True/\oneA v=true:=⟨trivial,hc⟩
    refine⟨_,.cells (c.set off u++ys++rest).toArray e (0,0),hK,⟨c.set off u,ys,rest,rfl,by simpa using hn,fun k x hk=>?_,hx,by simpa using ht⟩,?_⟩
    ·simp only[famAt]
     by_cases e:k=off
     ·subst e
      have hlt':k<c.length:=by omega
      simp[hlt'] at hk
      subst hk
      exact .ite (fun _=>h1) (fun h=>by rw[Nat.beq_refl] at h;cases h)
     ·rw[List.getElem?_set_ne (by omega)] at hk
      exact .ite (fun h=>absurd (Nat.eq_of_beq_eq_true h) e) (fun _=>hcv k x hk)
    ·have:=run_storeCells (P:=P) (off:=off) (e:=e) (fz:=(0,0)) [u] 0 w (c++ys++rest) hw (by simp;omega) (fun k _ _ hh=>by simp at hh) (h2.one (by simpa using hc.2))
     rw[this]
     have e2:spliceV (c++ys++rest) (off+0) [u]=c.set off u++ys++rest:=by
      rw[spliceV_set _ _ _ _ (by simp;omega),spliceV_nil,Nat.add_zero]
      rw[List.append_assoc,List.set_append_left _ _ (by omega),List.append_assoc]
     rw[e2]
   split at h
   ·rename_i y0
    obtain⟨hc,h⟩:=gd_out h
    rcases br_out h with⟨hlt,hK⟩|⟨_,h⟩
    ·exact key hlt hc hK
    ·obtain⟨heq,hK⟩:=gd_out h
     have heq:=Nat.eq_of_beq_eq_true heq
     cases hx with
     |@cons _ y _ _ hy1 hy2=>
     cases hy2
     refine⟨_,.cells (c++[u]++rest).toArray e (0,0),hK,⟨c,[u],rest,rfl,hn,hcv,h2,by simpa using ht⟩,?_⟩
     have:=run_storeCells (P:=P) (off:=off) (e:=e) (fz:=(0,0)) [u] 0 w (c++[y]++rest) hw (by simp;omega) (fun k _ _ hh=>by simp at hh) (h2.one (by simpa using hc))
     rw[this]
     have e2:spliceV (c++[y]++rest) (off+0) [u]=c++[u]++rest:=by
      rw[spliceV_set _ _ _ _ (by simp;omega),spliceV_nil,Nat.add_zero]
      rw[List.append_assoc,List.set_append_right _ _ (by omega),List.append_assoc]
      have:off-c.length=0:=by omega
      rw[this];rfl
     rw[e2]
   ·obtain⟨hc,hK⟩:=gd_out h
    simp only[Bool.and_eq_true] at hc
    exact key hc.1 hc.2 hK
  ·exact h.elim
 |famw f wd n xs e tot=>exact h.elim
 |map es c=>exact h.elim
 |siter l p=>exact h.elim
end Go.Sx
