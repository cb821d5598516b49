/- A part of the proof of this claim: lemmas of its own; what is proved, and on what conditions, the last text says. -/
import Derived.Test.YtfpckklhljbelaaGreatDoorSx2
set_option linter.all false
namespace Go.Sx
open Go
variable [Syms]

section
variable {P : Program} {w0 w : World} {F0 : Fp} {ι : Inj} {H : AHeap}

theorem run_underlying {t : TypeId} {d : TypeDesc} (h : P.underlying t = some d) : (underlying t).run P w = .ok d w := by simp [underlying, h]
theorem run_typeInfo {t : TypeId} {i : TypeInfo} (h : P.info? t = some i) : (typeInfo t).run P w = .ok i w := by simp [typeInfo, h]
theorem run_sizeOf {t : TypeId} {n : Nat} (h : (P.info? t).map (·.size) = some n) : (sizeOf t).run P w = .ok n w := by
  cases hi : P.info? t with
  | none => rw [hi] at h; cases h
  | some i => rw [hi] at h; simp at h; simp [sizeOf, run_typeInfo hi, h]
theorem run_zero {t : TypeId} {z : Value} (h : (P.info? t).bind (·.zero) = some z) : (zeroValue t).run P w = .ok z w := by
  cases hi : P.info? t with
  | none => rw [hi] at h; cases h
  | some i => rw [hi] at h; simp at h; simp [zeroValue, run_typeInfo hi, h]

def szA (P : Program) (t : TypeId) : Option Nat := (P.info? t).map (·.size)
def zeroA (P : Program) (t : TypeId) : Option Value := (P.info? t).bind (·.zero)
def bytesA (P : Program) (t : TypeId) : Option Nat := (P.info? t).map (·.bytes)

/-- A struct or an array: how many cells; else none. -/
def aggA (P : Program) (t : TypeId) : Option (Option Nat) :=
  match P.underlying t with
  | some (.struct _) => (szA P t).map some
  | some (.array _ _) => (szA P t).map some
  | some _ => some none
  | none => none
theorem aggA_some {t : TypeId} {n : Nat} (h : aggA P t = some (some n)) : (isAgg t).run P w = .ok true w ∧ (P.info? t).map (·.size) = some n := by
  unfold aggA at h
  split at h
  · rename_i fs hu
    cases hs : szA P t with
    | none => rw [hs] at h; cases h
    | some m => rw [hs] at h; simp at h; subst h; exact ⟨by simp [isAgg, run_underlying hu], hs⟩
  · rename_i k e hu
    cases hs : szA P t with
    | none => rw [hs] at h; cases h
    | some m => rw [hs] at h; simp at h; subst h; exact ⟨by simp [isAgg, run_underlying hu], hs⟩
  · cases h
  · cases h
theorem aggA_none {t : TypeId} (h : aggA P t = some none) : (isAgg t).run P w = .ok false w := by
  unfold aggA at h
  split at h
  · cases hs : szA P t with
    | none => rw [hs] at h; cases h
    | some m => rw [hs] at h; simp at h
  · cases hs : szA P t with
    | none => rw [hs] at h; cases h
    | some m => rw [hs] at h; simp at h
  · rename_i d h1 h2 hu
    simp only [isAgg, Sem.run_bind, run_underlying hu, Result.andThen_ok]
    cases d <;> first | rfl | exact (h1 _ hu).elim | exact (h2 _ _ hu).elim
  · cases h

/-! ### load, store -/
def loadA (P : Program) (t : TypeId) (a : AVal) (H : AHeap) (K : AVal → AHeap → Prop) : Prop :=
  match a with
  | .ptr id off => match H.get id with
    | some b => match aggA P t with
      | some (some n) => rdN b off n (fun vs => K (.agg vs) H)
      | some none => rd b off (fun v => K v H)
      | none => False
    | none => False
  | _ => False
theorem loadA_at {t : TypeId} {id off : Nat} {v : Value} {K : AVal → AHeap → Prop} (h : loadA P t (.ptr id off) H K) (hi : Inv w0 F0 ι H w) (hd : Den ι (.ptr id off) v) :
    ∃ x y r o b, ι id = some r ∧ H.get id = some b ∧ w.heap[r]? = some o ∧ (∀ w' : World, w'.heap[r]? = some o → (Instr.loadAt t v).run P w' = .ok y w') ∧ Den ι x y ∧ K x H := by
  cases hd with
  | ptr hr =>
    simp only [loadA] at h
    split at h
    · rename_i b hg
      obtain ⟨r, o, hr', ho, hb, _⟩ := hi.blk _ _ hg
      rw [hr] at hr'; cases hr'
      split at h
      · rename_i n ha
        obtain ⟨c, e, fz, as, rfl, hle, hden, hK⟩ := rdN_ok hb h
        refine ⟨_, _, _, _, b, hr, hg, ho, fun w' hw' => ?_, .agg hden, hK⟩
        have := aggA_some (w := w') ha
        simp only [Instr.loadAt, Instr.sureAddr, loadVar, Sem.run_bind, Sem.run_pure, Result.andThen_ok, this.1, Sem.run_ite, if_true, run_sizeOf this.2]
        rw [run_loadCells (w := w') hw' _ _ hle, Result.andThen_ok]
      · rename_i ha
        obtain ⟨c, e, fz, as, y, rfl, hy, hden, hK⟩ := rd_ok hb h
        refine ⟨_, _, _, _, b, hr, hg, ho, fun w' hw' => ?_, hden, hK⟩
        simp only [Instr.loadAt, Instr.sureAddr, loadVar, Sem.run_bind, Sem.run_pure, Result.andThen_ok, aggA_none ha, Sem.run_ite, Bool.false_eq_true, if_false, run_load, cell_at hw', hy]
      · exact h.elim
    · exact h.elim
theorem loadA_ro {t : TypeId} {a : AVal} {v : Value} {K : AVal → AHeap → Prop} (h : loadA P t a H K) (hi : Inv w0 F0 ι H w) (hd : Den ι a v) : ∃ x y, (∀ w' : World, w'.heap = w.heap → (Instr.loadAt t v).run P w' = .ok y w') ∧ Den ι x y ∧ K x H := by
  cases hd with
  | ptr hr =>
    simp only [loadA] at h
    split at h
    · rename_i b hg
      obtain ⟨r, o, hr', ho, hb, _⟩ := hi.blk _ _ hg
      rw [hr] at hr'; cases hr'
      split at h
      · rename_i n ha
        obtain ⟨c, e, fz, as, rfl, hle, hden, hK⟩ := rdN_ok hb h
        refine ⟨_, _, fun w' hw' => ?_, .agg hden, hK⟩
        have := aggA_some (w := w') ha
        simp only [Instr.loadAt, Instr.sureAddr, loadVar, Sem.run_bind, Sem.run_pure, Result.andThen_ok, this.1, Sem.run_ite, if_true, run_sizeOf this.2]
        rw [run_loadCells (w := w') (by rw [hw']; exact ho) _ _ hle, Result.andThen_ok]
      · rename_i ha
        obtain ⟨c, e, fz, as, y, rfl, hy, hden, hK⟩ := rd_ok hb h
        refine ⟨_, _, fun w' hw' => ?_, hden, hK⟩
        have ho' := ho
        rw [← hw'] at ho'
        simp only [Instr.loadAt, Instr.sureAddr, loadVar, Sem.run_bind, Sem.run_pure, Result.andThen_ok, aggA_none ha, Sem.run_ite, Bool.false_eq_true, if_false, run_load, cell_at ho', hy]
      · exact h.elim
    · exact h.elim
  | _ => exact h.elim
theorem loadA_ok {t : TypeId} {a : AVal} {v : Value} {K : AVal → AHeap → Prop} (h : loadA P t a H K) (hi : Inv w0 F0 ι H w) (hd : Den ι a v) : Ok w0 F0 ι K ((Instr.loadAt t v).run P w) := by
  obtain ⟨x, y, hrun, hden, hK⟩ := loadA_ro h hi hd
  rw [hrun w rfl]
  exact ⟨_, _, ι, hK, hden, Inj.le_refl _, hi⟩

def storeA (P : Program) (t : TypeId) (a v : AVal) (H : AHeap) (K : AHeap → Prop) : Prop :=
  match a with
  | .ptr id off => match H.get id with
    | some b => match szA P t with
      | some n => gd (nt v && (Nat.beq v.cells.length n && !H.isRo id)) (wr b off v.cells (fun b' => K (H.set id b')))
      | none => False
    | none => False
  | _ => False

def OkU (w0 : World) (F0 : Fp) (ι : Inj) (K : AHeap → Prop) : Result Unit → Prop
  | .ok _ w' => ∃ H' ι', K H' ∧ ι.le ι' ∧ Inv w0 F0 ι' H' w'
  | .halt _ _ => False

theorem storeA_ok {t : TypeId} {a b : AVal} {x y : Value} {K : AHeap → Prop} (h : storeA P t a b H K) (hi : Inv w0 F0 ι H w) (hd : Den ι a x) (hd' : Den ι b y) : OkU w0 F0 ι K ((Instr.storeAt t x y).run P w) := by
  cases hd with
  | ptr hr =>
    simp only [storeA] at h
    split at h
    · rename_i blk hg
      obtain ⟨r, o, hr', ho, hb, hf⟩ := hi.blk _ _ hg
      rw [hr] at hr'; cases hr'
      split at h
      · rename_i n hn
        obtain ⟨hc, hK⟩ := gd_out h
        simp only [Bool.and_eq_true, Bool.not_eq_true'] at hc
        obtain ⟨hnt, hc, hro⟩ := hc
        have hc := Nat.eq_of_beq_eq_true hc
        obtain ⟨b', o', hK, hb', hrun⟩ := wr_ok (P := P) hb (hd'.cells hnt) hK ho
        have hsz : y.cells.size = n := by have := (hd'.cells hnt).length; simp at this; omega
        simp only [Instr.storeAt, Instr.sureAddr, storeVar, Sem.run_bind, Sem.run_pure, Result.andThen_ok, run_sizeOf hn, hsz, ne_eq, not_true, if_false, hrun]
        exact ⟨_, ι, hK, Inj.le_refl _, hi.set hg hr hro hb' (setBlk_get ho) (fun k hk => setBlk_other hk) setBlk_size rfl rfl rfl⟩
      · exact h.elim
    · exact h.elim
  | _ => exact h.elim

/-! ### new blocks -/
def newA (e : TypeId) (cs : List AVal) (H : AHeap) (K : AVal → AHeap → Prop) : Prop := K (.ptr H.next 0) (H.new (.row cs e (.n cs.length)))
theorem run_newRow {e : TypeId} {vs : Array Value} : (newRow e vs).run P w = .ok ⟨w.heap.size, 0, none⟩ { w with heap := w.heap.push (.cells vs e) } := by
  simp [newRow]
theorem row_den {cs : List AVal} {vs : Array Value} {e : TypeId} (h : DenL ι cs vs.toList) : BDen ι (.row cs e (.n cs.length)) (.cells vs e (0, 0)) :=
  ⟨vs.toList, [], by simp, h, by show _ ≤ _; simp [h.length]⟩
theorem newA_ok {e : TypeId} {cs : List AVal} {vs : Array Value} {K : AVal → AHeap → Prop} (h : newA e cs H K) (hi : Inv w0 F0 ι H w) (hd : DenL ι cs vs.toList) :
    Ok w0 F0 ι K ((newRow e vs).run P w |>.andThen fun a w' => .ok (.pointer (some a)) w') := by
  rw [run_newRow]
  obtain ⟨ι', hle, hn, hinv⟩ := hi.new (row_den (e := e) hd)
  exact ⟨_, _, ι', h, .ptr hn, hle, hinv⟩

def allocA (P : Program) (e : TypeId) (H : AHeap) (K : AVal → AHeap → Prop) : Prop :=
  match zeroA P e with
  | some z => newA e (AVal.lit z).cells H K
  | none => False
theorem allocA_ok {e : TypeId} {K : AVal → AHeap → Prop} (h : allocA P e H K) (hi : Inv w0 F0 ι H w) : Ok w0 F0 ι K ((Instr.alloc e true (.tuple #[])).run P w) := by
  unfold allocA at h
  split at h
  · rename_i z hz
    have := newA_ok (P := P) h hi (Den.cells (Den.lit (ι := ι) (v := z)) rfl)
    simpa [Instr.alloc, run_zero hz, newVar] using this
  · exact h.elim
def boxA (e : TypeId) (v : AVal) (H : AHeap) (K : AVal → AHeap → Prop) : Prop := gd (nt v) (newA e v.cells H K)
theorem boxA_ok {e : TypeId} {a : AVal} {v : Value} {K : AVal → AHeap → Prop} (h : boxA e a H K) (hi : Inv w0 F0 ι H w) (hd : Den ι a v) : Ok w0 F0 ι K ((Instr.box e v).run P w) := by
  obtain ⟨hnt, h⟩ := gd_out h
  have := newA_ok (P := P) h hi (hd.cells hnt)
  simpa [Instr.box, newVar] using this

/-! ### struct values -/
def fillA (place : Nat → Option (Nat × Nat)) : List AVal → List (Nat × AVal) → Option (List AVal)
  | cells, [] => some cells
  | cells, (i, v) :: rest =>
    match place i with
    | none => none
    | some (off, size) => cond (nt v && (Nat.beq v.cells.length size && Nat.ble (off + v.cells.length) cells.length)) (fillA place (splice cells off v.cells) rest) none
inductive PartsDen (ι : Inj) : List (Nat × AVal) → List (Nat × Value) → Prop
  | nil : PartsDen ι [] []
  | cons {i : Nat} {a : AVal} {v : Value} {r : List (Nat × AVal)} {s : List (Nat × Value)} (h : Den ι a v) (hs : PartsDen ι r s) : PartsDen ι ((i, a) :: r) ((i, v) :: s)

theorem foldl_set (off : Nat) : ∀ (vs : List Value) (j : Nat) (cs : Array Value), off + j + vs.length ≤ cs.size →
    (vs.zipIdx j).foldl (fun cs (c, j) => cs.setIfInBounds (off + j) c) cs = (spliceV cs.toList (off + j) vs).toArray
  | [], j, cs, _ => by simp [spliceV_nil]
  | v :: vs, j, cs, h => by
    simp only [List.zipIdx_cons, List.foldl_cons]
    rw [foldl_set off vs (j + 1) _ (by simp at h ⊢; omega)]
    rw [spliceV_set _ _ _ _ (by simp at h ⊢; omega)]
    simp [Nat.add_assoc]
theorem fillA_ok (place : Nat → Option (Nat × Nat)) : ∀ {r s} (_ : PartsDen ι r s) {cells : List AVal} {cs : Array Value} (_ : DenL ι cells cs.toList) {out : List AVal}, fillA place cells r = some out →
    ∃ vs, Instr.fill place cs s = some vs ∧ DenL ι out vs.toList
  | _, _, .nil, cells, cs, hd, out, h => by simp [fillA] at h; subst h; exact ⟨cs, rfl, hd⟩
  | _, _, .cons (i := i) (a := a) (v := v) hv hs, cells, cs, hd, out, h => by
    simp only [fillA] at h
    cases hp : place i with
    | none => rw [hp] at h; cases h
    | some x =>
      obtain ⟨off, size⟩ := x
      rw [hp] at h
      simp only at h
      cases hc : (nt a && (Nat.beq a.cells.length size && Nat.ble (off + a.cells.length) cells.length)) with
      | false => rw [hc] at h; cases h
      | true =>
        rw [hc] at h
        simp only [cond_true] at h
        simp only [Bool.and_eq_true] at hc
        obtain ⟨hnt, hc⟩ := hc
        have h1 := Nat.eq_of_beq_eq_true hc.1
        have h2 := ble_le hc.2
        have hl := (hv.cells hnt).length
        have hl' := hd.length
        simp at hl hl'
        have hsp := hd.splice off (hv.cells hnt)
        obtain ⟨vs, hf, hden⟩ := fillA_ok place hs (cs := (spliceV cs.toList off v.cells.toList).toArray) (by simpa using hsp) h
        refine ⟨vs, ?_, hden⟩
        simp only [Instr.fill, hp]
        have c1 : (decide (v.cells.size ≠ size) || decide (off + v.cells.size > cs.size)) = false := by simp; omega
        have c2 : ¬ (decide (v.cells.size ≠ size) || decide (off + v.cells.size > cs.size)) = true := by rw [c1]; simp
        rw [if_neg (by simpa using c2)]
        have := foldl_set off v.cells.toList 0 cs (by simp; omega)
        rw [Nat.add_zero] at this
        rw [← hf, ← this]
        congr 1
        rw [← Array.toList_zipIdx, ← Array.foldl_toList]

def placesA (P : Program) : List Field → Option (List (Nat × Nat))
  | [] => some []
  | f :: r => match szA P f.type with
    | some n => match placesA P r with
      | some l => some ((f.offset, n) :: l)
      | none => none
    | none => none
theorem placesA_ok : ∀ (l : List Field) {out : List (Nat × Nat)}, placesA P l = some out →
    (l.mapM (fun f => do pure (f.offset, ← sizeOf f.type) : Field → Sem (Nat × Nat))).run P w = .ok out w
  | [], out, h => by simp [placesA] at h; subst h; rfl
  | f :: r, out, h => by
    simp only [placesA] at h
    cases hs : szA P f.type with
    | none => rw [hs] at h; cases h
    | some n =>
      rw [hs] at h
      cases hr : placesA P r with
      | none => rw [hr] at h; cases h
      | some l =>
        rw [hr] at h
        simp at h; subst h
        have := placesA_ok r hr
        simp only [List.mapM_cons, Sem.run_bind, run_sizeOf hs, Result.andThen_ok, Sem.run_pure, this]

def buildA (P : Program) (t : TypeId) (parts : List (Nat × AVal)) (K : AVal → Prop) : Prop :=
  match zeroA P t, P.underlying t with
  | some z, some (.struct fs) => match placesA P fs.toList with
    | some pl => match fillA (fun i => nthA pl i) (AVal.lit z).cells parts with
      | some cs => K (.agg cs)
      | none => False
    | none => False
  | _, _ => False
theorem buildA_ok {t : TypeId} {parts : List (Nat × AVal)} {ps : Array (Nat × Value)} {K : AVal → AHeap → Prop} (h : buildA P t parts (fun v => K v H)) (hi : Inv w0 F0 ι H w) (hd : PartsDen ι parts ps.toList) : Ok w0 F0 ι K ((Instr.build t ps).run P w) := by
  unfold buildA at h
  split at h
  · rename_i z fs hz hu
    split at h
    · rename_i pl hpl
      split at h
      · rename_i cs hcs
        obtain ⟨vs, hf, hden⟩ := fillA_ok (ι := ι) (fun i => nthA pl i) hd (Den.cells (Den.lit (ι := ι) (v := z)) rfl) hcs
        have hf' : Instr.fill (fun i => pl.toArray[i]?) z.cells ps.toList = some vs := by
          rw [← hf]; congr 1; funext i; rw [nthA_eq]; simp
        have hpl' := placesA_ok (w := w) fs.toList hpl
        have hm : (fs.mapM (fun f => do pure (f.offset, ← sizeOf f.type) : Field → Sem (Nat × Nat))).run P w = .ok pl.toArray w := by
          rw [Array.mapM_eq_mapM_toList]
          simp only [Sem.run_map, hpl', Result.andThen_ok]
        simp only [Instr.build, Sem.run_bind, run_zero hz, Result.andThen_ok, run_underlying hu, hm, hf']
        exact ⟨_, _, ι, h, .agg hden, Inj.le_refl _, hi⟩
      · exact h.elim
    · exact h.elim
  · exact h.elim

end
end Go.Sx
