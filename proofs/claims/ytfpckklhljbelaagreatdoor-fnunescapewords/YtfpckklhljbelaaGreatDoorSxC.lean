/- A part of the proof of this claim: lemmas of its own; what is proved, and on what conditions, the last text says. -/
import Derived.Test.YtfpckklhljbelaaGreatDoorSxB
set_option linter.all false
namespace Go.Sx
open Go
variable [Syms]

section
variable {P : Program} {w0 w : World} {F0 : Fp} {ι : Inj} {H : AHeap}

/-! ### ranging over a string -/
def rangeA (P : Program) (t : TypeId) (x : AVal) (H : AHeap) (K : AVal → AHeap → Prop) : Prop :=
  match P.underlying t, x with
  | some .string, .str l => K (.ptr H.next 0) (H.new (.siter l 0))
  | _, _ => False
theorem range_ok {t : TypeId} {x : AVal} {a : Value} {K : AVal → AHeap → Prop} (h : rangeA P t x H K) (hi : Inv w0 F0 ι H w) (hx : Den ι x a) : Ok w0 F0 ι K ((Instr.range t a).run P w) := by
  unfold rangeA at h
  split at h
  · rename_i l hu
    cases hx
    obtain ⟨ι', hle, hn, hinv⟩ := hi.new (b := .siter l 0) (o := .stringIter ⟨l.toArray⟩ 0) rfl
    have hrun : (Instr.range t (.string ⟨l.toArray⟩)).run P w = .ok (.pointer (some ⟨w.heap.size, 0, none⟩)) { w with heap := w.heap.push (.stringIter ⟨l.toArray⟩ 0) } := by
      simp only [Instr.range, Sem.run_bind, run_underlying hu, Result.andThen_ok, Sem.run_pure, run_newObj]
    rw [hrun]
    exact ⟨_, _, ι', h, .ptr hn, hle, hinv⟩
  · exact h.elim

def nextA (x : AVal) (s : Bool) (H : AHeap) (K : AVal → AHeap → Prop) : Prop :=
  match x, s with
  | .ptr id 0, true => match H.get id with
    | some (.siter l pos) => gd (!H.isRo id) <| br (Nat.blt pos l.length)
      (K (.tup [.lit (.bool true), .lit (.int .i64 pos), .lit (.int .i32 (Utf8.decode ⟨l.toArray⟩ pos).1)]) (H.set id (.siter l (pos + (Utf8.decode ⟨l.toArray⟩ pos).2))))
      (K (.tup [.lit (.bool false)]) H)
    | _ => False
  | _, _ => False
theorem next_ok {x : AVal} {a : Value} {s : Bool} {t : TypeId} {K : AVal → AHeap → Prop} (h : nextA x s H K) (hi : Inv w0 F0 ι H w) (hx : Den ι x a) : Ok w0 F0 ι K ((Instr.next a s t).run P w) := by
  unfold nextA at h
  split at h
  · rename_i id
    cases hx with
    | @ptr _ _ r hr =>
    split at h
    · rename_i l pos hg
      obtain ⟨r', o, hr', ho, hb, _⟩ := hi.blk _ _ hg
      rw [hr] at hr'; cases hr'
      have hb : o = .stringIter ⟨l.toArray⟩ pos := hb
      subst hb
      have hsz : (⟨l.toArray⟩ : ByteArray).size = l.length := by simp [ByteArray.size]
      have hget : (getObj r).run P w = .ok (.stringIter ⟨l.toArray⟩ pos) w := by simp [getObj, Sem.run, ho]
      obtain ⟨hro, h⟩ := gd_out h
      simp only [Bool.not_eq_true'] at hro
      rcases br_out h with ⟨hc, hK⟩ | ⟨hc, hK⟩
      · have hlt := blt_lt hc
        have hset : ∀ o', (setObj r o').run P w = .ok () (setBlk w r o') := fun o' => by simp [setObj, Sem.run, ho, setBlk]
        have hrun : (Instr.next (.pointer (some ⟨r, 0, none⟩)) true t).run P w = .ok (.tuple #[.bool true, .int .i64 pos, .int .i32 (Utf8.decode ⟨l.toArray⟩ pos).1]) (setBlk w r (.stringIter ⟨l.toArray⟩ (pos + (Utf8.decode ⟨l.toArray⟩ pos).2))) := by
          simp only [Instr.next, Sem.run_bind, hget, Result.andThen_ok, hsz, hlt, if_true, hset, Sem.run_pure, goInt]
        rw [hrun]
        exact ⟨_, _, ι, hK, .tup (.cons .lit (.cons .lit (.cons .lit .nil))), Inj.le_refl _, hi.set (b' := .siter l (pos + (Utf8.decode ⟨l.toArray⟩ pos).2)) (o' := .stringIter ⟨l.toArray⟩ (pos + (Utf8.decode ⟨l.toArray⟩ pos).2)) hg hr hro rfl (setBlk_get ho) (fun k hk => setBlk_other hk) setBlk_size rfl rfl rfl⟩
      · have hge : ¬ pos < l.length := fun hlt => by
          have : Nat.blt pos l.length = true := Nat.ble_eq_true_of_le hlt
          rw [this] at hc; cases hc
        have hrun : (Instr.next (.pointer (some ⟨r, 0, none⟩)) true t).run P w = .ok (.tuple #[.bool false]) w := by
          simp only [Instr.next, Sem.run_bind, hget, Result.andThen_ok, hsz, hge, if_false, Sem.run_pure]
        rw [hrun]
        exact ⟨_, _, ι, hK, .tup (.cons .lit .nil), Inj.le_refl _, hi⟩
    · exact h.elim
  · exact h.elim

/-! ### nil checks -/
def aheadA (P : Program) (t : TypeId) (v : AVal) (name : String) : Bool :=
  match P.info? t with
  | some i => match findM name i.methods.toList with
    | some m => match m.path.toList, m.func with
      | [], some (_, true) => true
      | [], some (_, false) => match P.underlying t, v with
        | some (.pointer _), .ptr _ _ => true
        | some (.pointer _), _ => false
        | some _, _ => true
        | none, _ => false
      | _, _ => false
    | none => false
  | none => false
theorem ahead_ok {t : TypeId} {a : AVal} {v : Value} {name : String} (h : aheadA P t a name = true) (hv : Den ι a v) (n : Nat) : (nilAhead (n + 1) t v name).run P w = .ok (some false) w := by
  unfold aheadA at h
  split at h
  · rename_i i hinf
    split at h
    · rename_i m hm
      have hm' : i.methods.find? (·.name == name) = some m := by
        rw [findM_eq] at hm
        rw [← Array.find?_toList]
        exact hm
      split at h
      · rename_i f hp hf
        simp only [nilAhead, Sem.run_bind, run_typeInfo hinf, Result.andThen_ok, hm', hp, followBlind, Sem.run_pure, hf]
      · rename_i f hp hf
        simp only [nilAhead, Sem.run_bind, run_typeInfo hinf, Result.andThen_ok, hm', hp, followBlind, Sem.run_pure, hf]
        split at h
        · rename_i e hu
          cases hv
          simp only [run_underlying hu, Result.andThen_ok, Sem.run_pure]
        · cases h
        · rename_i d hd hu _
          simp only [run_underlying hu, Result.andThen_ok]
          cases d <;> first | rfl | exact (hd _ rfl).elim
        · cases h
      · cases h
    · cases h
  · cases h


def nilA (P : Program) (x : AVal) (K : AVal → Prop) : Prop :=
  match x with
  | .ptr id off => K (.ptr id off)
  | .slc a b c d => K (.slc a b c d)
  | .rsl a b c d => K (.rsl a b c d)
  | .map m => K (.map m)
  | .ifc t v => K (.ifc t v)
  | .fn (.func f) a b => K (.fn (.func f) a b)
  | .fn (.method name) (.ifc t v :: a) b => gd (aheadA P t v name) (K (.fn (.method name) (.ifc t v :: a) b))
  | _ => False

def nilOf (v : Value) : Sem Next :=
  match v with
  | .pointer none | .nilIface | .nilFunc => runtimePanic .nilDeref
  | .func (.method name) first captured =>
    match (first[0]? : Option Value) with
    | some .nilIface => runtimePanic .nilDeref
    | some (.iface t w) => do
      if (← nilAhead ((← program).types.size + Made.depth) t w name) != some false then
        unsupported (.noEntry "op/nilCheck.the method's receiver behind this interface value is a nil pointer, or cannot be seen to be none, and the arguments act or may panic (ledger 612)")
      pure (.value (.func (.method name) first captured))
    | _ => pure (.value (.func (.method name) first captured))
  | x => pure (.value x)

theorem nil_st {x : AVal} {a : Value} {K : AVal → Prop} (h : nilA P x K) (hx : Den ι x a) : ∃ y, (∀ w : World, (nilOf a).run P w = .ok (.value a) w) ∧ Den ι y a ∧ K y := by
  unfold nilA at h
  split at h
  · cases hx with | ptr hr => exact ⟨_, fun _ => rfl, .ptr hr, h⟩
  · cases hx with | slc hr hl ho hc => exact ⟨_, fun _ => rfl, .slc hr hl ho hc, h⟩
  · cases hx with | rsl hr hl ho hc => exact ⟨_, fun _ => rfl, .rsl hr hl ho hc, h⟩
  · cases hx with | map hr => exact ⟨_, fun _ => rfl, .map hr, h⟩
  · cases hx with | ifc hr => exact ⟨_, fun _ => rfl, .ifc hr, h⟩
  · cases hx with | fn hr hr' => exact ⟨_, fun _ => rfl, .fn hr hr', h⟩
  · rename_i name t v as b
    obtain ⟨hc, hK⟩ := gd_out h
    cases hx with
    | fn hr hr' =>
    cases hr with
    | cons h1 h2 =>
    cases h1 with
    | @ifc _ _ y h1 =>
    rename_i ys xs
    refine ⟨_, fun w => ?_, .fn (.cons (.ifc h1) h2) hr', hK⟩
    have hd : P.types.size + Made.depth = (P.types.size + 99) + 1 := rfl
    have ha := ahead_ok (w := w) hc h1 (P.types.size + 99)
    have e0 : (Value.iface t y :: xs).toArray[0]? = some (.iface t y) := by simp
    simp only [nilOf, e0, Sem.run_bind, run_program, Result.andThen_ok, hd, ha]
    rfl
  · exact h.elim
theorem nil_ok {x : AVal} {a : Value} {K : AVal → AHeap → Prop} (h : nilA P x (fun v => K v H)) (_hi : Inv w0 F0 ι H w) (hx : Den ι x a) : ∃ y, (nilOf a).run P w = .ok (.value a) w ∧ Den ι y a ∧ K y H :=
  let ⟨y, hr, hd, hK⟩ := nil_st h hx
  ⟨y, hr w, hd, hK⟩

end
end Go.Sx
