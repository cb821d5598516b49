/- A part of the proof of this claim: lemmas of its own; what is proved, and on what conditions, the last text says. -/
import Derived.Test.YtfpckklhljbelaaGreatDoorPre
import Derived.Test.YtfpckklhljbelaaGreatDoorProg
import Derived.Shelf.Spec.DecodeRune
set_option linter.all false
open Go Go.Sx Go.Proofs
namespace T
variable [Syms]

theorem Inv.below {w0 w w' : World} {F0 : Fp} {ι : Inj} {H : AHeap} (hi : Inv w0 F0 ι H w) (h : RowKit.Below w.heap.size w w') : Inv w0 F0 ι H w' := by
  refine ⟨fun id b hg => ?_, hi.inj, hi.fresh, fun r hr hf => ?_, Nat.le_trans hi.size h.size, h.tape.trans hi.tape, h.os.trans hi.os, h.output.trans hi.output, hi.glob⟩
  · obtain ⟨r, o, hr, ho, hb, hF⟩ := hi.blk id b hg
    refine ⟨r, o, hr, ?_, hb, hF⟩
    have hlt : r < w.heap.size := by
      rcases Nat.lt_or_ge r w.heap.size with h' | h'
      · exact h'
      · rw [Array.getElem?_eq_none h'] at ho; cases ho
    rw [h.block r hlt]
    exact ho
  · rw [h.block r (Nat.lt_of_lt_of_le hr hi.size)]
    exact hi.frame r hr hf

def decS : RetS where
  A := List UInt8 × Nat
  dec := fun args H => match args with
    | [.slc id off _ _] => match H.get id with
      | some (.bytes l _ _) => some (l, off)
      | _ => none
    | _ => none
  dom := fun a => a.2 < a.1.length
  args1 := fun a => [.slc 0 a.2 (a.1.length - a.2) .x]
  blks1 := fun a => [(0, .bytes a.1 5 (.n 0))]
  next1 := 1
  ros1 := [0]
  X := Int
  G := fun a r => ∀ b, a.1[a.2]? = some b → (b.toNat < 128 → r = b.toNat) ∧ (128 ≤ b.toNat → 128 ≤ r)
  val := fun r => .tup [.lit (.int .i32 r), .top]
theorem decode_fact (l : List UInt8) (b : UInt8) (r : List UInt8) (h : l = b :: r) : ((b.toNat < 128 → ((Lib.decodeGo ⟨l.toArray⟩).1 : Int) = b.toNat) ∧ (128 ≤ b.toNat → 128 ≤ ((Lib.decodeGo ⟨l.toArray⟩).1 : Int))) := by
  subst h
  have hs : (⟨(b :: r).toArray⟩ : ByteArray).size = r.length + 1 := by simp [ByteArray.size]
  have h0 : 0 < (⟨(b :: r).toArray⟩ : ByteArray).size := by omega
  have hb : (⟨(b :: r).toArray⟩ : ByteArray)[0]'h0 = b := rfl
  have hd : Lib.decodeGo ⟨(b :: r).toArray⟩ = Utf8.decode ⟨(b :: r).toArray⟩ 0 := by
    unfold Lib.decodeGo
    rw [if_neg (by omega)]
  rw [hd]
  refine ⟨fun hlt => ?_, fun hge => ?_⟩
  · rw [decode_ascii _ 0 h0 (by rw [hb]; exact hlt), hb]
  · have := (decode_high _ 0 h0 (by rw [hb]; exact hge)).1
    omega
set_option maxRecDepth 100000 in
theorem dec_spec (hU : ∀ w : World, Syms.good w → Lib.Utf8Tabs 0 1 w) {ρ : Shelf.Ren} (L : Lays7.n32 Tryz.prog ρ) (e1 : ρ.f 32 = 28) (e2 : ρ.g 2 = 0) (e3 : ρ.g 3 = 1) : SpecOk Tryz.prog 28 decS.spec := by
  refine retS_ok ⟨Tryz.f28, by kernel_rfl, rfl, by kernel_rfl⟩ (fun _ => rfl) ?_
  rintro ⟨l, off⟩ hdom w0 F0 ι w vs hi hd
  have hdom : off < l.length := hdom
  cases hd with
  | cons h1 h2 =>
  cases h2
  cases h1 with
  | slc hr hl ho hc =>
  rename_i off' b c
  have hl : l.length - off ≤ c := hl
  have ho' : off' = off := by
    rcases ho with ho | ho
    · exact ho
    · omega
  subst ho'
  obtain ⟨r', o, hr', hob, ⟨rest, fz, rfl, _, _⟩, _⟩ := hi.blk 0 (.bytes l 5 (.n 0)) (by rfl)
  rw [hr] at hr'; cases hr'
  have hs : (⟨(l.drop off').toArray⟩ : ByteArray).size = l.length - off' := by simp [ByteArray.size]
  have hT := hU w hi.good
  have key := Any7.utf8_DecodeRune L (⟨(l.drop off').toArray⟩ : ByteArray) b off' c w (by rw [e2, e3]; exact hT) (fun j hj => by
    rw [hs] at hj
    rw [cell_at hob]
    have hlt : off' + j < l.length := by omega
    have hg : (⟨(l.drop off').toArray⟩ : ByteArray).get! j = l[off' + j] := by
      have : j < (⟨(l.drop off').toArray⟩ : ByteArray).size := by omega
      show (l.drop off').toArray[j]! = _
      have h3 : j < (l.drop off').length := by simp; omega
      simp [List.getElem?_eq_getElem hlt]
    rw [hg]
    have h4 : off' + j < (l.map byteV).length := by simpa using hlt
    simp [List.getElem?_append_left h4, hlt, byteV])
  rw [e1, hs] at key
  refine Calls.mono key fun e w' he => ?_
  obtain ⟨rfl, hbel⟩ := he
  refine ⟨_, _, ι, ⟨_, fun x hx => ?_, rfl⟩, .tup (.cons .lit (.cons .top .nil)), noι_le _, Inv.below hi hbel⟩
  have hx' : l.drop off' = x :: l.drop (off' + 1) := by
    obtain ⟨hlt, he⟩ := List.getElem?_eq_some_iff.1 hx
    rw [List.drop_eq_getElem_cons hlt, he]
  exact decode_fact _ x _ hx'
end T
