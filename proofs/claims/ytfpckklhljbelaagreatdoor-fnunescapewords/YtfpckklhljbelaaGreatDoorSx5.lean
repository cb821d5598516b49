/- A part of the proof of this claim: lemmas of its own; what is proved, and on what conditions, the last text says. -/
import Derived.Test.YtfpckklhljbelaaGreatDoorSx4
set_option linter.all false
namespace Go.Sx
open Go
variable [Syms]

def eqL : List UInt8 → List UInt8 → Bool
  | [], [] => true
  | a :: x, b :: y => cond (Nat.beq a.toNat b.toNat) (eqL x y) false
  | _, _ => false
theorem eqL_eq (a b : List UInt8) : eqL a b = (a == b) := by
  induction a generalizing b with
  | nil => cases b <;> simp [eqL]
  | cons x xs ih =>
    cases b with
    | nil => simp [eqL]
    | cons y ys =>
      simp only [eqL, ih, List.cons_beq_cons]
      by_cases h : x = y
      · subst h; simp [beq_self]
      · have : x.toNat ≠ y.toNat := fun e => h (UInt8.toNat_inj.1 e)
        simp [beq_false this, h]

section
variable {P : Program} {w0 w : World} {F0 : Fp} {ι : Inj} {H : AHeap}

theorem toList_mk (l : List UInt8) : (⟨l.toArray⟩ : ByteArray).toList = l := by rw [ByteArray.toList_eq]

theorem beq_str (a b : List UInt8) : ((⟨a.toArray⟩ : ByteArray) == ⟨b.toArray⟩) = (a == b) := by
  rw [beq_toListBytes, toList_mk, toList_mk]

def bitsV (op : BinOp) (k : IntKind) (x y : Int) : Value :=
  let a := BitVec.ofInt k.bits x
  let b := BitVec.ofInt k.bits y
  match op with
  | .and => .int k (k.wrap (a &&& b).toNat)
  | .or => .int k (k.wrap (a ||| b).toNat)
  | .xor => .int k (k.wrap (a ^^^ b).toNat)
  | _ => .int k (k.wrap (a &&& ~~~b).toNat)
def intOpA (op : BinOp) (k : IntKind) (a b : Int) (K : AVal → Prop) : Prop :=
  match op with
  | .add => K (.lit (.int k (k.wrap (a + b))))
  | .sub => K (.lit (.int k (k.wrap (a - b))))
  | .mul => K (.lit (.int k (k.wrap (a * b))))
  | .quo => gd (!(b == 0)) (K (.lit (.int k (k.wrap (a.tdiv b)))))
  | .rem => gd (!(b == 0)) (K (.lit (.int k (a.tmod b))))
  | .and => K (.lit (bitsV .and k a b))
  | .or => K (.lit (bitsV .or k a b))
  | .xor => K (.lit (bitsV .xor k a b))
  | .andNot => K (.lit (bitsV .andNot k a b))
  | .eql => K (.lit (.bool (a == b)))
  | .neq => K (.lit (.bool (a != b)))
  | .lss => K (.lit (.bool (decide (a < b))))
  | .leq => K (.lit (.bool (decide (a ≤ b))))
  | .gtr => K (.lit (.bool (decide (a > b))))
  | .geq => K (.lit (.bool (decide (a ≥ b))))
  | _ => False
def strOpA (op : BinOp) (a b : List UInt8) (K : AVal → Prop) : Prop :=
  match op with
  | .add => gd (Nat.ble (a.length + b.length) 9223372036854775807) (K (.str (a ++ b)))
  | .eql => K (.lit (.bool (eqL a b)))
  | .neq => K (.lit (.bool (!eqL a b)))
  | .lss => K (.lit (.bool (Op.bytesLess a b)))
  | .leq => K (.lit (.bool (Op.bytesLess a b || eqL a b)))
  | .gtr => K (.lit (.bool (!(Op.bytesLess a b || eqL a b))))
  | .geq => K (.lit (.bool (!Op.bytesLess a b)))
  | _ => False

def optK (o : Option Bool) (K : Bool → Prop) : Prop := match o with
  | some b => K b
  | none => False
theorem optK_out {o : Option Bool} {K : Bool → Prop} (h : optK o K) : ∃ b, o = some b ∧ K b := by
  cases o with
  | none => exact h.elim
  | some b => exact ⟨b, rfl, h⟩

def rowA (H : AHeap) (i : Nat) : Bool := match H.get i with | some (.row ..) => true | _ => false

def eqA (P : Program) : Nat → TypeId → AVal → AVal → AHeap → Bool → (Bool → Prop) → Prop
  | 0, _, _, _, _, _, _ => False
  | n + 1, t, x, y, H, c, K =>
    match P.underlying t with
    | some .bool => match x, y with
      | .lit (.bool a), .lit (.bool b) => K (a == b)
      | _, _ => False
    | some (.int _) => match x, y with
      | .lit (.int k a), .lit (.int k' b) => gd (decide (k = k')) (K (a == b))
      | _, _ => False
    | some .string => match x, y with
      | .str a, .str b => K (eqL a b)
      | .rope a, .str b => optK (eqR a (litR b)) K
      | .str a, .rope b => optK (eqR (litR a) b) K
      | .rope a, .rope b => optK (eqR a b) K
      | _, _ => False
    | some (.pointer e) => match x, y with
      | .lit (.pointer none), .lit (.pointer none) => K true
      | .lit (.pointer none), .ptr _ _ => K false
      | .ptr _ _, .lit (.pointer none) => K false
      | .ptr i o, .ptr j o' => match szA P e with
        | some (_ + 1) => gd (rowA H i && rowA H j) (K (Nat.beq i j && Nat.beq o o'))
        | _ => False
      | _, _ => False
    | some (.interface _) => match x, y with
      | .lit .nilIface, .lit .nilIface => gd c (K true)
      | .lit .nilIface, .ifc _ _ => K false
      | .ifc _ _, .lit .nilIface => K false
      | .ifc tx vx, .ifc ty vy => cond (Nat.beq tx ty) (gd (((P.info? tx).map (·.comparable)).getD false) (eqA P n tx vx vy H false K)) (K false)
      | _, _ => False
    | some (.slice _) => match x, y with
      | .lit (.slice none _ _), .lit (.slice none _ _) => K true
      | .lit (.slice none _ _), .slc _ _ _ _ => K false
      | .slc _ _ _ _, .lit (.slice none _ _) => K false
      | .lit (.slice none _ _), .rsl _ _ _ _ => K false
      | .rsl _ _ _ _, .lit (.slice none _ _) => K false
      | _, _ => False
    | some (.map _ _) => match x, y with
      | .lit (.map none), .lit (.map none) => K true
      | .lit (.map none), .map _ => K false
      | .map _, .lit (.map none) => K false
      | _, _ => False
    | some (.func _ _ _) => match x, y with
      | .lit .nilFunc, .lit .nilFunc => K true
      | .lit .nilFunc, .fn _ _ _ => K false
      | .fn _ _ _, .lit .nilFunc => K false
      | _, _ => False
    | _ => False

theorem rowA_ok {i : Nat} (h : rowA H i = true) (hi : Inv w0 F0 ι H w) : ∃ cs e tot r vs, H.get i = some (.row cs e tot) ∧ ι i = some r ∧ w.heap[r]? = some (.cells vs e (0, 0)) := by
  unfold rowA at h
  split at h
  · rename_i cs e tot hg
    obtain ⟨r, o, hr, ho, hb, _⟩ := hi.blk _ _ hg
    obtain ⟨vs, rest, rfl, _⟩ := hb
    exact ⟨cs, e, tot, r, _, hg, hr, ho⟩
  · cases h

set_option maxHeartbeats 3200000 in
theorem eqA_ok : ∀ (n d : Nat) {t : TypeId} {x y : AVal} {a b : Value} {c : Bool} {K : Bool → Prop}, eqA P n t x y H c K → Inv w0 F0 ι H w → Den ι x a → Den ι y b → ∃ r, (Op.equalIn (d + n) t a b).run P w = .ok r w ∧ K r := by
  intro n
  induction n with
  | zero => intro d t x y a b c K h; exact h.elim
  | succ n ih =>
    intro d t x y a b c K h hi hx hy
    have e1 : d + (n + 1) = (d + n) + 1 := by omega
    rw [e1]
    simp only [eqA] at h
    split at h
    · rename_i hu
      split at h
      · cases hx; cases hy
        exact ⟨_, by simp [Op.equalIn, run_underlying hu], h⟩
      · exact h.elim
    · rename_i hu
      split at h
      · cases hx; cases hy
        obtain ⟨hk, hK⟩ := gd_out h
        simp only [decide_eq_true_eq] at hk
        exact ⟨_, by simp [Op.equalIn, run_underlying hu, hk], hK⟩
      · exact h.elim
    · rename_i hu
      split at h
      · cases hx; cases hy
        exact ⟨_, by simp [Op.equalIn, run_underlying hu, eqL_eq, beq_str], h⟩
      · cases hx; cases hy
        obtain ⟨b, hb, hK⟩ := optK_out h
        have hb := eqR_ok hb
        rw [flat_litR] at hb
        exact ⟨b, by simp [Op.equalIn, run_underlying hu, beq_str, hb], hK⟩
      · cases hx; cases hy
        obtain ⟨b, hb, hK⟩ := optK_out h
        have hb := eqR_ok hb
        rw [flat_litR] at hb
        exact ⟨b, by simp [Op.equalIn, run_underlying hu, beq_str, hb], hK⟩
      · cases hx; cases hy
        obtain ⟨b, hb, hK⟩ := optK_out h
        have hb := eqR_ok hb
        exact ⟨b, by simp [Op.equalIn, run_underlying hu, beq_str, hb], hK⟩
      · exact h.elim
    · rename_i e hu
      split at h
      · cases hx; cases hy
        exact ⟨_, by simp [Op.equalIn, run_underlying hu], h⟩
      · cases hx; cases hy
        exact ⟨_, by simp [Op.equalIn, run_underlying hu], h⟩
      · cases hx; cases hy
        exact ⟨_, by simp [Op.equalIn, run_underlying hu], h⟩
      · rename_i i o j o'
        cases hx with
        | ptr hr =>
        cases hy with
        | ptr hr' =>
        rename_i r1 r2
        split at h
        · rename_i m hs
          obtain ⟨hc, hK⟩ := gd_out h
          simp only [Bool.and_eq_true] at hc
          obtain ⟨cs, e1, t1, ra, va, hg1, hra, hwa⟩ := rowA_ok hc.1 hi
          obtain ⟨cs', e2, t2, rb, vb, hg2, hrb, hwb⟩ := rowA_ok hc.2 hi
          rw [hr] at hra; cases hra
          rw [hr'] at hrb; cases hrb
          refine ⟨_, ?_, hK⟩
          simp only [Op.equalIn, Sem.run_bind, run_underlying hu, Result.andThen_ok, run_sizeOf hs]
          rw [if_pos (by omega)]
          unfold sameAddr
          by_cases hij : i = j
          · subst hij
            rw [hr] at hr'; cases hr'
            by_cases ho : o = o'
            · subst ho; simp [beq_self]
            · simp [ho, beq_false ho]
          · have hne : r1 ≠ r2 := fun e => hij (hi.inj i j _ _ r1 hg1 hg2 hr (e ▸ hr'))
            have f1 : w.frozen? ⟨r1, o, none⟩ = false := by rw [frozen_at hwa]; simp
            have f2 : w.frozen? ⟨r2, o', none⟩ = false := by rw [frozen_at hwb]; simp
            have s1 : w.shape? r1 = some (e1, va.size) := by simp [World.shape?, hwa]
            have s2 : w.shape? r2 = some (e2, vb.size) := by simp [World.shape?, hwb]
            have g1 : w.frozen? { block := r1, off := va.size } = false := by rw [frozen_at hwa]; simp
            have g2 : w.frozen? { block := r2, off := vb.size } = false := by rw [frozen_at hwb]; simp
            simp [hne, f1, f2, noView, viewAt, s1, s2, mayBeOne, stringish, g1, g2, beq_false hij]
        · exact h.elim
      · exact h.elim
    · rename_i ms hu
      split at h
      · cases hx; cases hy
        exact ⟨_, by simp [Op.equalIn, run_underlying hu], (gd_out h).2⟩
      · cases hx; cases hy
        exact ⟨_, by simp [Op.equalIn, run_underlying hu], h⟩
      · cases hx; cases hy
        exact ⟨_, by simp [Op.equalIn, run_underlying hu], h⟩
      · rename_i tx vx ty vy
        cases hx with
        | ifc hx =>
        cases hy with
        | ifc hy =>
        by_cases htt : tx = ty
        · subst htt
          rw [beq_self] at h
          simp only [cond_true] at h
          obtain ⟨hc, hK⟩ := gd_out h
          cases hinfo : P.info? tx with
          | none => rw [hinfo] at hc; simp at hc
          | some info =>
            rw [hinfo] at hc
            simp at hc
            obtain ⟨r, hrun, hKr⟩ := ih d hK hi hx hy
            exact ⟨r, by simp [Op.equalIn, run_underlying hu, run_typeInfo hinfo, hc, hrun], hKr⟩
        · rw [beq_false htt] at h
          exact ⟨false, by simp [Op.equalIn, run_underlying hu, htt], h⟩
      · exact h.elim
    · rename_i e hu
      split at h
      · cases hx; cases hy
        exact ⟨_, by simp [Op.equalIn, run_underlying hu], h⟩
      · cases hx; cases hy
        exact ⟨_, by simp [Op.equalIn, run_underlying hu], h⟩
      · cases hx; cases hy
        exact ⟨_, by simp [Op.equalIn, run_underlying hu], h⟩
      · cases hx; cases hy
        exact ⟨_, by simp [Op.equalIn, run_underlying hu], h⟩
      · cases hx; cases hy
        exact ⟨_, by simp [Op.equalIn, run_underlying hu], h⟩
      · exact h.elim
    · rename_i k e hu
      split at h
      · cases hx; cases hy
        exact ⟨_, by simp [Op.equalIn, run_underlying hu], h⟩
      · cases hx; cases hy
        exact ⟨_, by simp [Op.equalIn, run_underlying hu], h⟩
      · cases hx; cases hy
        exact ⟨_, by simp [Op.equalIn, run_underlying hu], h⟩
      · exact h.elim
    · rename_i p r v hu
      split at h
      · cases hx; cases hy
        exact ⟨_, by simp [Op.equalIn, run_underlying hu], h⟩
      · cases hx; cases hy
        exact ⟨_, by simp [Op.equalIn, run_underlying hu], h⟩
      · cases hx; cases hy
        exact ⟨_, by simp [Op.equalIn, run_underlying hu], h⟩
      · exact h.elim
    · exact h.elim

theorem intOpA_ok {op : BinOp} {k : IntKind} {a b : Int} {K : AVal → Prop} (h : intOpA op k a b K) :
    ∃ v, (match op with | .add | .sub | .mul => Op.intArith op k a b | .quo | .rem => Op.intDiv op k a b | .and | .or | .xor | .andNot => Op.intBits op k a b | _ => Op.intCmp op a b : Sem Value).run P w = .ok v w ∧ K (.lit v) ∧ op ≠ .shl ∧ op ≠ .shr := by
  cases op <;> simp only [intOpA] at h <;> first
    | exact h.elim
    | exact ⟨_, rfl, h, by simp, by simp⟩
    | (obtain ⟨hc, hK⟩ := gd_out h
       simp at hc
       exact ⟨_, by simp [Op.intDiv, hc], hK, by simp, by simp⟩)

end
end Go.Sx
