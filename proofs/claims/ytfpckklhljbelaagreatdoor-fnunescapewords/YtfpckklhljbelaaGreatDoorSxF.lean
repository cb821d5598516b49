/- A part of the proof of this claim: lemmas of its own; what is proved, and on what conditions, the last text says. -/
import Derived.Test.YtfpckklhljbelaaGreatDoorSxD
import Derived.OrdersHeld
set_option linter.all false
namespace Go.Sx
open Go
variable [Syms]

/-! ### regions whose order is drawn -/
def afterOf (ops : Array Oper) (j : Nat) : List Nat := match ops[j]? with
  | some o => (o.after.toList.filter (Region.binds .any)).map (·.on)
  | none => []
abbrev Held := List (Nat × (World → Prop))
def Held.past (L : Held) (ops : Array Oper) (j : Nat) : Held := L.filter fun x => !(afterOf ops j).contains x.1

section
variable {P : Program} {ops : Array Oper} {Q : Exit → Act → World → Prop}

/-- Whatever order is picked; what was taken early keeps its condition behind each operation that may still come before it. -/
def wpW (P : Program) (ops : Array Oper) (Q : Exit → Act → World → Prop) : Nat → Array Bool → Held → Act → World → Prop
  | 0, listed, _, a, w => Region.ready .any ops listed = [] ∧ Q .normal a w
  | fuel + 1, listed, L, a, w =>
    (Region.ready .any ops listed = [] → Q .normal a w) ∧
    ∀ j ∈ Region.ready .any ops listed, wpOp P ops Q j (fun a' w' => (∀ x ∈ L.past ops j, x.2 w') ∧ wpW P ops Q fuel (listed.setIfInBounds j true) (L.past ops j) a' w') a w

theorem wpAny_of_W : ∀ (fuel : Nat) (listed : Array Bool) (L : Held) (a : Act) (w : World), wpW P ops Q fuel listed L a w → wpAny P .any ops Q fuel listed a w
  | 0, _, _, _, _, h => h
  | fuel + 1, _, _, _, _, h => ⟨h.1, fun i hi => wpOp_mono (fun a' w' h' => wpAny_of_W fuel _ _ a' w' h'.2) (h.2 i hi)⟩

theorem wpW_first {S : World → Prop} {i : Nat} {oi : Oper} {v : Value} (hi : ops[i]? = some oi) (hsel : ∀ (j : Nat) (o : Oper) cs b, ops[j]? = some o → o.op ≠ .select cs b)
    (hQ : ∀ c a w, Q (.panic c) (a.put oi.dst v) w → Q (.panic c) a w) :
    ∀ (fuel : Nat) (listed : Array Bool) (L : Held) (a : Act) (w : World),
      (∀ j oj, ops[j]? = some oj → j ≠ i → listed.getD j true = false → (∀ e ∈ oj.after, Region.binds .any e = true → e.on ≠ i) → oi.apart ops oj = true) →
      i ∈ Region.ready .any ops listed → YieldsIf P ops S oi v a → S w → (∀ x ∈ L, x.2 w) →
      wpW P ops Q fuel (listed.setIfInBounds i true) ((i, S) :: L) (a.put oi.dst v) w → wpW P ops Q (fuel + 1) listed L a w := by
  have sub : ∀ (L : Held) (w : World) (j : Nat), (∀ x ∈ L, x.2 w) → ∀ x ∈ L.past ops j, x.2 w := fun L w j h x hx => h x ((List.mem_filter.1 hx).1)
  -- what was taken early may be forgotten
  have weak : ∀ (fuel : Nat) (listed : Array Bool) (L L' : Held) (a : Act) (w : World), (∀ x ∈ L', x ∈ L) → wpW P ops Q fuel listed L a w → wpW P ops Q fuel listed L' a w := by
    intro fuel
    induction fuel with
    | zero => intro listed L L' a w _ h; exact h
    | succ fuel ih =>
      intro listed L L' a w hs h
      have hs' : ∀ j, ∀ x ∈ Held.past L' ops j, x ∈ Held.past L ops j := fun j x hx => by
        simp only [Held.past, List.mem_filter] at hx ⊢
        exact ⟨hs x hx.1, hx.2⟩
      exact ⟨h.1, fun j hj => wpOp_mono (fun a' w' h' => ⟨fun x hx => h'.1 x (hs' j x hx), ih _ _ _ a' w' (hs' j) h'.2⟩) (h.2 j hj)⟩
  intro fuel
  induction fuel with
  | zero =>
    intro listed L a w hfree hr hy hS hL H
    refine ⟨fun h => (by rw [h] at hr; cases hr), fun j hj => ?_⟩
    by_cases hji : j = i
    · subst hji; exact hy.wpOp hi hS ⟨sub L w j hL, H⟩
    · have := ready_mono hj hji
      rw [H.1] at this
      cases this
  | succ fuel ih =>
    intro listed L a w hfree hr hy hS hL H
    refine ⟨fun h => (by rw [h] at hr; cases hr), fun j hj => ?_⟩
    by_cases hji : j = i
    · subst hji
      refine hy.wpOp hi hS ⟨sub L w j hL, weak _ _ _ _ _ _ (fun x hx => ?_) H⟩
      exact List.mem_cons_of_mem _ ((List.mem_filter.1 hx).1)
    · have h1 := H.2 j (ready_mono hj hji)
      obtain ⟨hjun, oj, hoj, hall⟩ := mem_ready.1 hj
      have hnot : ∀ e ∈ oj.after, Region.binds .any e = true → e.on ≠ i := fun e he hb heq => by
        have h1 := hall e he hb
        have h0 := (mem_ready.1 hr).1
        rw [heq] at h1
        rcases Nat.lt_or_ge i listed.size with h' | h'
        · simp [h'] at h0 h1; rw [h0] at h1; cases h1
        · simp [Array.getElem?_eq_none h'] at h1
      have hpast : Held.past ((i, S) :: L) ops j = (i, S) :: L.past ops j := by
        have hc : (afterOf ops j).contains i = false := by
          rw [← Bool.not_eq_true]
          intro hc
          simp only [List.contains_iff_mem] at hc
          simp only [afterOf, hoj, List.mem_map, List.mem_filter] at hc
          obtain ⟨e, ⟨he, hb⟩, heq⟩ := hc
          exact hnot e (by simpa using he) hb heq
        simp only [Held.past, List.filter_cons, hc, Bool.not_false, if_true]
      have h2 := wpOp_putIf hoj (hfree j oj hoj hji hjun hnot) (fun cs b => hsel i oi cs b hi) (fun cs b => hsel j oj cs b hoj) hQ hy h1
      have hfree' : ∀ k ok, ops[k]? = some ok → k ≠ i → (listed.setIfInBounds j true).getD k true = false →
          (∀ e ∈ ok.after, Region.binds .any e = true → e.on ≠ i) → oi.apart ops ok = true := fun k ok hk hki hun hno => by
        refine hfree k ok hk hki ?_ hno
        by_cases hjk : j = k
        · subst hjk; exact hjun
        · rw [getD_set_ne true hjk] at hun; exact hun
      refine wpOp_mono (fun a' w' h3 => ?_) h2
      obtain ⟨hy', hcond, hW⟩ := h3
      rw [hpast] at hcond hW
      refine ⟨fun x hx => hcond x (List.mem_cons_of_mem _ hx), ?_⟩
      refine ih (listed.setIfInBounds j true) _ a' w' hfree' (ready_mono hr (Ne.symm hji)) hy' (hcond _ (List.mem_cons_self ..)) (fun x hx => hcond x (List.mem_cons_of_mem _ hx)) ?_
      rw [Array.setIfInBounds_comm _ _ hji]
      exact hW

theorem wp_region_W {id : Nat} {a : Act} {w : World} (hm : P.follows .mixedOrders = true)
    (h : wpW P ops Q ops.size (Array.replicate ops.size false) [] a { w with drawn := w.drawn + 1 }) : (Code.region id ops true).wp P Q a w :=
  wp_region_any hm (wpAny_of_W _ _ _ _ _ h)
end

/-! ### the part of the heap that a call is not handed -/
def delAll : List Nat → AHeap → AHeap
  | [], H => H
  | i :: l, H => delAll l (H.del i)
def layAll (H : AHeap) : List Nat → Tr ABlk → Tr ABlk
  | [], T => T
  | i :: l, T => layAll H l (T.set i (H.get i))
/-- The blocks that were kept, laid back. -/
def joinH (H : AHeap) (ids : List Nat) (H' : AHeap) : AHeap := ⟨layAll H ids H'.blks, H'.next, H.defs, H.ros⟩

theorem delAll_get : ∀ (ids : List Nat) (H : AHeap) (j : Nat), (delAll ids H).get j = if j ∈ ids then none else H.get j
  | [], H, j => by simp [delAll]
  | i :: l, H, j => by
    rw [delAll, delAll_get l, AHeap.get_del]
    by_cases h1 : j ∈ l
    · simp [h1]
    · by_cases h2 : j = i
      · simp [h2]
      · simp [h1, h2]
theorem delAll_next : ∀ (ids : List Nat) (H : AHeap), (delAll ids H).next = H.next
  | [], _ => rfl
  | i :: l, H => by rw [delAll, delAll_next l]; rfl
theorem delAll_ros : ∀ (ids : List Nat) (H : AHeap), (delAll ids H).ros = H.ros
  | [], _ => rfl
  | i :: l, H => by rw [delAll, delAll_ros l]; rfl
theorem delAll_isRo (ids : List Nat) (H : AHeap) (i : Nat) : (delAll ids H).isRo i = H.isRo i := by unfold AHeap.isRo; rw [delAll_ros]
theorem layAll_get (H : AHeap) : ∀ (ids : List Nat) (T : Tr ABlk) (j : Nat), (layAll H ids T).get j = if j ∈ ids then H.get j else T.get j
  | [], T, j => by simp [layAll]
  | i :: l, T, j => by
    rw [layAll, layAll_get H l, Tr.get_set]
    by_cases h1 : j ∈ l
    · simp [h1]
    · by_cases h2 : j = i
      · subst h2; simp [h1]
      · simp [h1, h2]
theorem joinH_get (H : AHeap) (ids : List Nat) (H' : AHeap) (j : Nat) : (joinH H ids H').get j = if j ∈ ids then H.get j else H'.get j := layAll_get H ids H'.blks j

section
variable {P : Program} {w0 w : World} {F0 : Fp} {ι : Inj} {H : AHeap}

/-- The blocks of an abstract heap. -/
def Foot (ι : Inj) (H : AHeap) : Fp := ⟨fun r => ∃ id b, H.get id = some b ∧ ι id = some r ∧ H.isRo id = false, fun r => ∃ id b, H.get id = some b ∧ ι id = some r ∧ H.isRo id = true⟩

theorem Foot.none (h : Inv w0 F0 ι H w) {ids : List Nat} {r : Nat} (hf : (Foot ι (delAll ids H)).w r) : F0.w r ∨ w0.heap.size ≤ r := by
  obtain ⟨j, c, hj, hjr, hro⟩ := hf
  rw [delAll_get] at hj
  split at hj
  · cases hj
  · obtain ⟨r', o, hr', _, _, hf⟩ := h.blk j c hj
    rw [hjr] at hr'; cases hr'
    rw [delAll_isRo] at hro
    rcases hf with hf | hf | hf
    · exact .inl hf
    · exact .inr hf
    · rw [hro] at hf; cases hf.2
theorem Inv.cut (h : Inv w0 F0 ι H w) (ids : List Nat) : Inv w (Foot ι (delAll ids H)) ι (delAll ids H) w := by
  refine ⟨fun id b hg => ?_, fun i j b c r hi hj h1 h2 => ?_, fun id hid => h.fresh id (by rwa [delAll_next] at hid), fun _ _ _ => rfl, Nat.le_refl _, rfl, rfl, rfl, h.good, fun x hx => ?_⟩
  · have hg' := hg
    rw [delAll_get] at hg'
    split at hg'
    · cases hg'
    · obtain ⟨r, o, hr, ho, hb, _⟩ := h.blk id b hg'
      cases hro : (delAll ids H).isRo id with
      | false => exact ⟨r, o, hr, ho, hb, .inl ⟨id, b, hg, hr, hro⟩⟩
      | true => exact ⟨r, o, hr, ho, hb, .inr (.inr ⟨⟨id, b, hg, hr, hro⟩, rfl⟩)⟩
  · rw [delAll_get] at hi hj
    split at hi
    · cases hi
    · split at hj
      · cases hj
      · exact h.inj i j b c r hi hj h1 h2
  · obtain ⟨g1, g2⟩ := h.glob.2 x hx
    refine ⟨Nat.lt_of_lt_of_le g1 h.size, fun hf => ?_⟩
    rcases Foot.none h hf with hf | hf
    · exact g2 hf
    · omega

theorem Inv.lay {ι' : Inj} {H' : AHeap} {w' : World} (h : Inv w0 F0 ι H w) (ids : List Nat) (hle : ι.le ι') (h' : Inv w (Foot ι (delAll ids H)) ι' H' w') (hros : H'.ros = H.ros) : Inv w0 F0 ι' (joinH H ids H') w' := by
  have hlt : ∀ {id r b}, H.get id = some b → ι id = some r → r < w.heap.size := fun hg hr => by
    obtain ⟨r', o, hr', ho, _⟩ := h.blk _ _ hg
    rw [hr] at hr'; cases hr'
    rcases Nat.lt_or_ge _ w.heap.size with h' | h'
    · exact h'
    · rw [Array.getElem?_eq_none h'] at ho; cases ho
  have hno : ∀ {id j r b c}, id ∈ ids → H.get id = some b → ι id = some r → (delAll ids H).get j = some c → ι j = some r → False := by
    intro id j r b c hid hg hr hj hjr
    rw [delAll_get] at hj
    split at hj
    · cases hj
    · rename_i hn
      have := h.inj id j b c r hg hj hr hjr
      subst this
      exact hn hid
  have hnot : ∀ {id r b}, id ∈ ids → H.get id = some b → ι id = some r → ¬ (Foot ι (delAll ids H)).w r := by
    rintro id r b hid hg hr ⟨j, c, hj, hjr, _⟩
    exact hno hid hg hr hj hjr
  have hnotR : ∀ {id r b}, id ∈ ids → H.get id = some b → ι id = some r → ¬ (Foot ι (delAll ids H)).r r := by
    rintro id r b hid hg hr ⟨j, c, hj, hjr, _⟩
    exact hno hid hg hr hj hjr
  have hjro : ∀ i, (joinH H ids H').isRo i = H.isRo i := fun i => rfl
  have hro' : ∀ i, H'.isRo i = H.isRo i := fun i => by unfold AHeap.isRo; rw [hros]
  refine ⟨fun id b hg => ?_, fun i j b c r hi hj h1 h2 => ?_, fun id hid => h'.fresh id hid, fun r hr hnf => ?_, Nat.le_trans h.size h'.size, h'.tape.trans h.tape, h'.os.trans h.os, h'.output.trans h.output, h.glob⟩
  · rw [joinH_get] at hg
    split at hg
    · rename_i hid
      obtain ⟨r, o, hr, ho, hb, hf⟩ := h.blk id b hg
      refine ⟨r, o, hle _ _ hr, ?_, hb.mono hle, hf⟩
      rw [h'.frame r (hlt hg hr) (hnot hid hg hr)]
      exact ho
    · obtain ⟨r, o, hr, ho, hb, hf⟩ := h'.blk id b hg
      refine ⟨r, o, hr, ho, hb, ?_⟩
      rcases hf with hf | hf | ⟨⟨k, c, hk, hkr, _⟩, hf⟩
      · rcases Foot.none h hf with h1 | h1
        · exact .inl h1
        · exact .inr (.inl h1)
      · exact .inr (.inl (Nat.le_trans h.size hf))
      · rw [delAll_get] at hk
        split at hk
        · cases hk
        · obtain ⟨r', _, hr', _, _, hf'⟩ := h.blk k c hk
          rw [hkr] at hr'; cases hr'
          rcases hf' with h1 | h1 | h1
          · exact .inl h1
          · exact .inr (.inl h1)
          · exact .inr (.inr ⟨h1.1, by rw [hjro, ← hro']; exact hf⟩)
  · rw [joinH_get] at hi hj
    have mixed : ∀ {i j b c r}, i ∈ ids → H.get i = some b → H'.get j = some c → ι' i = some r → ι' j = some r → False := by
      intro i j b c r hid hi hj h1 h2
      obtain ⟨r1, o, hr, _⟩ := h.blk i b hi
      have hr' := hle _ _ hr
      rw [h1] at hr'; cases hr'
      obtain ⟨r2, o', hr2, _, _, hf⟩ := h'.blk j c hj
      rw [h2] at hr2; cases hr2
      rcases hf with hf | hf | hf
      · exact hnot hid hi hr hf
      · exact absurd (hlt hi hr) (Nat.not_lt.2 hf)
      · exact hnotR hid hi hr hf.1
    split at hi <;> split at hj
    · obtain ⟨r1, o, hr, _⟩ := h.blk i b hi
      obtain ⟨r2, o', hr2, _⟩ := h.blk j c hj
      have e1 := hle _ _ hr
      have e2 := hle _ _ hr2
      rw [h1] at e1; rw [h2] at e2; cases e1; cases e2
      exact h.inj i j b c r hi hj hr hr2
    · rename_i hid _; exact (mixed hid hi hj h1 h2).elim
    · rename_i _ hid; exact (mixed hid hj hi h2 h1).elim
    · exact h'.inj i j b c r hi hj h1 h2
  · rw [h'.frame r (Nat.lt_of_lt_of_le hr h.size) ?_]
    · exact h.frame r hr hnf
    · intro hf
      rcases Foot.none h hf with h1 | h1
      · exact hnf h1
      · omega

end
end Go.Sx
