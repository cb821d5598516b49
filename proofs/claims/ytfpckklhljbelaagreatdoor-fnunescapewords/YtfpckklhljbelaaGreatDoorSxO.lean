/- A part of the proof of this claim: lemmas of its own; what is proved, and on what conditions, the last text says. -/
import Derived.Test.YtfpckklhljbelaaGreatDoorSxK
set_option linter.all false
namespace Go.Sx
open Go
variable [Syms]

/-! ### a function that is told over a small heap, called in a great one; it hands back new bytes -/
def mArgs : List AVal → List AVal → Sg → (Sg → Prop) → Prop := mLs (mV 8)
/-- The actual names of the blocks that may be written. -/
def wimgs (ros : List Nat) (σ : Sg) : List (Nat × ABlk) → List Nat
  | [] => []
  | (i, _) :: r => cond (hasN ros i) (wimgs ros σ r) (match look σ i with
    | some (.id j) => j :: wimgs ros σ r
    | _ => wimgs ros σ r)
/-- Told: of which data `a` the arguments and blocks are (`dec`); what they must be (`args1`, `blks1`, names below `next1`); what is said of the bytes that come back. The arguments' blocks are given up. -/
structure OwnS where
  A : Type
  dec : List AVal → AHeap → Option A
  dom : A → Prop
  args1 : A → List AVal
  blks1 : A → List (Nat × ABlk)
  next1 : Nat
  /-- those that are only read: they stay -/
  ros1 : List Nat
  G : A → List UInt8 → Prop
  e : TypeId
def OwnS.spec (S : OwnS) : Spec := fun args H K => match S.dec args H with
  | some a => S.dom a ∧ mArgs args (S.args1 a) [] (fun σ => mBlks H S.ros1 (S.blks1 a) σ (fun σ => gd (belowAll S.next1 σ && distinctN (imgs σ (S.blks1 a)))
      (∀ x, S.G a x → K (.slc (Nat.succ H.next) 0 x.length (.u H.next 0)) ((((delAll (wimgs S.ros1 σ (S.blks1 a)) H).withD H.defs).nm).new (.bytes x S.e (.u H.next 1))))))
  | none => False

section
variable {P : Program} {w0 w : World} {F0 : Fp} {ι : Inj} {H : AHeap}

theorem imgs_mem {σ : Sg} : ∀ {l : List (Nat × ABlk)} {z : Nat × ABlk} {j : Nat}, z ∈ l → look σ z.1 = some (.id j) → j ∈ imgs σ l
  | u :: us, z, j, hz, hl => by
    simp only [imgs]
    rcases List.mem_cons.1 hz with rfl | hz
    · rw [hl]; exact List.mem_cons_self ..
    · have := imgs_mem hz hl
      split
      · exact List.mem_cons_of_mem _ this
      · exact this
theorem mem_imgs {σ : Sg} : ∀ {l : List (Nat × ABlk)} {j : Nat}, j ∈ imgs σ l → ∃ z ∈ l, look σ z.1 = some (.id j)
  | u :: us, j, h => by
    simp only [imgs] at h
    split at h
    · rename_i j' hl
      rcases List.mem_cons.1 h with rfl | h
      · exact ⟨u, List.mem_cons_self .., hl⟩
      · obtain ⟨z, hz, hzl⟩ := mem_imgs h
        exact ⟨z, List.mem_cons_of_mem _ hz, hzl⟩
    · obtain ⟨z, hz, hzl⟩ := mem_imgs h
      exact ⟨z, List.mem_cons_of_mem _ hz, hzl⟩

theorem mem_wimgs {ros : List Nat} {σ : Sg} : ∀ {l : List (Nat × ABlk)} {j : Nat}, j ∈ wimgs ros σ l → ∃ z ∈ l, hasN ros z.1 = false ∧ look σ z.1 = some (.id j)
  | (i, b) :: us, j, h => by
    simp only [wimgs] at h
    cases hr : hasN ros i with
    | true =>
      rw [hr, cond_true] at h
      obtain ⟨z, hz, hzl⟩ := mem_wimgs h
      exact ⟨z, List.mem_cons_of_mem _ hz, hzl⟩
    | false =>
      rw [hr, cond_false] at h
      split at h
      · rename_i j' hl
        rcases List.mem_cons.1 h with rfl | h
        · exact ⟨_, List.mem_cons_self .., hr, hl⟩
        · obtain ⟨z, hz, hzl⟩ := mem_wimgs h
          exact ⟨z, List.mem_cons_of_mem _ hz, hzl⟩
      · obtain ⟨z, hz, hzl⟩ := mem_wimgs h
        exact ⟨z, List.mem_cons_of_mem _ hz, hzl⟩
theorem wimgs_mem {ros : List Nat} {σ : Sg} : ∀ {l : List (Nat × ABlk)} {z : Nat × ABlk} {j : Nat}, z ∈ l → hasN ros z.1 = false → look σ z.1 = some (.id j) → j ∈ wimgs ros σ l
  | (i, b) :: us, z, j, hz, hn, hl => by
    simp only [wimgs]
    rcases List.mem_cons.1 hz with rfl | hz
    · rw [hn, cond_false, hl]; exact List.mem_cons_self ..
    · have := wimgs_mem hz hn hl
      cases hasN ros i with
      | true => exact this
      | false =>
        rw [cond_false]
        split
        · exact List.mem_cons_of_mem _ this
        · exact this

/-- What is handed over. -/
def handF (ι : Inj) (H : AHeap) (ros : List Nat) (σ : Sg) (l : List (Nat × ABlk)) : Fp :=
  ⟨fun r => ∃ j ∈ wimgs ros σ l, ∃ b, H.get j = some b ∧ ι j = some r, fun r => ∃ z ∈ l, hasN ros z.1 = true ∧ ∃ j b, look σ z.1 = some (.id j) ∧ H.get j = some b ∧ ι j = some r⟩
def HandD (w0 : World) (F0 : Fp) (w : World) (ι : Inj) (H : AHeap) (ros : List Nat) (σ : Sg) (l : List (Nat × ABlk)) : Prop :=
  ∀ x ∈ l, ∃ j c r o, look σ x.1 = some (.id j) ∧ H.get j = some c ∧ ι j = some r ∧ w.heap[r]? = some o ∧ BDen (comp ι σ) x.2 o ∧ (F0.w r ∨ w0.heap.size ≤ r ∨ (F0.r r ∧ hasN ros x.1 = true)) ∧ (H.isRo j = true → hasN ros x.1 = true)
theorem handF_w (hi : Inv w0 F0 ι H w) {ros : List Nat} {σ : Sg} {l : List (Nat × ABlk)} (d : HandD w0 F0 w ι H ros σ l) {r : Nat} (h : (handF ι H ros σ l).w r) : F0.w r ∨ w0.heap.size ≤ r := by
  obtain ⟨j, hj, b, hg, hr⟩ := h
  obtain ⟨z, hz, hn, hl⟩ := mem_wimgs hj
  obtain ⟨j', c, r', o, hl', hg', hr', _, _, hF, _⟩ := d z hz
  rw [hl] at hl'; cases hl'
  rw [hr] at hr'; cases hr'
  rcases hF with h1 | h1 | h1
  · exact .inl h1
  · exact .inr h1
  · rw [hn] at h1; cases h1.2
theorem hand_small (hi : Inv w0 F0 ι H w) {ros : List Nat} {σ : Sg} {l : List (Nat × ABlk)} {next : Nat} (d : HandD w0 F0 w ι H ros σ l) (hb : belowAll next σ = true) (hd : distinctN (imgs σ l) = true) :
    Inv w (handF ι H ros σ l) (comp ι σ) (hpOf l next ros) w := by
  refine ⟨?_, ?_, ?_, fun _ _ _ => rfl, Nat.le_refl _, rfl, rfl, rfl, hi.good, fun x hx => ?_⟩
  · intro i b hg
    obtain ⟨j, c, r, o, hl, hg', hr, ho, hb, hF, _⟩ := d (i, b) (fold_get _ i hg)
    refine ⟨r, o, by simp only [comp, hl]; exact hr, ho, hb, ?_⟩
    cases hn : hasN ros i with
    | true => exact .inr (.inr ⟨⟨(i, b), fold_get _ i hg, hn, j, c, hl, hg', hr⟩, hn⟩)
    | false => exact .inl ⟨j, wimgs_mem (fold_get _ i hg) hn hl, c, hg', hr⟩
  · intro i j b c r hi' hj' h1 h2
    have mi := fold_get _ i hi'
    have mj := fold_get _ j hj'
    obtain ⟨ja, ca, ra, _, hla, hga, hra, _⟩ := d (i, b) mi
    obtain ⟨jb, cb, rb, _, hlb, hgb, hrb, _⟩ := d (j, c) mj
    simp only at hla hlb
    simp only [comp, hla] at h1
    simp only [comp, hlb] at h2
    have := hi.inj ja jb ca cb r hga hgb h1 h2
    subst this
    exact imgs_inj hd mi mj hla hlb
  · intro i hle
    have hle : next ≤ i := hle
    unfold comp
    cases hl : look σ i with
    | none => rfl
    | some x =>
      have := belowAll_ok hb hl
      omega
  · obtain ⟨g1, g2⟩ := hi.glob.2 x hx
    refine ⟨Nat.lt_of_lt_of_le g1 hi.size, fun hf => ?_⟩
    rcases handF_w hi d hf with hf | hf
    · exact g2 hf
    · omega
theorem hand_rest (hi : Inv w0 F0 ι H w) {ros : List Nat} {σ : Sg} {l : List (Nat × ABlk)} (d : HandD w0 F0 w ι H ros σ l) {ι' : Inj} {H' : AHeap} {w' : World} (hinv : Inv w (handF ι H ros σ l) ι' H' w') :
    Inv w0 F0 ι ((delAll (wimgs ros σ l) H).withD H.defs) w' ∧ ∀ {id b r}, (delAll (wimgs ros σ l) H).get id = some b → ι id = some r → r < w.heap.size ∧ ¬ (handF ι H ros σ l).w r := by
  have hlt : ∀ {id b r}, H.get id = some b → ι id = some r → r < w.heap.size := fun hg hr => by
    obtain ⟨r', o, hr', ho, _⟩ := hi.blk _ _ hg
    rw [hr] at hr'; cases hr'
    rcases Nat.lt_or_ge _ w.heap.size with h' | h'
    · exact h'
    · rw [Array.getElem?_eq_none h'] at ho; cases ho
  have hnotF : ∀ {id b r}, (delAll (wimgs ros σ l) H).get id = some b → ι id = some r → r < w.heap.size ∧ ¬ (handF ι H ros σ l).w r := by
    intro id b r hgd hr
    rw [delAll_get] at hgd
    split at hgd
    · cases hgd
    · rename_i hn
      refine ⟨hlt hgd hr, ?_⟩
      rintro ⟨j, hj, bj, hgj, hrj⟩
      have := hi.inj id j b bj r hgd hgj hr hrj
      subst this
      exact hn hj
  refine ⟨⟨fun id b hgd => ?_, fun i j b c r h1 h2 h3 h4 => ?_, fun id hid => hi.fresh id (by have := delAll_next (wimgs ros σ l) H; simp [AHeap.withD] at hid; omega), fun r hr hf => ?_, Nat.le_trans hi.size hinv.size, hinv.tape.trans hi.tape, hinv.os.trans hi.os, hinv.output.trans hi.output, hi.glob⟩, hnotF⟩
  · have hgd0 : (delAll (wimgs ros σ l) H).get id = some b := hgd
    have hgd' := hgd0
    rw [delAll_get] at hgd'
    split at hgd'
    · cases hgd'
    · obtain ⟨r, o, hr, ho, hb, hF⟩ := hi.blk id b hgd'
      refine ⟨r, o, hr, ?_, hb, ?_⟩
      · rw [hinv.frame r (hnotF hgd0 hr).1 (hnotF hgd0 hr).2]
        exact ho
      · rcases hF with h1 | h1 | h1
        · exact .inl h1
        · exact .inr (.inl h1)
        · refine .inr (.inr ⟨h1.1, ?_⟩)
          show ((delAll (wimgs ros σ l) H).withD H.defs).isRo id = true
          have : ((delAll (wimgs ros σ l) H).withD H.defs).isRo id = H.isRo id := delAll_isRo _ _ _
          rw [this]; exact h1.2
  · have h1 : (delAll (wimgs ros σ l) H).get i = some b := h1
    have h2 : (delAll (wimgs ros σ l) H).get j = some c := h2
    rw [delAll_get] at h1 h2
    split at h1
    · cases h1
    · split at h2
      · cases h2
      · exact hi.inj i j b c r h1 h2 h3 h4
  · rw [hinv.frame r (Nat.lt_of_lt_of_le hr hi.size) ?_]
    · exact hi.frame r hr hf
    · intro hw
      rcases handF_w hi d hw with h1 | h1
      · exact hf h1
      · omega

/-- What is said over the small heap: bytes at the head of a block. -/
def ownK (G : List UInt8 → Prop) (e : TypeId) : AVal → AHeap → Prop := fun v H => match v with
  | .slc i 0 n c => match H.get i with
    | some (.bytes x e' t) => G x ∧ n = x.length ∧ gd (Nat.beq e' e && (capFits 1 c t && !H.isRo i)) True
    | _ => False
  | _ => False

theorem ownS_ok {S : OwnS} {f : FuncId} (hf : FunOk P f)
    (h : ∀ a, S.dom a → ∀ (w0 : World) (F0 : Fp) (ι : Inj) (w : World) (vs : List Value), Inv w0 F0 ι (hpOf (S.blks1 a) S.next1 S.ros1) w → DenL ι (S.args1 a) vs → Calls P f vs.toArray w (PostV w0 F0 noι (ownK (S.G a) S.e))) :
    SpecOk P f S.spec := by
  intro args H K hs
  unfold OwnS.spec at hs
  split at hs
  rotate_left
  · exact hs.elim
  rename_i a _
  obtain ⟨hdom, hs⟩ := hs
  refine anext_of_calls hf ?_
  intro w0 F0 ι w vs hi hd
  obtain ⟨σ1, e1, hs, d1⟩ := mLs_ok (mV_ok 8) hs hd
  obtain ⟨σ2, e2, hs, d2⟩ := mBlks_ok hi hs
  obtain ⟨hc, hK⟩ := gd_out hs
  simp only [Bool.and_eq_true] at hc
  refine Calls.mono (h a hdom w _ (comp ι σ2) w vs (hand_small hi d2 hc.1 hc.2) (DenL.mono (comp_le e2) d1)) fun e w' he => ?_
  cases e with
  | returned v =>
    obtain ⟨x, H', ι', hx, hdx, _, hinv⟩ := he
    unfold ownK at hx
    split at hx
    rotate_left
    · exact hx.elim
    rename_i i n c
    split at hx
    rotate_left
    · exact hx.elim
    rename_i l e' t hg
    obtain ⟨hG, rfl, hcf⟩ := hx
    obtain ⟨hcf, _⟩ := gd_out hcf
    simp only [Bool.and_eq_true, Bool.not_eq_true'] at hcf
    have he' := Nat.eq_of_beq_eq_true hcf.1
    subst he'
    obtain ⟨r', o, hr', ho, hb, hF'⟩ := hinv.blk _ _ hg
    have hF' : (handF ι H S.ros1 σ2 (S.blks1 a)).w r' ∨ w.heap.size ≤ r' := by
      rcases hF' with h1 | h1 | h1
      · exact .inl h1
      · exact .inr h1
      · rw [hcf.2.2] at h1; cases h1.2
    obtain ⟨hbig, hnotF⟩ := hand_rest hi d2 hinv
    cases hdx with
    | slc hri hl hoff hcap =>
    rename_i off' r2 cap
    rw [hr'] at hri; cases hri
    obtain ⟨ι1, hle1, hn1, hinv1⟩ := hbig.name cap
    have hnext : (((delAll (wimgs S.ros1 σ2 (S.blks1 a)) H).withD H.defs)).next = H.next := by simp [AHeap.withD, delAll_next]
    rw [hnext] at hn1
    obtain ⟨rest, fz, rfl, ht, hfz⟩ := hb
    have hcc := capFits_ok (m := 1) hcf.2.1 hcap ht
    rw [Nat.mul_one] at hcc
    have hfr : ¬ ∃ id b, (delAll (wimgs S.ros1 σ2 (S.blks1 a)) H).get id = some b ∧ ι id = some r' := by
      rintro ⟨id, b, hgd, hr⟩
      rcases hF' with hF' | hF'
      · exact (hnotF hgd hr).2 hF'
      · have := (hnotF hgd hr).1
        omega
    have hr0 : F0.w r' ∨ w0.heap.size ≤ r' := by
      rcases hF' with h1 | h1
      · exact handF_w hi d2 h1
      · exact .inr (Nat.le_trans hi.size h1)
    -- the great heap with it
    have hn1' : ι1 (Nat.succ H.next) = none := hinv1.fresh _ (by show (((delAll (wimgs S.ros1 σ2 (S.blks1 a)) H).withD H.defs)).next + 1 ≤ _; rw [hnext]; exact Nat.le_refl _)
    let ι2 : Inj := fun k => if k = Nat.succ H.next then some r' else ι1 k
    have hle2 : ι1.le ι2 := fun k r hk => by
      by_cases e : k = Nat.succ H.next
      · subst e; rw [hn1'] at hk; cases hk
      · simp only [ι2, if_neg e]; exact hk
    have hgn : ∀ k, ((((delAll (wimgs S.ros1 σ2 (S.blks1 a)) H).withD H.defs).nm).new (.bytes l S.e (.u H.next 1))).get k = if k = Nat.succ H.next then some (.bytes l S.e (.u H.next 1)) else (delAll (wimgs S.ros1 σ2 (S.blks1 a)) H).get k := by
      intro k
      rw [AHeap.get_new]
      have : (((delAll (wimgs S.ros1 σ2 (S.blks1 a)) H).withD H.defs).nm).next = Nat.succ H.next := by show Nat.succ _ = _; rw [hnext]
      rw [this]
      rfl
    refine ⟨_, _, ι2, hK l hG, .slc (by simp [ι2]) hl ?_ ⟨cap, hle2 _ _ hn1, rfl⟩, Inj.le_trans hle1 hle2, ⟨?_, ?_, ?_, hbig.frame, hbig.size, hbig.tape, hbig.os, hbig.output, hbig.glob⟩⟩
    · exact hoff
    · intro k b hgk
      rw [hgn] at hgk
      by_cases e : k = Nat.succ H.next
      · rw [if_pos e] at hgk
        cases hgk
        exact ⟨r', _, by simp [ι2, e], ho, ⟨rest, fz, rfl, ⟨cap, hle2 _ _ hn1, by omega⟩, hfz⟩, hr0.elim .inl fun h => .inr (.inl h)⟩
      · rw [if_neg e] at hgk
        obtain ⟨r, o, hr, ho, hb, hF⟩ := hbig.blk k b hgk
        exact ⟨r, o, hle2 _ _ (hle1 _ _ hr), ho, hb.mono (Inj.le_trans hle1 hle2), hF⟩
    · have old : ∀ {k b r}, (delAll (wimgs S.ros1 σ2 (S.blks1 a)) H).get k = some b → k ≠ Nat.succ H.next → ι2 k = some r → ι k = some r := by
        intro k b r hk hne hr
        obtain ⟨r3, _, hr3, _⟩ := hbig.blk k b hk
        have := hle2 _ _ (hle1 _ _ hr3)
        rw [hr] at this; cases this
        exact hr3
      intro i j b c r h1 h2 h3 h4
      rw [hgn] at h1 h2
      by_cases ei : i = Nat.succ H.next <;> by_cases ej : j = Nat.succ H.next
      · rw [ei, ej]
      · rw [if_neg ej] at h2
        have h4' := old h2 ej h4
        have : r = r' := by simp only [ι2, ei, if_true] at h3; cases h3; rfl
        subst this
        exact (hfr ⟨j, c, h2, h4'⟩).elim
      · rw [if_neg ei] at h1
        have h3' := old h1 ei h3
        have : r = r' := by simp only [ι2, ej, if_true] at h4; cases h4; rfl
        subst this
        exact (hfr ⟨i, b, h1, h3'⟩).elim
      · rw [if_neg ei] at h1; rw [if_neg ej] at h2
        exact hbig.inj i j b c r h1 h2 (old h1 ei h3) (old h2 ej h4)
    · intro k hk
      have hk : Nat.succ (Nat.succ (((delAll (wimgs S.ros1 σ2 (S.blks1 a)) H).withD H.defs)).next) ≤ k := hk
      rw [hnext] at hk
      have : k ≠ Nat.succ H.next := by omega
      simp only [ι2, if_neg this]
      exact hinv1.fresh k (by show Nat.succ (((delAll (wimgs S.ros1 σ2 (S.blks1 a)) H).withD H.defs)).next ≤ k; rw [hnext]; omega)
  | panicked c => exact he.elim
  | outgrown => exact he.elim

/-- Told over a small heap; it hands back a value without names. -/
structure RetS where
  A : Type
  dec : List AVal → AHeap → Option A
  dom : A → Prop
  args1 : A → List AVal
  blks1 : A → List (Nat × ABlk)
  next1 : Nat
  ros1 : List Nat
  X : Type
  G : A → X → Prop
  val : X → AVal
def RetS.spec (S : RetS) : Spec := fun args H K => match S.dec args H with
  | some a => S.dom a ∧ mArgs args (S.args1 a) [] (fun σ => mBlks H S.ros1 (S.blks1 a) σ (fun σ => gd (belowAll S.next1 σ && distinctN (imgs σ (S.blks1 a)))
      (∀ x, S.G a x → K (S.val x) ((delAll (wimgs S.ros1 σ (S.blks1 a)) H).withD H.defs))))
  | none => False
theorem retS_ok {S : RetS} {f : FuncId} (hf : FunOk P f) (hmk : ∀ x, nl (S.val x) = true)
    (h : ∀ a, S.dom a → ∀ (w0 : World) (F0 : Fp) (ι : Inj) (w : World) (vs : List Value), Inv w0 F0 ι (hpOf (S.blks1 a) S.next1 S.ros1) w → DenL ι (S.args1 a) vs → Calls P f vs.toArray w (PostV w0 F0 noι (fun v _ => ∃ x, S.G a x ∧ v = S.val x))) :
    SpecOk P f S.spec := by
  intro args H K hs
  unfold RetS.spec at hs
  split at hs
  rotate_left
  · exact hs.elim
  rename_i a _
  obtain ⟨hdom, hs⟩ := hs
  refine anext_of_calls hf ?_
  intro w0 F0 ι w vs hi hd
  obtain ⟨σ1, e1, hs, d1⟩ := mLs_ok (mV_ok 8) hs hd
  obtain ⟨σ2, e2, hs, d2⟩ := mBlks_ok hi hs
  obtain ⟨hc, hK⟩ := gd_out hs
  simp only [Bool.and_eq_true] at hc
  refine Calls.mono (h a hdom w _ (comp ι σ2) w vs (hand_small hi d2 hc.1 hc.2) (DenL.mono (comp_le e2) d1)) fun e w' he => ?_
  cases e with
  | returned v =>
    obtain ⟨_, H', ι', ⟨x, hG, rfl⟩, hdx, _, hinv⟩ := he
    obtain ⟨hbig, _⟩ := hand_rest hi d2 hinv
    exact ⟨_, _, ι, hK x hG, nl_den (hmk x) hdx, Inj.le_refl _, hbig⟩
  | panicked c => exact he.elim
  | outgrown => exact he.elim
end
end Go.Sx
