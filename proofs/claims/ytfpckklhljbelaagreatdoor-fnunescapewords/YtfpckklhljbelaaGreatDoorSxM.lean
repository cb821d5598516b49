/- A part of the proof of this claim: lemmas of its own; what is proved, and on what conditions, the last text says. -/
import Derived.Test.YtfpckklhljbelaaGreatDoorSxW
set_option linter.all false
namespace Go.Sx
open Go
variable [Syms]

/-! ### matching a state against the wanted one; names are given anew -/
inductive Nm where
  | id (j : Nat)
  | num (n : Nat)
abbrev Sg := List (Nat × Nm)
def look : Sg → Nat → Option Nm
  | [], _ => none
  | (k, x) :: r, i => cond (Nat.beq k i) (some x) (look r i)
def bindI (σ : Sg) (i j : Nat) (K : Sg → Prop) : Prop := match look σ i with
  | some (.id j') => gd (Nat.beq j j') (K σ)
  | some (.num _) => False
  | none => K ((i, .id j) :: σ)
def bindN (σ : Sg) (i n : Nat) (K : Sg → Prop) : Prop := match look σ i with
  | some (.num n') => n = n' ∧ K σ
  | some (.id _) => False
  | none => K ((i, .num n) :: σ)
def comp (ι : Inj) (σ : Sg) : Inj := fun i => match look σ i with
  | some (.id j) => ι j
  | some (.num n) => some n
  | none => none
def Sg.ext (σ σ' : Sg) : Prop := ∀ i x, look σ i = some x → look σ' i = some x
theorem Sg.ext_refl (σ : Sg) : σ.ext σ := fun _ _ h => h
theorem Sg.ext_trans {a b c : Sg} (h : a.ext b) (h' : b.ext c) : a.ext c := fun i x hx => h' i x (h i x hx)
theorem comp_le {ι : Inj} {σ σ' : Sg} (h : σ.ext σ') : (comp ι σ).le (comp ι σ') := by
  intro i r hr
  unfold comp at hr ⊢
  cases hl : look σ i with
  | none => rw [hl] at hr; cases hr
  | some x => rw [hl] at hr; rw [h i x hl]; exact hr
theorem ext_cons {σ : Sg} {i : Nat} {x : Nm} (h : look σ i = none) : σ.ext ((i, x) :: σ) := by
  intro j y hj
  simp only [look]
  cases hb : Nat.beq i j with
  | true => rw [Nat.eq_of_beq_eq_true hb, hj] at h; cases h
  | false => exact hj
theorem look_cons {σ : Sg} {i : Nat} {x : Nm} : look ((i, x) :: σ) i = some x := by simp [look, beq_self]
theorem bindI_ok {σ : Sg} {i j : Nat} {K : Sg → Prop} (h : bindI σ i j K) : ∃ σ', σ.ext σ' ∧ K σ' ∧ look σ' i = some (.id j) := by
  unfold bindI at h
  split at h
  · rename_i j' hl
    obtain ⟨hb, hK⟩ := gd_out h
    rw [Nat.eq_of_beq_eq_true hb]
    exact ⟨σ, Sg.ext_refl _, hK, hl⟩
  · exact h.elim
  · rename_i hl
    exact ⟨_, ext_cons hl, h, look_cons⟩
theorem bindN_ok {σ : Sg} {i n : Nat} {K : Sg → Prop} (h : bindN σ i n K) : ∃ σ', σ.ext σ' ∧ K σ' ∧ look σ' i = some (.num n) := by
  unfold bindN at h
  split at h
  · rename_i n' hl
    obtain ⟨rfl, hK⟩ := h
    exact ⟨σ, Sg.ext_refl _, hK, hl⟩
  · exact h.elim
  · rename_i hl
    exact ⟨_, ext_cons hl, h, look_cons⟩

def mC : ACap → ACap → Sg → (Sg → Prop) → Prop
  | _, .x, σ, K => K σ
  | .n k, .n k', σ, K => k = k' ∧ K σ
  | .n k, .u i 0, σ, K => bindN σ i k K
  | .u j s, .u i s', σ, K => gd (Nat.beq s s') (bindI σ i j K)
  | _, _, _, _ => False
def mT : ATot → ATot → Sg → (Sg → Prop) → Prop
  | .n k, .n k', σ, K => k' ≤ k ∧ K σ
  | .n k, .u i m, σ, K => match look σ i with
    | some (.num d) => d * m ≤ k ∧ K σ
    | _ => False
  | .u j m, .u i m', σ, K => gd (Nat.beq m m') (bindI σ i j K)
  | .u _ _, .n k, σ, K => gd (Nat.beq k 0) (K σ)

theorem mC_ok {ι : Inj} {a t : ACap} {σ : Sg} {K : Sg → Prop} {c : Nat} (h : mC a t σ K) (ha : a.den ι c) : ∃ σ', σ.ext σ' ∧ K σ' ∧ t.den (comp ι σ') c := by
  unfold mC at h
  split at h
  · exact ⟨σ, Sg.ext_refl _, h, trivial⟩
  · obtain ⟨rfl, hK⟩ := h
    exact ⟨σ, Sg.ext_refl _, hK, ha⟩
  · obtain ⟨σ', h1, h2, h3⟩ := bindN_ok h
    cases ha
    exact ⟨σ', h1, h2, _, by unfold comp; rw [h3], rfl⟩
  · obtain ⟨hb, h⟩ := gd_out h
    obtain ⟨σ', h1, h2, h3⟩ := bindI_ok h
    obtain ⟨d, hd, e⟩ := ha
    exact ⟨σ', h1, h2, d, by unfold comp; rw [h3]; exact hd, by rw [← Nat.eq_of_beq_eq_true hb]; exact e⟩
  · exact h.elim
theorem mT_ok {ι : Inj} {a t : ATot} {σ : Sg} {K : Sg → Prop} {c : Nat} (h : mT a t σ K) (ha : a.ok ι c) : ∃ σ', σ.ext σ' ∧ K σ' ∧ t.ok (comp ι σ') c := by
  unfold mT at h
  split at h
  · exact ⟨σ, Sg.ext_refl _, h.2, Nat.le_trans h.1 ha⟩
  · split at h
    · rename_i d hd
      exact ⟨σ, Sg.ext_refl _, h.2, d, by unfold comp; rw [hd], Nat.le_trans h.1 ha⟩
    · exact h.elim
  · obtain ⟨hb, h⟩ := gd_out h
    obtain ⟨σ', h1, h2, h3⟩ := bindI_ok h
    obtain ⟨d, hd, e⟩ := ha
    exact ⟨σ', h1, h2, d, by unfold comp; rw [h3]; exact hd, by rw [← Nat.eq_of_beq_eq_true hb]; exact e⟩
  · obtain ⟨hb, hK⟩ := gd_out h
    refine ⟨σ, Sg.ext_refl _, hK, ?_⟩
    rw [Nat.eq_of_beq_eq_true hb]
    exact Nat.zero_le _

abbrev MV := AVal → AVal → Sg → (Sg → Prop) → Prop
def mLs (f : MV) : List AVal → List AVal → Sg → (Sg → Prop) → Prop
  | [], [], σ, K => K σ
  | a :: as, t :: ts, σ, K => f a t σ (fun σ => mLs f as ts σ K)
  | _, _, _, _ => False
def mV : Nat → MV
  | 0, _, _, _, _ => False
  | n + 1, a, t, σ, K =>
    match t with
    | .top => K σ
    | .lit v' => match a with | .lit v => v = v' ∧ K σ | _ => False
    | .str l' => match a with | .str l => l = l' ∧ K σ | _ => False
    | .rope r' => match a with | .rope r => gd (eqN r r') (K σ) | _ => False
    | .ptr i o' => match a with | .ptr j o => o = o' ∧ bindI σ i j K | _ => False
    | .slc i o' l' c' => match a with | .slc j o l c => o = o' ∧ l = l' ∧ bindI σ i j (fun σ => mC c c' σ K) | _ => False
    | .rsl i p' m' c' => match a with | .rsl j p m c => gd (eqN p p' && eqN m m') (bindI σ i j (fun σ => mC c c' σ K)) | _ => False
    | .map i => match a with | .map j => bindI σ i j K | _ => False
    | .ifc t' v' => match a with | .ifc t v => gd (Nat.beq t t') (mV n v v' σ K) | _ => False
    | .fn f' x' y' => match a with | .fn f x y => f = f' ∧ mLs (mV n) x x' σ (fun σ => mLs (mV n) y y' σ K) | _ => False
    | .agg x' => match a with | .agg x => mLs (mV n) x x' σ K | _ => False
    | .tup x' => match a with | .tup x => mLs (mV n) x x' σ K | _ => False
    | _ => False

def MOk (ι : Inj) (f : MV) : Prop := ∀ {a t σ K v}, f a t σ K → Den ι a v → ∃ σ', σ.ext σ' ∧ K σ' ∧ Den (comp ι σ') t v
theorem mLs_ok {ι : Inj} {f : MV} (hf : MOk ι f) : ∀ {as ts : List AVal} {σ : Sg} {K : Sg → Prop} {vs : List Value}, mLs f as ts σ K → DenL ι as vs → ∃ σ', σ.ext σ' ∧ K σ' ∧ DenL (comp ι σ') ts vs
  | [], [], σ, K, vs, h, hd => by cases hd; exact ⟨σ, Sg.ext_refl _, h, .nil⟩
  | a :: as, t :: ts, σ, K, vs, h, hd => by
    cases hd with
    | cons h1 h2 =>
    obtain ⟨σ1, e1, h, d1⟩ := hf h h1
    obtain ⟨σ2, e2, hK, d2⟩ := mLs_ok hf h h2
    exact ⟨σ2, Sg.ext_trans e1 e2, hK, .cons (d1.mono (comp_le e2)) d2⟩
  | [], _ :: _, _, _, _, h, _ => h.elim
  | _ :: _, [], _, _, _, h, _ => h.elim
theorem mV_ok {ι : Inj} : ∀ (n : Nat), MOk ι (mV n) := by
  intro n
  induction n with
  | zero => intro a t σ K v h; exact h.elim
  | succ n ih =>
    intro a t σ K v h hd
    cases t <;> simp only [mV] at h <;> try exact h.elim
    case top => exact ⟨σ, Sg.ext_refl _, h, .top⟩
    case lit =>
      split at h <;> try exact h.elim
      obtain ⟨rfl, hK⟩ := h
      cases hd
      exact ⟨σ, Sg.ext_refl _, hK, .lit⟩
    case str =>
      split at h <;> try exact h.elim
      obtain ⟨rfl, hK⟩ := h
      cases hd
      exact ⟨σ, Sg.ext_refl _, hK, .str⟩
    case rope =>
      split at h <;> try exact h.elim
      obtain ⟨hb, hK⟩ := gd_out h
      rw [← eqN_eq hb]
      cases hd
      exact ⟨σ, Sg.ext_refl _, hK, .rope⟩
    case ptr =>
      split at h <;> try exact h.elim
      obtain ⟨rfl, h⟩ := h
      obtain ⟨σ', h1, h2, h3⟩ := bindI_ok h
      cases hd with
      | ptr hr => exact ⟨σ', h1, h2, .ptr (by unfold comp; rw [h3]; exact hr)⟩
    case slc =>
      split at h <;> try exact h.elim
      obtain ⟨rfl, rfl, h⟩ := h
      obtain ⟨σ', h1, h2, h3⟩ := bindI_ok h
      cases hd with
      | slc hr hl ho hc =>
        obtain ⟨σ2, e2, hK, hc2⟩ := mC_ok h2 hc
        exact ⟨σ2, Sg.ext_trans h1 e2, hK, .slc (by unfold comp; rw [e2 _ _ h3]; exact hr) hl ho hc2⟩
    case rsl =>
      split at h <;> try exact h.elim
      obtain ⟨hb, h⟩ := gd_out h
      simp only [Bool.and_eq_true] at hb
      rw [← eqN_eq hb.1, ← eqN_eq hb.2]
      obtain ⟨σ', h1, h2, h3⟩ := bindI_ok h
      cases hd with
      | rsl hr hl ho hc =>
        obtain ⟨σ2, e2, hK, hc2⟩ := mC_ok h2 hc
        exact ⟨σ2, Sg.ext_trans h1 e2, hK, .rsl (by unfold comp; rw [e2 _ _ h3]; exact hr) hl ho hc2⟩
    case map =>
      split at h <;> try exact h.elim
      obtain ⟨σ', h1, h2, h3⟩ := bindI_ok h
      cases hd with
      | map hr => exact ⟨σ', h1, h2, .map (by unfold comp; rw [h3]; exact hr)⟩
    case ifc =>
      split at h <;> try exact h.elim
      obtain ⟨hb, h⟩ := gd_out h
      rw [← Nat.eq_of_beq_eq_true hb]
      cases hd with
      | ifc hv =>
        obtain ⟨σ', h1, h2, h3⟩ := ih h hv
        exact ⟨σ', h1, h2, .ifc h3⟩
    case fn =>
      split at h <;> try exact h.elim
      obtain ⟨rfl, h⟩ := h
      cases hd with
      | fn ha hb =>
        obtain ⟨σ1, e1, h, d1⟩ := mLs_ok ih h ha
        obtain ⟨σ2, e2, hK, d2⟩ := mLs_ok ih h hb
        exact ⟨σ2, Sg.ext_trans e1 e2, hK, .fn (d1.mono (comp_le e2)) d2⟩
    case agg =>
      split at h <;> try exact h.elim
      cases hd with
      | agg ha =>
        obtain ⟨σ1, e1, h, d1⟩ := mLs_ok ih h ha
        exact ⟨σ1, e1, h, .agg d1⟩
    case tup =>
      split at h <;> try exact h.elim
      cases hd with
      | tup ha =>
        obtain ⟨σ1, e1, h, d1⟩ := mLs_ok ih h ha
        exact ⟨σ1, e1, h, .tup d1⟩

def mE (f : MV) : List (AVal × AVal × Nat) → List (AVal × AVal × Nat) → Sg → (Sg → Prop) → Prop
  | [], [], σ, K => K σ
  | (k, v, n) :: r, (k', v', n') :: r', σ, K => gd (Nat.beq n n') (f k k' σ (fun σ => f v v' σ (fun σ => mE f r r' σ K)))
  | _, _, _, _ => False
theorem mE_ok {ι : Inj} {f : MV} (hf : MOk ι f) : ∀ {as ts : List (AVal × AVal × Nat)} {σ : Sg} {K : Sg → Prop} {vs : List MapEntry}, mE f as ts σ K → EDen ι as vs → ∃ σ', σ.ext σ' ∧ K σ' ∧ EDen (comp ι σ') ts vs
  | [], [], σ, K, [], h, hd => ⟨σ, Sg.ext_refl _, h, trivial⟩
  | (k, v, n) :: as, (k', v', n') :: ts, σ, K, e :: vs, h, hd => by
    obtain ⟨hn, h⟩ := gd_out h
    obtain ⟨d1, d2, d3, d4⟩ := hd
    obtain ⟨σ1, e1, h, g1⟩ := hf h d1
    obtain ⟨σ2, e2, h, g2⟩ := hf h d2
    obtain ⟨σ3, e3, hK, g3⟩ := mE_ok hf h d4
    exact ⟨σ3, Sg.ext_trans e1 (Sg.ext_trans e2 e3), hK, g1.mono (comp_le (Sg.ext_trans e2 e3)), g2.mono (comp_le e3), by rw [← Nat.eq_of_beq_eq_true hn]; exact d3, g3⟩
  | [], [], _, _, _ :: _, _, hd => hd.elim
  | [], _ :: _, _, _, _, h, _ => h.elim
  | _ :: _, [], _, _, _, h, _ => h.elim
  | _ :: _, _ :: _, _, _, [], _, hd => hd.elim

def mB (a t : ABlk) (σ : Sg) (K : Sg → Prop) : Prop :=
  match t with
  | .row cs' e' t' => match a with | .row cs e t => gd (Nat.beq e e') (mLs (mV 8) cs cs' σ (fun σ => mT t t' σ K)) | _ => False
  | .bytes l' e' t' => match a with | .bytes l e t => gd (Nat.beq e e') (l = l' ∧ mT t t' σ K) | _ => False
  | .rbytes r' e' t' => match a with | .rbytes r e t => gd (Nat.beq e e' && eqN r r') (mT t t' σ K) | _ => False
  | .map es' c' => match a with | .map es c => gd (Nat.beq c c') (mE (mV 8) es es' σ K) | _ => False
  | .siter l' p' => match a with | .siter l p => l = l' ∧ p = p' ∧ K σ | _ => False
theorem mB_ok {ι : Inj} {a t : ABlk} {σ : Sg} {K : Sg → Prop} {o : Obj} (h : mB a t σ K) (hd : BDen ι a o) : ∃ σ', σ.ext σ' ∧ K σ' ∧ BDen (comp ι σ') t o := by
  cases t <;> simp only [mB] at h <;> split at h <;> try exact h.elim
  · obtain ⟨hb, h⟩ := gd_out h
    obtain ⟨vs, rest, rfl, hcs, ht⟩ := hd
    obtain ⟨σ1, e1, h, d1⟩ := mLs_ok (mV_ok 8) h hcs
    obtain ⟨σ2, e2, hK, d2⟩ := mT_ok h ht
    exact ⟨σ2, Sg.ext_trans e1 e2, hK, vs, rest, by rw [Nat.eq_of_beq_eq_true hb], d1.mono (comp_le e2), d2⟩
  · obtain ⟨hb, h1⟩ := gd_out h
    obtain ⟨hl, h2⟩ := h1
    subst hl
    obtain ⟨rest, fz, rfl, ht, hfz⟩ := hd
    obtain ⟨σ2, e2, hK, d2⟩ := mT_ok h2 ht
    exact ⟨σ2, e2, hK, rest, fz, by rw [Nat.eq_of_beq_eq_true hb], d2, hfz⟩
  · obtain ⟨hb, h⟩ := gd_out h
    simp only [Bool.and_eq_true] at hb
    obtain ⟨rest, fz, rfl, ht, hfz⟩ := hd
    obtain ⟨σ2, e2, hK, d2⟩ := mT_ok h ht
    rw [← eqN_eq hb.2]
    exact ⟨σ2, e2, hK, rest, fz, by rw [Nat.eq_of_beq_eq_true hb.1], d2, hfz⟩
  · obtain ⟨hb, h⟩ := gd_out h
    obtain ⟨es, rfl, hE⟩ := hd
    obtain ⟨σ2, e2, hK, d2⟩ := mE_ok (mV_ok 8) h hE
    exact ⟨σ2, e2, hK, es, by rw [Nat.eq_of_beq_eq_true hb], d2⟩
  · obtain ⟨rfl, rfl, hK⟩ := h
    exact ⟨σ, Sg.ext_refl _, hK, hd⟩

def mSlots (fr : Fr) : List (Nat × AVal) → Sg → (Sg → Prop) → Prop
  | [], σ, K => K σ
  | (t, v) :: r, σ, K => mV 8 (fget fr t) v σ (fun σ => mSlots fr r σ K)
def mBlks (H : AHeap) (ros : List Nat) : List (Nat × ABlk) → Sg → (Sg → Prop) → Prop
  | [], σ, K => K σ
  | (i, b) :: r, σ, K => match look σ i with
    | some (.id j) => match H.get j with
      | some x => gd (!H.isRo j || hasN ros i) (mB x b σ (fun σ => mBlks H ros r σ K))
      | none => False
    | _ => False
def belowAll (next : Nat) : Sg → Bool
  | [] => true
  | (i, _) :: r => Nat.blt i next && belowAll next r
/-- No actual name twice. -/
def imgs (σ : Sg) : List (Nat × ABlk) → List Nat
  | [] => []
  | (i, _) :: r => match look σ i with
    | some (.id j) => j :: imgs σ r
    | _ => imgs σ r
def distinctN : List Nat → Bool
  | [] => true
  | x :: r => !hasN r x && distinctN r
def frOf (n : Nat) (l : List (Nat × AVal)) : Fr := ⟨n, l.foldr (fun x T => T.set x.1 (some x.2)) .nil⟩
def hpOf (l : List (Nat × ABlk)) (next : Nat) (ros : List Nat := []) : AHeap := ⟨l.foldr (fun x T => T.set x.1 (some x.2)) .nil, next, [], ros⟩
def entA (fr : Fr) (H : AHeap) (n : Nat) (slots : List (Nat × AVal)) (blks : List (Nat × ABlk)) (next : Nat) (ros : List Nat) : Prop :=
  gd (Nat.beq fr.n n && nilL H.defs) (mSlots fr slots [] (fun σ => mBlks H ros blks σ (fun σ => gd (belowAll next σ && distinctN (imgs σ blks)) True)))

theorem fold_get {α : Type} : ∀ (l : List (Nat × α)) (i : Nat) {x : α}, Tr.get (l.foldr (fun x T => T.set x.1 (some x.2)) .nil) i = some x → (i, x) ∈ l
  | [], i, x, h => by simp [Tr.get_nil] at h
  | (k, y) :: r, i, x, h => by
    simp only [List.foldr_cons, Tr.get_set] at h
    by_cases e : i = k
    · rw [if_pos e] at h
      cases h
      rw [e]; exact List.mem_cons_self ..
    · rw [if_neg e] at h
      exact List.mem_cons_of_mem _ (fold_get r i h)

theorem mSlots_ok {ι : Inj} {fr : Fr} {a : Act} (hf : FRel ι fr a) : ∀ {l : List (Nat × AVal)} {σ : Sg} {K : Sg → Prop}, mSlots fr l σ K → ∃ σ', σ.ext σ' ∧ K σ' ∧ ∀ x ∈ l, Den (comp ι σ') x.2 (a.tmps.getD x.1 undef)
  | [], σ, K, h => ⟨σ, Sg.ext_refl _, h, fun _ hx => by cases hx⟩
  | (t, v) :: r, σ, K, h => by
    obtain ⟨σ1, e1, h, d1⟩ := mV_ok 8 h (hf.t t)
    obtain ⟨σ2, e2, hK, d2⟩ := mSlots_ok hf h
    refine ⟨σ2, Sg.ext_trans e1 e2, hK, fun x hx => ?_⟩
    rcases List.mem_cons.1 hx with rfl | hx
    · exact d1.mono (comp_le e2)
    · exact d2 x hx
theorem mBlks_ok {w0 w : World} {F0 : Fp} {ι : Inj} {H : AHeap} (hi : Inv w0 F0 ι H w) : ∀ {ros : List Nat} {l : List (Nat × ABlk)} {σ : Sg} {K : Sg → Prop}, mBlks H ros l σ K → ∃ σ', σ.ext σ' ∧ K σ' ∧ ∀ x ∈ l, ∃ j c r o, look σ' x.1 = some (.id j) ∧ H.get j = some c ∧ ι j = some r ∧ w.heap[r]? = some o ∧ BDen (comp ι σ') x.2 o ∧ (F0.w r ∨ w0.heap.size ≤ r ∨ (F0.r r ∧ hasN ros x.1 = true)) ∧ (H.isRo j = true → hasN ros x.1 = true)
  | ros, [], σ, K, h => ⟨σ, Sg.ext_refl _, h, fun _ hx => by cases hx⟩
  | ros, (i, b) :: rr, σ, K, h => by
    simp only [mBlks] at h
    split at h
    · rename_i j hl
      split at h
      · rename_i c hg
        obtain ⟨hro, h⟩ := gd_out h
        simp only [Bool.or_eq_true, Bool.not_eq_true'] at hro
        have hro' : H.isRo j = true → hasN ros i = true := fun h1 => by
          rcases hro with h2 | h2
          · rw [h1] at h2; cases h2
          · exact h2
        obtain ⟨r, o, hr, ho, hb, hF⟩ := hi.blk _ _ hg
        have hF : F0.w r ∨ w0.heap.size ≤ r ∨ (F0.r r ∧ hasN ros i = true) := by
          rcases hF with h1 | h1 | h1
          · exact .inl h1
          · exact .inr (.inl h1)
          · exact .inr (.inr ⟨h1.1, hro' h1.2⟩)
        obtain ⟨σ1, e1, h, d1⟩ := mB_ok h hb
        obtain ⟨σ2, e2, hK, d2⟩ := mBlks_ok hi h
        refine ⟨σ2, Sg.ext_trans e1 e2, hK, fun x hx => ?_⟩
        rcases List.mem_cons.1 hx with rfl | hx
        · exact ⟨j, c, r, o, e2 _ _ (e1 _ _ hl), hg, hr, ho, d1.mono (comp_le e2), hF, hro'⟩
        · exact d2 x hx
      · exact h.elim
    · exact h.elim
theorem belowAll_ok {next : Nat} : ∀ {σ : Sg} {i : Nat} {x : Nm}, belowAll next σ = true → look σ i = some x → i < next
  | [], i, x, _, h => by cases h
  | (k, y) :: r, i, x, hb, h => by
    simp only [belowAll, Bool.and_eq_true] at hb
    simp only [look] at h
    cases hk : Nat.beq k i with
    | true => rw [← Nat.eq_of_beq_eq_true hk]; exact blt_lt hb.1
    | false => rw [hk, cond_false] at h; exact belowAll_ok hb.2 h
theorem hasN_of_mem : ∀ {l : List Nat} {i : Nat}, i ∈ l → hasN l i = true
  | x :: r, i, h => by
    simp only [hasN]
    cases hb : Nat.beq x i with
    | true => rfl
    | false =>
      rcases List.mem_cons.1 h with rfl | h
      · rw [Nat.beq_refl] at hb; cases hb
      · exact hasN_of_mem h
theorem imgs_inj {σ : Sg} : ∀ {l : List (Nat × ABlk)} {x y : Nat × ABlk} {j : Nat}, distinctN (imgs σ l) = true → x ∈ l → y ∈ l → look σ x.1 = some (.id j) → look σ y.1 = some (.id j) → x.1 = y.1
  | (i, b) :: r, x, y, j, h, hx, hy, h1, h2 => by
    have mem : ∀ {l : List (Nat × ABlk)} {z : Nat × ABlk} {j : Nat}, z ∈ l → look σ z.1 = some (.id j) → j ∈ imgs σ l := by
      intro l
      induction l with
      | nil => intro z j hz; cases hz
      | cons u us ih =>
        intro z j hz hl
        simp only [imgs]
        rcases List.mem_cons.1 hz with rfl | hz
        · rw [hl]; exact List.mem_cons_self ..
        · have := ih hz hl
          split
          · exact List.mem_cons_of_mem _ this
          · exact this
    simp only [imgs] at h
    rcases List.mem_cons.1 hx with rfl | hx <;> rcases List.mem_cons.1 hy with rfl | hy
    · rfl
    · rw [h1] at h
      simp only [distinctN, Bool.and_eq_true, Bool.not_eq_true'] at h
      have := hasN_of_mem (mem hy h2)
      rw [this] at h; cases h.1
    · rw [h2] at h
      simp only [distinctN, Bool.and_eq_true, Bool.not_eq_true'] at h
      have := hasN_of_mem (mem hx h1)
      rw [this] at h; cases h.1
    · split at h
      · simp only [distinctN, Bool.and_eq_true] at h
        exact imgs_inj h.2 hx hy h1 h2
      · exact imgs_inj h hx hy h1 h2

theorem entA_ok {fr : Fr} {H : AHeap} {n : Nat} {slots : List (Nat × AVal)} {blks : List (Nat × ABlk)} {next : Nat} {ros : List Nat} (h : entA fr H n slots blks next ros) : Ent fr H (frOf n slots) (hpOf blks next ros) := by
  intro w0 F0 ι w a hi hf hd
  obtain ⟨hc, h⟩ := gd_out h
  simp only [Bool.and_eq_true] at hc
  have hdefs : H.defs = [] := by
    cases hh : H.defs with
    | nil => rfl
    | cons _ _ => rw [hh] at hc; cases hc.2
  rw [hdefs] at hd
  obtain ⟨σ1, e1, h, d1⟩ := mSlots_ok hf h
  obtain ⟨σ2, e2, h, d2⟩ := mBlks_ok hi h
  obtain ⟨hc2, _⟩ := gd_out h
  simp only [Bool.and_eq_true] at hc2
  refine ⟨comp ι σ2, ⟨?_, ?_, ?_, hi.frame, hi.size, hi.tape, hi.os, hi.output, hi.glob⟩, ⟨by rw [← hf.n]; exact (Nat.eq_of_beq_eq_true hc.1).symm, fun t => ?_⟩, ?_⟩
  · intro i b hg
    obtain ⟨j, c, r, o, hl, hg', hr, ho, hb, hF, _⟩ := d2 (i, b) (fold_get blks i hg)
    exact ⟨r, o, by simp only [comp, hl]; exact hr, ho, hb, hF⟩
  · intro i j b c r hi' hj' h1 h2
    have mi := fold_get blks i hi'
    have mj := fold_get blks j hj'
    obtain ⟨ja, ca, ra, _, hla, hga, hra, _⟩ := d2 (i, b) mi
    obtain ⟨jb, cb, rb, _, hlb, hgb, hrb, _⟩ := d2 (j, c) mj
    simp only at hla hlb
    simp only [comp, hla] at h1
    simp only [comp, hlb] at h2
    have := hi.inj ja jb ca cb r hga hgb h1 h2
    subst this
    exact imgs_inj hc2.2 mi mj hla hlb
  · intro i hle
    have hle : next ≤ i := hle
    unfold comp
    cases hl : look σ2 i with
    | none => rfl
    | some x =>
      have := belowAll_ok hc2.1 hl
      omega
  · cases hg : Tr.get (frOf n slots).t t with
    | none => simp only [fget, hg, Option.getD_none]; exact .top
    | some v =>
      simp only [fget, hg, Option.getD_some]
      exact (d1 (t, v) (fold_get slots t hg)).mono (comp_le e2)
  · have : ∀ {ds : List Deferred}, DRel ι [] ds → DRel (comp ι σ2) (hpOf blks next ros).defs ds := fun hd => by cases hd; exact .nil
    exact this hd

/-- A loop by the slots and blocks that matter. -/
theorem loopA {P : Program} {J : Type} (side : J → Prop) (μ : J → Nat) (n : Nat) (slots : J → List (Nat × AVal)) (blks : J → List (Nat × ABlk)) (next : Nat) (ros : List Nat) {x : Code} {K : AExit → Fr → AHeap → Prop}
    (h : ∀ j, side j → WPw P x (frOf n (slots j)) (hpOf (blks j) next ros) (fun e fr' H' => match e with
      | .normal => ∃ j', side j' ∧ μ j' < μ j ∧ entA fr' H' n (slots j') (blks j') next ros
      | e => K e fr' H')) {fr : Fr} {H : AHeap} (j : J) (hj : side j) (hent : entA fr H n (slots j) (blks j) next ros) : WPw P (.loop x) fr H K := by
  refine WPw.ent (entA_ok hent) (loopW side μ (fun j => frOf n (slots j)) (fun j => hpOf (blks j) next ros) (fun j hj => ?_) j hj)
  refine (h j hj).mono fun e fr H hK => ?_
  cases e with
  | normal =>
    obtain ⟨j', h1, h2, h3⟩ := hK
    exact ⟨j', h1, h2, entA_ok h3⟩
  | exit i => exact hK
  | ret => exact hK
end Go.Sx
