/- A part of the proof of this claim: lemmas of its own; what is proved, and on what conditions, the last text says. -/
import Derived.Test.YtfpckklhljbelaaGreatDoorSx7
set_option linter.all false
namespace Go.Sx
open Go
variable [Syms]

section
variable {P : Program} {w0 w : World} {F0 : Fp} {ι : Inj} {H : AHeap}

/-! ### make -/
def repL (n : Nat) (cs : List AVal) : List AVal := match n with
  | 0 => []
  | n + 1 => cs ++ repL n cs
def zeroB : Value → Bool
  | .int .u8 n => n == 0
  | _ => false
theorem zeroB_ok {z : Value} (h : zeroB z = true) : z = byteV 0 := by
  unfold zeroB at h
  split at h
  · simp at h; subst h; rfl
  · cases h
def makeA (P : Program) (t : TypeId) (l c : AVal) (H : AHeap) (K : AVal → AHeap → Prop) : Prop :=
  match P.underlying t, l, c with
  | some (.slice e), .lit (.int _ n), .lit (.int _ m) => match bytesA P e, szA P e, zeroA P e with
    | some b, some (sz + 1), some z =>
      gd (decide (0 ≤ n) && (decide (n ≤ m) && (decide (m ≤ 281474976710656) && (decide ((b : Int) * m ≤ 281474976710656) && Nat.beq z.cells.size (sz + 1)))))
        (cond (isU8 P e) (gd (zeroB z) (K (.slc H.next 0 n.toNat (.n m.toNat)) (H.new (.bytes (List.replicate n.toNat 0) e (.n m.toNat)))))
          (K (.slc H.next 0 n.toNat (.n m.toNat)) (H.new (.row (repL n.toNat (AVal.lit z).cells) e (.n (m.toNat * (sz + 1)))))))
    | _, _, _ => False
  | _, _, _ => False

theorem wrap64_id {n : Int} (h0 : 0 ≤ n) (h1 : n ≤ 281474976710656) : IntKind.i64.wrap n = n := by
  simp only [IntKind.wrap, IntKind.bits, IntKind.signed]
  have : n % 2 ^ 64 = n := Int.emod_eq_of_lt h0 (by omega)
  simp only [this]
  rw [if_neg]
  simp
  omega

theorem zeros_cells (z : Value) (sz : Nat) (hz : z.cells.size = sz + 1) : ∀ n, ((List.range (n * (sz + 1))).map (fun i => z.cells[i % z.cells.size]!)) = (List.replicate n z.cells.toList).flatten := by
  intro n
  induction n with
  | zero => simp
  | succ n ih =>
    rw [List.replicate_succ', List.flatten_append, ← ih]
    have e : (n + 1) * (sz + 1) = n * (sz + 1) + (sz + 1) := by rw [Nat.succ_mul]
    rw [e, List.range_add, List.map_append]
    congr 1
    simp only [List.flatten_cons, List.flatten_nil, List.append_nil, List.map_map]
    apply List.ext_getElem?
    intro i
    by_cases hi : i < sz + 1
    · have h1 : (n * (sz + 1) + i) % (sz + 1) = i := by
        rw [Nat.mul_comm, Nat.mul_add_mod]; exact Nat.mod_eq_of_lt hi
      have hi' : i < z.cells.size := by omega
      simp [hi, h1, hz, hi', getElem!_pos z.cells i hi']
    · have hi' : z.cells.size ≤ i := by omega
      simp [hi, hi']

theorem repL_den {cs : List AVal} {vs : List Value} (h : DenL ι cs vs) : ∀ n, DenL ι (repL n cs) (List.replicate n vs).flatten
  | 0 => .nil
  | n + 1 => by simpa [repL, List.replicate_succ] using h.append (repL_den h n)
theorem flat_len (n : Nat) (vs : List Value) : (List.replicate n vs).flatten.length = n * vs.length := by simp [List.length_flatten]

theorem make_ok {t : TypeId} {l c : AVal} {lv cv : Value} {K : AVal → AHeap → Prop} (h : makeA P t l c H K) (hi : Inv w0 F0 ι H w) (hl : Den ι l lv) (hc : Den ι c cv) : Ok w0 F0 ι K ((Instr.makeSlice t lv cv).run P w) := by
  unfold makeA at h
  split at h
  · rename_i e k n k' m hu
    cases hl; cases hc
    split at h
    · rename_i b sz z hb hs hz
      obtain ⟨hcond, h⟩ := gd_out h
      simp only [Bool.and_eq_true, decide_eq_true_eq] at hcond
      obtain ⟨h0, h1, h2, h3, h4⟩ := hcond
      have h4 := Nat.eq_of_beq_eq_true h4
      have hm0 : 0 ≤ m := by omega
      have hn1 : n ≤ 281474976710656 := by omega
      have hinfo : ∃ i, P.info? e = some i ∧ i.bytes = b := by
        unfold bytesA at hb
        cases hi' : P.info? e with
        | none => rw [hi'] at hb; cases hb
        | some i => rw [hi'] at hb; simp at hb; exact ⟨i, rfl, hb⟩
      obtain ⟨inf, hinf, hbytes⟩ := hinfo
      have hnm : (Instr.makeSlice t (.int k n) (.int k' m)).run P w = .ok (.slice (some ⟨w.heap.size, 0, none⟩) n.toNat m.toNat) { w with heap := w.heap.push (.cells (List.replicate m.toNat z.cells.toList).flatten.toArray e) } := by
        simp only [Instr.makeSlice, Sem.run_bind, run_underlying hu, Result.andThen_ok, asInt, asIntOf, Sem.run_pure, run_typeInfo hinf, wrap64_id h0 hn1, wrap64_id hm0 h2, hbytes]
        have c1 : (decide (m < 0) || decide ((b : Int) * m > 2 ^ 48) || decide (n < 0) || decide (n > m)) = false := by
          simp only [Bool.or_eq_false_iff, decide_eq_false_iff_not]
          refine ⟨⟨⟨by omega, ?_⟩, by omega⟩, by omega⟩
          have : (2 : Int) ^ 48 = 281474976710656 := by decide
          omega
        rw [if_neg (by rw [c1]; simp)]
        simp only [Sem.run_bind, Result.andThen_ok, run_askRoom, run_sizeOf hs]
        have hrow : ((Array.range (m.toNat * (sz + 1))).map (fun i => z.cells[i % z.cells.size]!)) = (List.replicate m.toNat z.cells.toList).flatten.toArray := by
          rw [← zeros_cells z sz h4]
          simp [← Array.toList_inj]
        by_cases hm : m.toNat = 0
        · have : m.toNat * (sz + 1) = 0 := by rw [hm]; simp
          have hr0 : Array.range 0 = #[] := rfl
          simp [hm, run_newRow, hr0]
        · have : ¬ m.toNat * (sz + 1) = 0 := Nat.mul_ne_zero hm (by omega)
          rw [if_neg this]
          simp only [Sem.run_bind, run_zero hz, Result.andThen_ok, Sem.run_pure, hrow, run_newRow]
      have hsplit : (List.replicate m.toNat z.cells.toList).flatten = (List.replicate n.toNat z.cells.toList).flatten ++ (List.replicate (m.toNat - n.toNat) z.cells.toList).flatten := by
        rw [← List.flatten_append, List.replicate_append_replicate]
        congr 2
        omega
      rw [hnm]
      cases hu8 : isU8 P e with
      | true =>
        rw [hu8] at h
        simp only [cond_true] at h
        obtain ⟨hzb, h⟩ := gd_out h
        have hzb := zeroB_ok hzb
        subst hzb
        have hflat : ∀ k, (List.replicate k (byteV 0).cells.toList).flatten = (List.replicate k (0 : UInt8)).map byteV := by
          intro k
          have : (byteV 0).cells.toList = [byteV 0] := rfl
          rw [this]
          induction k with
          | zero => rfl
          | succ k ih => simp [List.replicate_succ, ih]
        obtain ⟨ι', hle, hn, hinv⟩ := hi.new (b := .bytes (List.replicate n.toNat 0) e (.n m.toNat)) (o := .cells (List.replicate m.toNat (byteV 0).cells.toList).flatten.toArray e (0, 0))
          ⟨(List.replicate (m.toNat - n.toNat) (byteV 0).cells.toList).flatten, (0, 0), by rw [hsplit, hflat n.toNat], by
            show _ ≤ _
            rw [hflat]; simp; omega, fun k _ hh => by simp at hh⟩
        exact ⟨_, _, ι', h, .slc hn (by omega) (.inl rfl) rfl, hle, hinv⟩
      | false =>
        rw [hu8] at h
        simp only [cond_false] at h
        obtain ⟨ι', hle, hn, hinv⟩ := hi.new (b := .row (repL n.toNat (AVal.lit z).cells) e (.n (m.toNat * (sz + 1)))) (o := .cells (List.replicate m.toNat z.cells.toList).flatten.toArray e (0, 0))
          ⟨_, (List.replicate (m.toNat - n.toNat) z.cells.toList).flatten, by rw [hsplit], repL_den (Den.cells .lit rfl) _, by
            refine Nat.le_of_eq ?_
            rw [flat_len, flat_len, ← Nat.add_mul]
            have : z.cells.toList.length = sz + 1 := by simpa using h4
            rw [this]; congr 1; omega⟩
        exact ⟨_, _, ι', h, .slc hn (by omega) (.inl rfl) rfl, hle, hinv⟩
    · exact h.elim
  · exact h.elim

/-! ### len, cap -/
def lenA (P : Program) (t : TypeId) (x : AVal) (H : AHeap) (K : AVal → Prop) : Prop :=
  match P.underlying t, x with
  | some .string, .str l => K (.lit (.int .i64 l.length))
  | some (.slice _), .slc _ _ n _ => K (.lit (.int .i64 n))
  | some .string, .rope r => K (.lenr r)
  | some (.slice _), .rsl _ _ mid _ => K (.lenr mid)
  | some (.slice _), .lit (.slice none n _) => K (.lit (.int .i64 n))
  | some (.map _ _), .map id => match H.get id with
    | some (.map es _) => K (.lit (.int .i64 es.length))
    | _ => False
  | _, _ => False
def capA (P : Program) (t : TypeId) (x : AVal) (K : AVal → Prop) : Prop :=
  match P.underlying t, x with
  | some (.slice _), .slc _ _ _ (.n c) => K (.lit (.int .i64 c))
  | some (.slice _), .lit (.slice none _ c) => K (.lit (.int .i64 c))
  | _, _ => False
theorem EDen.len : ∀ {es : List (AVal × AVal × Nat)} {l : List MapEntry}, EDen ι es l → es.length = l.length
  | [], [], _ => rfl
  | (_, _, _) :: _, _ :: _, h => by simp [EDen.len h.2.2.2]
  | [], _ :: _, h => by cases h
  | (_, _, _) :: _, [], h => by cases h
theorem len_ok {t u : TypeId} {ts : Array TypeId} {x : AVal} {a : Value} {K : AVal → AHeap → Prop} (h : lenA P t x H (fun v => K v H)) (hi : Inv w0 F0 ι H w) (hx : Den ι x a) (ht : ts[0]? = some t) : Ok w0 F0 ι K ((Builtin.len_ ts u #[a]).run P w) := by
  have fin : ∀ {v : Value} {z : AVal}, K z H → Den ι z v → (Builtin.len_ ts u #[a]).run P w = .ok v w → Ok w0 F0 ι K ((Builtin.len_ ts u #[a]).run P w) := by
    intro v z hK hz hr
    rw [hr]
    exact ⟨_, _, ι, hK, hz, Inj.le_refl _, hi⟩
  unfold lenA at h
  split at h
  · rename_i l hu
    cases hx
    refine fin h .lit ?_
    have h0 : (#[Value.string ⟨l.toArray⟩] : Array Value)[0]? = some (.string ⟨l.toArray⟩) := rfl
    have hs : (⟨l.toArray⟩ : ByteArray).size = l.length := by simp [ByteArray.size]
    simp only [Builtin.len_, ht, h0, Sem.run_bind, run_underlying hu, Result.andThen_ok, Sem.run_pure, goInt, hs]
  · rename_i hu
    cases hx
    exact fin h .lit (by simp [Builtin.len_, ht, run_underlying hu, goInt])
  · rename_i r hu
    cases hx
    refine fin h .lenr ?_
    have h0 : (#[Value.string ⟨(flat r).toArray⟩] : Array Value)[0]? = some (.string ⟨(flat r).toArray⟩) := rfl
    have hs : (⟨(flat r).toArray⟩ : ByteArray).size = (flat r).length := by simp [ByteArray.size]
    simp only [Builtin.len_, ht, h0, Sem.run_bind, run_underlying hu, Result.andThen_ok, Sem.run_pure, goInt, hs]
  · rename_i hu
    cases hx
    exact fin h .lenr (by simp [Builtin.len_, ht, run_underlying hu, goInt])
  · rename_i hu
    cases hx
    exact fin h .lit (by simp [Builtin.len_, ht, run_underlying hu, goInt])
  · rename_i id hu
    cases hx with
    | map hr =>
    rename_i r
    split at h
    · rename_i es c hg
      obtain ⟨r', o, hr', ho, hb, _⟩ := hi.blk _ _ hg
      rw [hr] at hr'; cases hr'
      obtain ⟨ent, rfl, hE⟩ := hb
      refine fin h .lit ?_
      have h0 : (#[Value.map (some r)] : Array Value)[0]? = some (.map (some r)) := rfl
      simp only [Builtin.len_, ht, h0, Sem.run_bind, run_underlying hu, Result.andThen_ok, run_getObj ho, Sem.run_pure, goInt]
      rw [hE.len, Array.length_toList]
    · exact h.elim
  · exact h.elim
theorem cap_ok {t u : TypeId} {ts : Array TypeId} {x : AVal} {a : Value} {K : AVal → AHeap → Prop} (h : capA P t x (fun v => K v H)) (hi : Inv w0 F0 ι H w) (hx : Den ι x a) (ht : ts[0]? = some t) : Ok w0 F0 ι K ((Builtin.cap_ ts u #[a]).run P w) := by
  have fin : ∀ {v : Value} {z : AVal}, K z H → Den ι z v → (Builtin.cap_ ts u #[a]).run P w = .ok v w → Ok w0 F0 ι K ((Builtin.cap_ ts u #[a]).run P w) := by
    intro v z hK hz hr
    rw [hr]
    exact ⟨_, _, ι, hK, hz, Inj.le_refl _, hi⟩
  unfold capA at h
  split at h
  · rename_i hu
    cases hx with
    | slc hr hl ho hcap =>
    cases hcap
    exact fin h .lit (by simp [Builtin.cap_, ht, run_underlying hu, goInt])
  · rename_i hu
    cases hx
    exact fin h .lit (by simp [Builtin.cap_, ht, run_underlying hu, goInt])
  · exact h.elim

end
end Go.Sx
