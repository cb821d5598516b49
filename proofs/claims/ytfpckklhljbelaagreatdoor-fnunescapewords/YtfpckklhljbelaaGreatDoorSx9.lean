/- A part of the proof of this claim: lemmas of its own; what is proved, and on what conditions, the last text says. -/
import Derived.Test.YtfpckklhljbelaaGreatDoorSx8
set_option linter.all false
namespace Go.Sx
open Go
variable [Syms]

section
variable {P : Program} {w0 w : World} {F0 : Fp} {ι : Inj} {H : AHeap}

def notIntA (P : Program) (t : TypeId) : Bool := match P.underlying t with | some (.int _) => false | some _ => true | none => false
theorem notIntA_ok {t : TypeId} (h : notIntA P t = true) : ∃ d, P.underlying t = some d ∧ ∀ k, d ≠ .int k := by
  unfold notIntA at h
  split at h
  · cases h
  · rename_i d hd hu; exact ⟨d, hu, fun k e => hd k e⟩
  · cases h

/-- What is appended, in the model's own words. -/
structure News (P : Program) (w : World) (sz n : Nat) (xv : Value) (news : Array Value) : Prop where
  len : (Builtin.lenOf xv).run P w = .ok n w
  cells : (Builtin.firstCells sz n xv).run P w = .ok news w
  size : news.size = n * sz

theorem append_room {t u e : TypeId} {xt : TypeId} {sz n : Nat} {xv : Value} {news : Array Value} (hu : P.underlying t = some (.slice e)) (hs : (P.info? e).map (·.size) = some sz) (hx : notIntA P xt = true)
    (hn : News P w sz n xv news) {r off len cap : Nat} (hroom : len + n ≤ cap) :
    (Builtin.append_ #[t, xt] u #[.slice (some ⟨r, off, none⟩) len cap, xv]).run P w = ((storeCells ⟨r, off + len * sz, none⟩ news.toList).run P w).andThen fun _ w' => .ok (.slice (some ⟨r, off, none⟩) (len + n) cap) w' := by
  obtain ⟨d, hd, hnd⟩ := notIntA_ok hx
  have e0 : (#[t, xt] : Array TypeId)[0]? = some t := rfl
  have e1 : (#[t, xt] : Array TypeId)[1]? = some xt := rfl
  have e2 : (#[Value.slice (some ⟨r, off, none⟩) len cap, xv] : Array Value)[0]? = some (.slice (some ⟨r, off, none⟩) len cap) := rfl
  have e3 : (#[Value.slice (some ⟨r, off, none⟩) len cap, xv] : Array Value)[1]? = some xv := rfl
  simp only [Builtin.append_, e0, e1, e2, e3, Sem.run_bind, run_underlying hu, Result.andThen_ok, run_sizeOf hs, run_underlying hd]
  cases d <;> first
    | exact (hnd _ rfl).elim
    | (simp only [Sem.run_pure, Result.andThen_ok, Bool.false_eq_true, if_false, hn.len, hroom, if_true, Sem.run_bind, Bool.not_false, hn.cells, addr_add])

theorem append_grow {t u e : TypeId} {xt : TypeId} {sz n b : Nat} {z : Value} {xv : Value} {news olds : Array Value} (hu : P.underlying t = some (.slice e)) (hs : (P.info? e).map (·.size) = some sz) (hb : bytesA P e = some b) (hz : zeroA P e = some z) (hx : notIntA P xt = true)
    {base : Option Addr} {len cap : Nat} (hn : ∀ w' : World, w'.heap = w.heap → News P w' sz n xv news) (ho : ∀ w' : World, w'.heap = w.heap → (Builtin.firstCells sz len (.slice base len cap)).run P w' = .ok olds w') (hroom : cap < len + n) (hbd : (len + n) * b ≤ 140737488355328) (hbd' : len + n ≤ 140737488355328) :
    ∃ c, len + n ≤ c ∧ (Builtin.append_ #[t, xt] u #[.slice base len cap, xv]).run P w = .ok (.slice (some ⟨w.heap.size, 0, none⟩) (len + n) c) { w with heap := w.heap.push (.cells (olds ++ news ++ Builtin.zeroCells z.cells (c - (len + n))) e), drawn := w.drawn + 1 } := by
  obtain ⟨d, hd, hnd⟩ := notIntA_ok hx
  have e0 : (#[t, xt] : Array TypeId)[0]? = some t := rfl
  have e1 : (#[t, xt] : Array TypeId)[1]? = some xt := rfl
  have e2 : (#[Value.slice base len cap, xv] : Array Value)[0]? = some (.slice base len cap) := rfl
  have e3 : (#[Value.slice base len cap, xv] : Array Value)[1]? = some xv := rfl
  have hinfo : ∃ i, P.info? e = some i ∧ i.bytes = b := by
    unfold bytesA at hb
    cases hi' : P.info? e with
    | none => rw [hi'] at hb; cases hb
    | some i => rw [hi'] at hb; simp at hb; exact ⟨i, rfl, hb⟩
  obtain ⟨inf, hinf, hbytes⟩ := hinfo
  have h1 := hn w rfl
  have hm : IntKind.i64.max = 9223372036854775807 := by decide
  have hfit := growslice_fits hroom hbd
  refine ⟨(Question.appendCap (len + n) cap e).cut (w.tape w.drawn (.appendCap (len + n) cap e)), by simp [Question.cut], ?_⟩
  have h2 := hn { w with drawn := w.drawn + 1 } rfl
  have h3 := ho { w with drawn := w.drawn + 1 } rfl
  simp only [Builtin.append_, e0, e1, e2, e3, Sem.run_bind, run_underlying hu, Result.andThen_ok, run_sizeOf hs, run_underlying hd]
  cases d <;> first
    | exact (hnd _ rfl).elim
    | (simp only [Sem.run_pure, Result.andThen_ok, Bool.false_eq_true, if_false, h1.len, Nat.not_le.2 hroom, Sem.run_bind, run_typeInfo hinf, hbytes, hm, Bool.not_false, if_true]
       rw [if_neg (by omega)]
       simp only [Sem.run_bind, run_typeInfo hinf, Result.andThen_ok, hbytes]
       rw [if_neg (by have : (2 : Nat) ^ 48 = 281474976710656 := by decide
                      omega)]
       simp only [Sem.run_bind, run_choose, Question.forced, Bool.false_eq_true, if_false, Result.andThen_ok, run_askRoom, run_typeInfo hinf, h3, h2.cells, run_zero hz, run_newRow, Sem.run_pure])

/-! ### bytes -/
def newsB (x : AVal) (H : AHeap) (K : List UInt8 → Prop) : Prop :=
  match x with
  | .str l => K l
  | .slc id off n _ => match H.get id with
    | some (.bytes l _ _) => gd (Nat.ble (off + n) l.length) (K ((l.drop off).take n))
    | _ => False
  | .lit (.slice none 0 0) => K []
  | _ => False

theorem firstCells_bytes (l : List UInt8) (sz : Nat) : (Builtin.firstCells sz l.length (.string ⟨l.toArray⟩)).run P w = .ok (l.map byteV).toArray w := by
  have : ((⟨l.toArray⟩ : ByteArray).extract 0 l.length).data = l.toArray := by
    rw [extract_str]
    simp
  simp only [Builtin.firstCells, Sem.run_pure, this]
  congr 1
  simp [byteV]
theorem newsB_ok {x : AVal} {xv : Value} {K : List UInt8 → Prop} (h : newsB x H K) (hi : Inv w0 F0 ι H w) (hx : Den ι x xv) : ∃ l, K l ∧ ∀ w' : World, w'.heap = w.heap → News P w' 1 l.length xv (l.map byteV).toArray := by
  unfold newsB at h
  split at h
  · rename_i l
    cases hx
    exact ⟨l, h, fun w' _ => ⟨by simp [Builtin.lenOf, ByteArray.size], firstCells_bytes l 1, by simp⟩⟩
  · rename_i id off n cap
    split at h
    · rename_i l e tot hg
      obtain ⟨hc, hK⟩ := gd_out h
      have hle := ble_le hc
      obtain ⟨r, o, hr, ho, hb, _⟩ := hi.blk _ _ hg
      cases hx with
      | slc hr' hl hoff hcap =>
      rename_i off' r' c'
      rw [hr] at hr'; cases hr'
      have hlen : ((l.drop off).take n).length = n := by simp; omega
      refine ⟨_, hK, fun w' hw' => ⟨by simp [Builtin.lenOf, hlen], ?_, by simp⟩⟩
      rw [hlen]
      simp only [Builtin.firstCells, Nat.mul_one]
      have ho' : w'.heap[r]? = some o := by rw [hw']; exact ho
      rcases hoff with rfl | h0
      · exact loadCells_bytes (ι := ι) (b := .bytes l e tot) hb hle ho'
      · have : n = 0 := by omega
        subst this
        simp [loadCells, loadCellsFrom]
    · exact h.elim
  · cases hx
    exact ⟨[], h, fun w' _ => ⟨by simp [Builtin.lenOf], by simp [Builtin.firstCells], by simp⟩⟩
  · exact h.elim

def nilL {α : Type} : List α → Bool
  | [] => true
  | _ => false
/-- The row is surely too small. -/
def fullC : ACap → Nat → Bool
  | .n c, n => Nat.blt c n
  | _, _ => false
theorem fullC_ok {cap : ACap} {n c : Nat} (h : fullC cap n = true) {ι : Inj} (hc : cap.den ι c) : c < n := by
  cases cap with
  | n k => have hc : c = k := hc; rw [hc]; exact blt_lt h
  | _ => cases h
def appendBA (P : Program) (e : TypeId) (s x : AVal) (H : AHeap) (K : AVal → AHeap → Prop) : Prop :=
  gd (zeroB ((zeroA P e).getD .nilFunc) && (Nat.beq ((szA P e).getD 0) 1 && Nat.beq ((bytesA P e).getD 0) 1))
  (match s with
  | .lit (.slice none 0 0) => newsB x H fun l => br (nilL l) (K s H)
      (gd (Nat.ble l.length 140737488355328) (K (.slc (Nat.succ H.next) 0 l.length (.u H.next 0)) (H.nm.new (.bytes l e (.u H.next 1)))))
  | .slc id 0 len cap => match H.get id with
    | some (.bytes old e' tot) => newsB x H fun l => br (fullC cap (len + l.length)) (gd (Nat.beq e' e && (Nat.ble len old.length && Nat.ble (len + l.length) 140737488355328))
        (K (.slc (Nat.succ H.next) 0 (len + l.length) (.u H.next 0)) (H.nm.new (.bytes (old.take len ++ l) e (.u H.next 1))))) <| gd (Nat.beq e' e && (Nat.ble len old.length && (capFits 1 cap tot && (Nat.ble (len + l.length) 140737488355328 && !H.isRo id))))
      (K (.slc (Nat.succ H.next) 0 (len + l.length) (.u H.next 0)) ((H.nm.del id).new (.bytes (old.take len ++ l) e (.u H.next 1))))
    | _ => False
  | _ => False)

theorem spliceV_eq : ∀ (c : List Value) (n : Nat) (v : List Value), n + v.length ≤ c.length → spliceV c n v = c.take n ++ v ++ c.drop (n + v.length)
  | c, 0, [], _ => by simp [spliceV_nil]
  | [], 0, _ :: _, h => by simp at h
  | c :: cs, 0, v :: vs, h => by
    have := spliceV_eq cs 0 vs (by simp at h ⊢; omega)
    simp only [spliceV, this]
    simp
  | [], n + 1, v, h => by simp at h
  | c :: cs, n + 1, v, h => by
    have := spliceV_eq cs n v (by simp at h ⊢; omega)
    simp only [spliceV, this]
    have e : n + 1 + v.length = (n + v.length) + 1 := by omega
    rw [e]
    simp
theorem zeroCells_len (z : Array Value) (n : Nat) : (Builtin.zeroCells z n).size = n * z.size := by simp [Builtin.zeroCells]

theorem some_getD {α : Type} {o : Option α} {d x : α} (h : o.getD d = x) (hne : d ≠ x) : o = some x := by
  cases o with
  | none => exact (hne h).elim
  | some y => simp at h; rw [h]

theorem appendB_ok {t u xt e : TypeId} {s x : AVal} {sv xv : Value} {K : AVal → AHeap → Prop} (h : appendBA P e s x H K) (hu : P.underlying t = some (.slice e)) (hxt : notIntA P xt = true) (hi : Inv w0 F0 ι H w) (hs : Den ι s sv) (hx : Den ι x xv) :
    Ok w0 F0 ι K ((Builtin.append_ #[t, xt] u #[sv, xv]).run P w) := by
  obtain ⟨hc, h⟩ := gd_out h
  simp only [Bool.and_eq_true] at hc
  obtain ⟨hz, hsz, hby⟩ := hc
  have hsz := some_getD (Nat.eq_of_beq_eq_true hsz) (by omega)
  have hby := some_getD (Nat.eq_of_beq_eq_true hby) (by omega)
  have hz : zeroA P e = some (byteV 0) := some_getD (zeroB_ok hz) (by simp [byteV])
  have hzc : ∀ n, (Builtin.zeroCells (byteV 0).cells n).toList.length = n := fun n => by rw [Array.length_toList, zeroCells_len]; simp [byteV, Value.cells]
  split at h
  · cases hs
    obtain ⟨l, hK, hn⟩ := newsB_ok (P := P) h hi hx
    rcases br_out hK with ⟨hnil, hK⟩ | ⟨hnil, hK⟩
    · have : l = [] := by cases l with | nil => rfl | cons _ _ => cases hnil
      subst this
      have hrun : (Builtin.append_ #[t, xt] u #[.slice none 0 0, xv]).run P w = .ok (.slice none 0 0) w := by
        obtain ⟨d, hd, hnd⟩ := notIntA_ok hxt
        have e0 : (#[t, xt] : Array TypeId)[0]? = some t := rfl
        have e1 : (#[t, xt] : Array TypeId)[1]? = some xt := rfl
        have e2 : (#[Value.slice none 0 0, xv] : Array Value)[0]? = some (.slice none 0 0) := rfl
        have e3 : (#[Value.slice none 0 0, xv] : Array Value)[1]? = some xv := rfl
        have h1 := hn w rfl
        have hl := h1.len
        have hcl := h1.cells
        simp only [List.length_nil] at hl hcl
        simp only [Builtin.append_, e0, e1, e2, e3, Sem.run_bind, run_underlying hu, Result.andThen_ok, run_sizeOf hsz, run_underlying hd]
        cases d <;> first
          | exact (hnd _ rfl).elim
          | (simp only [Sem.run_pure, Result.andThen_ok, Bool.false_eq_true, if_false, hl, Nat.add_zero, Nat.le_refl, if_true, Bool.not_false, Sem.run_bind, hcl])
      rw [hrun]
      exact ⟨_, _, ι, hK, .lit, Inj.le_refl _, hi⟩
    · obtain ⟨hb, hK⟩ := gd_out hK
      have hb := ble_le hb
      have hpos : 0 < l.length := by cases l with | nil => cases hnil | cons _ _ => simp
      obtain ⟨c, hcge, hrun⟩ := append_grow (P := P) (w := w) (u := u) (base := none) (len := 0) (cap := 0) (olds := #[]) hu hsz hby hz hxt hn (fun w' _ => by simp [Builtin.firstCells]) (by omega) (by omega) (by omega)
      rw [hrun]
      rw [Nat.zero_add] at hcge
      obtain ⟨ι1, hle1, hn1, hd0⟩ := (hi.drew (w.drawn + 1)).name c
      obtain ⟨ι', hle, hnn, hinv⟩ := hd0.new (b := .bytes l e (.u H.next 1)) (o := .cells (#[] ++ (l.map byteV).toArray ++ Builtin.zeroCells (byteV 0).cells (c - (0 + l.length))) e (0, 0))
        ⟨(Builtin.zeroCells (byteV 0).cells (c - (0 + l.length))).toList, (0, 0), by simp [← Array.toList_inj], ⟨c, hn1, by rw [hzc]; omega⟩, fun k _ hh => by simp at hh⟩
      refine ⟨_, _, ι', hK, ?_, Inj.le_trans hle1 hle, hinv⟩
      rw [Nat.zero_add]
      exact .slc hnn hcge (.inl rfl) ⟨c, hle _ _ hn1, rfl⟩
  · rename_i id len cap _
    split at h
    · rename_i old e' tot hg
      obtain ⟨r, o, hr, ho, hbd, hf⟩ := hi.blk _ _ hg
      cases hs with
      | slc hr' hl hoff hcapd =>
      rename_i off' r' cap'
      rw [hr] at hr'; cases hr'
      obtain ⟨l, hK, hn⟩ := newsB_ok (P := P) h hi hx
      rcases br_out hK with ⟨hfull, hK⟩ | ⟨_, hK⟩
      · obtain ⟨hc, hK⟩ := gd_out hK
        simp only [Bool.and_eq_true] at hc
        have h0 := Nat.eq_of_beq_eq_true hc.1
        subst h0
        have h1 := ble_le hc.2.1
        have h3 := ble_le hc.2.2
        have hroom := fullC_ok hfull hcapd
        obtain ⟨c, hcge, hrun⟩ := append_grow (P := P) (w := w) (u := u) (base := some ⟨r, off', none⟩) (len := len) (cap := cap') (olds := ((old.take len).map byteV).toArray) hu hsz hby hz hxt hn (fun w' hw' => by
          simp only [Builtin.firstCells, Nat.mul_one]
          have ho' : w'.heap[r]? = some o := by rw [hw']; exact ho
          rcases hoff with rfl | h0
          · have := loadCells_bytes (P := P) (b := .bytes old e' tot) (off := 0) (len := len) hbd (by omega) ho'
            simpa using this
          · have : len = 0 := by omega
            subst this
            simp [loadCells, loadCellsFrom]) (by omega) (by omega) (by omega)
        rw [hrun]
        obtain ⟨ι1, hle1, hn1, hd0⟩ := (hi.drew (w.drawn + 1)).name c
        obtain ⟨ι', hle, hnn, hinv⟩ := hd0.new (b := .bytes (old.take len ++ l) e' (.u H.next 1)) (o := .cells (((old.take len).map byteV).toArray ++ (l.map byteV).toArray ++ Builtin.zeroCells (byteV 0).cells (c - (len + l.length))) e' (0, 0))
          ⟨(Builtin.zeroCells (byteV 0).cells (c - (len + l.length))).toList, (0, 0), by simp [← Array.toList_inj], ⟨c, hn1, by rw [hzc]; simp; omega⟩, fun k _ hh => by simp at hh⟩
        exact ⟨_, _, ι', hK, .slc hnn hcge (.inl rfl) ⟨c, hle _ _ hn1, rfl⟩, Inj.le_trans hle1 hle, hinv⟩
      obtain ⟨hc, hK⟩ := gd_out hK
      simp only [Bool.and_eq_true] at hc
      have h0 := Nat.eq_of_beq_eq_true hc.1
      subst h0
      have h1 := ble_le hc.2.1
      have h2 := hc.2.2.1
      have h3 := ble_le hc.2.2.2.1
      have hro : H.isRo id = false := by simpa using hc.2.2.2.2
      by_cases hroom : len + l.length ≤ cap'
      · obtain ⟨rest, fz, rfl, ht, hfz⟩ := hbd
        have hrun := append_room (P := P) (u := u) hu hsz hxt (hn w rfl) (r := r) (off := off') (len := len) (cap := cap') hroom
        have h2 := capFits_ok h2 hcapd ht
        rw [Nat.mul_one] at h2
        have hlen : cap' ≤ (old.map byteV ++ rest).length := by simp; omega
        have hlen2 : (old.map byteV ++ rest).length = old.length + rest.length := by simp
        have hst : ((storeCells ⟨r, off' + len * 1, none⟩ ((l.map byteV).toArray).toList).run P w) = .ok () (setBlk w r (.cells (spliceV (old.map byteV ++ rest) len (l.map byteV)).toArray e' fz)) := by
          rcases hoff with rfl | hcap
          · have := run_storeCells (P := P) (r := r) (off := len) (e := e') (fz := fz) (l.map byteV) 0 w (old.map byteV ++ rest) ho (by rw [List.length_map]; omega) (fun k hk1 hk2 => hfz k (by simp at hk2; omega)) (by intro v hv; simp at hv; obtain ⟨b, _, rfl⟩ := hv; rfl)
            simpa using this
          · have hl0 : l = [] := by cases l with | nil => rfl | cons _ _ => simp at hroom; omega
            subst hl0
            simp only [List.map_nil, storeCells, Sem.run_pure, spliceV_nil]
            rw [setBlk_self ho]
        rw [hst] at hrun
        simp only [Result.andThen_ok] at hrun
        rw [hrun]
        obtain ⟨ι1, hle1, hn1, hi1⟩ := hi.name cap'
        obtain ⟨ι', hle, hnn, hinv⟩ := hi1.rebind (id := id) hg (hle1 _ _ hr) hro (b' := .bytes (old.take len ++ l) e' (.u H.next 1)) (o' := .cells (spliceV (old.map byteV ++ rest) len (l.map byteV)).toArray e' fz) (w' := setBlk w r (.cells (spliceV (old.map byteV ++ rest) len (l.map byteV)).toArray e' fz)) (fun ι' hle' =>
          ⟨(old.map byteV ++ rest).drop (len + l.length), fz, by
            rw [spliceV_eq _ _ _ (by rw [List.length_map]; omega), List.take_append_of_le_length (by simpa using h1)]
            simp [List.map_take], ⟨cap', hle' _ _ hn1, by simp; omega⟩, fun k hk => hfz k (by simp at hk; omega)⟩) (setBlk_get ho) (fun k hk => setBlk_other hk) setBlk_size rfl rfl rfl
        refine ⟨_, _, ι', hK, .slc hnn hroom ?_ ⟨cap', hle _ _ hn1, rfl⟩, Inj.le_trans hle1 hle, hinv⟩
        rcases hoff with ho' | ho'
        · exact .inl ho'
        · exact .inr ho'
      · obtain ⟨c, hcge, hrun⟩ := append_grow (P := P) (w := w) (u := u) (base := some ⟨r, off', none⟩) (len := len) (cap := cap') (olds := ((old.take len).map byteV).toArray) hu hsz hby hz hxt hn (fun w' hw' => by
          simp only [Builtin.firstCells, Nat.mul_one]
          have ho' : w'.heap[r]? = some o := by rw [hw']; exact ho
          rcases hoff with rfl | h0
          · have := loadCells_bytes (P := P) (b := .bytes old e' tot) (off := 0) (len := len) hbd (by omega) ho'
            simpa using this
          · have : len = 0 := by omega
            subst this
            simp [loadCells, loadCellsFrom]) (by omega) (by omega) (by omega)
        rw [hrun]
        obtain ⟨ι1, hle1, hn1, hd1⟩ := (hi.drew (w.drawn + 1)).name c
        have hd0 := hd1.del id
        obtain ⟨ι', hle, hnn, hinv⟩ := hd0.new (b := .bytes (old.take len ++ l) e' (.u H.next 1)) (o := .cells (((old.take len).map byteV).toArray ++ (l.map byteV).toArray ++ Builtin.zeroCells (byteV 0).cells (c - (len + l.length))) e' (0, 0))
          ⟨(Builtin.zeroCells (byteV 0).cells (c - (len + l.length))).toList, (0, 0), by simp [← Array.toList_inj], ⟨c, hn1, by rw [hzc]; simp; omega⟩, fun k _ hh => by simp at hh⟩
        exact ⟨_, _, ι', hK, .slc hnn hcge (.inl rfl) ⟨c, hle _ _ hn1, rfl⟩, Inj.le_trans hle1 hle, hinv⟩
    · exact h.elim
  · exact h.elim

/-! ### rows -/
def newsR (sz : Nat) (x : AVal) (H : AHeap) (K : Nat → List AVal → Prop) : Prop :=
  match x with
  | .slc id off n _ => match H.get id with
    | some (.row cs _ _) => gd (Nat.ble (off + n * sz) cs.length) (K n ((cs.drop off).take (n * sz)))
    | _ => False
  | .lit (.slice none 0 0) => K 0 []
  | _ => False
theorem loadCells_row {cs : List AVal} {e : TypeId} {tot : ATot} {o : Obj} {off len r : Nat} (hb : BDen ι (.row cs e tot) o) (hle : off + len ≤ cs.length) (hw : w.heap[r]? = some o) :
    ∃ vs, DenL ι ((cs.drop off).take len) vs ∧ vs.length = len ∧ ∀ w' : World, w'.heap = w.heap → (loadCells ⟨r, off, none⟩ len).run P w' = .ok vs.toArray w' := by
  obtain ⟨c, rest, rfl, hd, _⟩ := hb
  have hl := hd.length
  refine ⟨(c.drop off).take len, (hd.drop off).take len, by simp; omega, fun w' hw' => ?_⟩
  rw [run_loadCells (w := w') (c := (c ++ rest).toArray) (e := e) (fz := (0, 0)) (by rw [hw']; exact hw) off len (by simp; omega)]
  congr 2
  simp only [List.drop_append]
  rw [List.take_append_of_le_length (by simp; omega)]
theorem newsR_ok {sz : Nat} {x : AVal} {xv : Value} {K : Nat → List AVal → Prop} (h : newsR sz x H K) (hi : Inv w0 F0 ι H w) (hx : Den ι x xv) : ∃ n l vs, K n l ∧ DenL ι l vs ∧ vs.length = n * sz ∧ ∀ w' : World, w'.heap = w.heap → News P w' sz n xv vs.toArray := by
  unfold newsR at h
  split at h
  · rename_i id off n cap
    split at h
    · rename_i cs e tot hg
      obtain ⟨hc, hK⟩ := gd_out h
      have hle := ble_le hc
      obtain ⟨r, o, hr, ho, hb, _⟩ := hi.blk _ _ hg
      cases hx with
      | slc hr' hl hoff hcap =>
      rename_i off' r' c'
      rw [hr] at hr'; cases hr'
      obtain ⟨vs, hd, hvl, hrun⟩ := loadCells_row (P := P) hb hle ho
      refine ⟨n, _, vs, hK, hd, hvl, fun w' hw' => ⟨by simp [Builtin.lenOf], ?_, by simpa using hvl⟩⟩
      simp only [Builtin.firstCells]
      rcases hoff with rfl | h0
      · exact hrun w' hw'
      · have : n = 0 := by omega
        subst this
        have : vs = [] := by simpa using hvl
        subst this
        simp [loadCells, loadCellsFrom]
    · exact h.elim
  · cases hx
    exact ⟨0, [], [], h, .nil, by simp, fun w' _ => ⟨by simp [Builtin.lenOf], by simp [Builtin.firstCells], by simp⟩⟩
  · exact h.elim

def isZero : Nat → Bool
  | 0 => true
  | _ => false
def appendRA (P : Program) (e : TypeId) (s x : AVal) (H : AHeap) (K : AVal → AHeap → Prop) : Prop :=
  match szA P e, bytesA P e, zeroA P e with
  | some (sz + 1), some b, some z => gd (Nat.beq z.cells.size (sz + 1))
    (match s with
    | .lit (.slice none 0 0) => newsR (sz + 1) x H fun n l => br (isZero n) (K s H)
        (gd (Nat.ble (n * b) 140737488355328 && Nat.ble n 140737488355328) (K (.slc (Nat.succ H.next) 0 n (.u H.next 0)) (H.nm.new (.row l e (.u H.next (sz + 1))))))
    | .slc id 0 len cap => match H.get id with
      | some (.row old e' tot) => newsR (sz + 1) x H fun n l => gd (Nat.beq e' e && (Nat.ble (len * (sz + 1)) old.length && (capFits (sz + 1) cap tot && (Nat.ble ((len + n) * b) 140737488355328 && (Nat.ble (len + n) 140737488355328 && (l.all oneA && !H.isRo id))))))
        (K (.slc (Nat.succ H.next) 0 (len + n) (.u H.next 0)) ((H.nm.del id).new (.row (old.take (len * (sz + 1)) ++ l) e (.u H.next (sz + 1)))))
      | _ => False
    | _ => False)
  | _, _, _ => False

theorem appendR_ok {t u xt e : TypeId} {s x : AVal} {sv xv : Value} {K : AVal → AHeap → Prop} (h : appendRA P e s x H K) (hu : P.underlying t = some (.slice e)) (hxt : notIntA P xt = true) (hi : Inv w0 F0 ι H w) (hs : Den ι s sv) (hx : Den ι x xv) :
    Ok w0 F0 ι K ((Builtin.append_ #[t, xt] u #[sv, xv]).run P w) := by
  unfold appendRA at h
  split at h
  · rename_i sz b z hsz hby hz
    obtain ⟨hzc, h⟩ := gd_out h
    have hzc := Nat.eq_of_beq_eq_true hzc
    have hzl : ∀ n, (Builtin.zeroCells z.cells n).toList.length = n * (sz + 1) := fun n => by rw [Array.length_toList, zeroCells_len, hzc]
    split at h
    · cases hs
      obtain ⟨n, l, vs, hK, hd, hvl, hn⟩ := newsR_ok (P := P) h hi hx
      rcases br_out hK with ⟨hnil, hK⟩ | ⟨hnil, hK⟩
      · have : n = 0 := by cases n with | zero => rfl | succ _ => cases hnil
        subst this
        have hvs : vs = [] := by simpa using hvl
        subst hvs
        have hrun : (Builtin.append_ #[t, xt] u #[.slice none 0 0, xv]).run P w = .ok (.slice none 0 0) w := by
          obtain ⟨d, hd, hnd⟩ := notIntA_ok hxt
          have e0 : (#[t, xt] : Array TypeId)[0]? = some t := rfl
          have e1 : (#[t, xt] : Array TypeId)[1]? = some xt := rfl
          have e2 : (#[Value.slice none 0 0, xv] : Array Value)[0]? = some (.slice none 0 0) := rfl
          have e3 : (#[Value.slice none 0 0, xv] : Array Value)[1]? = some xv := rfl
          have h1 := hn w rfl
          have hl := h1.len
          have hcl := h1.cells
          simp only [Builtin.append_, e0, e1, e2, e3, Sem.run_bind, run_underlying hu, Result.andThen_ok, run_sizeOf hsz, run_underlying hd]
          cases d <;> first
            | exact (hnd _ rfl).elim
            | (simp only [Sem.run_pure, Result.andThen_ok, Bool.false_eq_true, if_false, hl, Nat.add_zero, Nat.le_refl, if_true, Bool.not_false, Sem.run_bind, hcl])
        rw [hrun]
        exact ⟨_, _, ι, hK, .lit, Inj.le_refl _, hi⟩
      · obtain ⟨hb, hK⟩ := gd_out hK
        simp only [Bool.and_eq_true] at hb
        have hb1 := ble_le hb.1
        have hb2 := ble_le hb.2
        have hpos : 0 < n := by cases n with | zero => cases hnil | succ _ => omega
        obtain ⟨c, hcge, hrun⟩ := append_grow (P := P) (w := w) (u := u) (base := none) (len := 0) (cap := 0) (olds := #[]) hu hsz hby hz hxt hn (fun w' _ => by simp [Builtin.firstCells]) (by omega) (by rw [Nat.zero_add]; exact hb1) (by omega)
        rw [hrun]
        rw [Nat.zero_add] at hcge
        obtain ⟨ι1, hle1, hn1, hd0⟩ := (hi.drew (w.drawn + 1)).name c
        obtain ⟨ι', hle, hnn, hinv⟩ := hd0.new (b := .row l e (.u H.next (sz + 1))) (o := .cells (#[] ++ vs.toArray ++ Builtin.zeroCells z.cells (c - (0 + n))) e (0, 0))
          ⟨vs, (Builtin.zeroCells z.cells (c - (0 + n))).toList, by simp [← Array.toList_inj], hd.mono hle1, ⟨c, hn1, by
            refine Nat.le_of_eq ?_
            rw [hzl, hvl, ← Nat.add_mul]; congr 1; omega⟩⟩
        refine ⟨_, _, ι', hK, ?_, Inj.le_trans hle1 hle, hinv⟩
        rw [Nat.zero_add]
        exact .slc hnn hcge (.inl rfl) ⟨c, hle _ _ hn1, rfl⟩
    · rename_i id len cap _
      split at h
      · rename_i old e' tot hg
        obtain ⟨r, o, hr, ho, hbd, hf⟩ := hi.blk _ _ hg
        cases hs with
        | slc hr' hl hoff hcapd =>
        rename_i off' r' cap'
        rw [hr] at hr'; cases hr'
        obtain ⟨n, l, vs, hK, hd, hvl, hn⟩ := newsR_ok (P := P) h hi hx
        obtain ⟨hc, hK⟩ := gd_out hK
        simp only [Bool.and_eq_true] at hc
        have h0 := Nat.eq_of_beq_eq_true hc.1
        subst h0
        have h1 := ble_le hc.2.1
        have h2 := hc.2.2.1
        have h3 := ble_le hc.2.2.2.1
        have h4 := ble_le hc.2.2.2.2.1
        have h5 := hc.2.2.2.2.2.1
        have hro : H.isRo id = false := by simpa using hc.2.2.2.2.2.2
        by_cases hroom : len + n ≤ cap'
        · obtain ⟨c, rest, rfl, hcd, ht⟩ := hbd
          have hcl := hcd.length
          have hmul : (len + n) * (sz + 1) ≤ cap' * (sz + 1) := Nat.mul_le_mul_right _ hroom
          have h2 := capFits_ok h2 hcapd ht
          rw [Nat.add_mul] at hmul
          have hlen : cap' * (sz + 1) ≤ (c ++ rest).length := by simp; omega
          have hrun := append_room (P := P) (u := u) hu hsz hxt (hn w rfl) (r := r) (off := off') (len := len) (cap := cap') hroom
          have hst : ((storeCells ⟨r, off' + len * (sz + 1), none⟩ (vs.toArray).toList).run P w) = .ok () (setBlk w r (.cells (spliceV (c ++ rest) (len * (sz + 1)) vs).toArray e' (0, 0))) := by
            rcases hoff with rfl | hcap
            · have := run_storeCells (P := P) (r := r) (off := len * (sz + 1)) (e := e') (fz := (0, 0)) vs 0 w (c ++ rest) ho (by omega) (fun k hk1 hk2 hh => by simp at hh) (hd.one h5)
              simpa using this
            · have hn0 : n = 0 := by omega
              subst hn0
              have : vs = [] := by simpa using hvl
              subst this
              simp only [storeCells, Sem.run_pure, spliceV_nil]
              rw [setBlk_self ho]
          rw [hst] at hrun
          simp only [Result.andThen_ok] at hrun
          rw [hrun]
          obtain ⟨ι1, hle1, hn1, hi1⟩ := hi.name cap'
          obtain ⟨ι', hle, hnn, hinv⟩ := hi1.rebind (id := id) hg (hle1 _ _ hr) hro (b' := .row (old.take (len * (sz + 1)) ++ l) e' (.u H.next (sz + 1))) (o' := .cells (spliceV (c ++ rest) (len * (sz + 1)) vs).toArray e' (0, 0)) (w' := setBlk w r (.cells (spliceV (c ++ rest) (len * (sz + 1)) vs).toArray e' (0, 0))) (fun ι' hi' =>
            ⟨c.take (len * (sz + 1)) ++ vs, (c ++ rest).drop (len * (sz + 1) + vs.length), by
              rw [spliceV_eq _ _ _ (by omega), List.take_append_of_le_length (by omega)], ((hcd.take _).append hd).mono (Inj.le_trans hle1 hi'), ⟨cap', hi' _ _ hn1, by simp at hlen ⊢; omega⟩⟩) (setBlk_get ho) (fun k hk => setBlk_other hk) setBlk_size rfl rfl rfl
          refine ⟨_, _, ι', hK, .slc hnn hroom ?_ ⟨cap', hle _ _ hn1, rfl⟩, Inj.le_trans hle1 hle, hinv⟩
          rcases hoff with ho' | ho'
          · exact .inl ho'
          · exact .inr ho'
        · obtain ⟨os, hod, hol, horun⟩ := loadCells_row (P := P) (off := 0) (len := len * (sz + 1)) hbd (by omega) ho
          rw [List.drop_zero] at hod
          obtain ⟨c, hcge, hrun⟩ := append_grow (P := P) (w := w) (u := u) (base := some ⟨r, off', none⟩) (len := len) (cap := cap') (olds := os.toArray) hu hsz hby hz hxt hn (fun w' hw' => by
            simp only [Builtin.firstCells]
            rcases hoff with rfl | h0
            · exact horun w' hw'
            · have : len = 0 := by omega
              subst this
              have : os = [] := by simpa using hol
              subst this
              simp [loadCells, loadCellsFrom]) (by omega) h3 h4
          rw [hrun]
          obtain ⟨ι1, hle1, hn1, hd1⟩ := (hi.drew (w.drawn + 1)).name c
          have hd0 := hd1.del id
          obtain ⟨ι', hle, hnn, hinv⟩ := hd0.new (b := .row (old.take (len * (sz + 1)) ++ l) e' (.u H.next (sz + 1))) (o := .cells (os.toArray ++ vs.toArray ++ Builtin.zeroCells z.cells (c - (len + n))) e' (0, 0))
            ⟨os ++ vs, (Builtin.zeroCells z.cells (c - (len + n))).toList, by simp [← Array.toList_inj], (hod.append hd).mono hle1, ⟨c, hn1, by
              refine Nat.le_of_eq ?_
              rw [hzl, List.length_append, hol, hvl, ← Nat.add_mul, ← Nat.add_mul]; congr 1; omega⟩⟩
          exact ⟨_, _, ι', hK, .slc hnn hcge (.inl rfl) ⟨c, hle _ _ hn1, rfl⟩, Inj.le_trans hle1 hle, hinv⟩
      · exact h.elim
    · exact h.elim
  · exact h.elim

def appendA (P : Program) (ts : Array TypeId) (s x : AVal) (H : AHeap) (K : AVal → AHeap → Prop) : Prop :=
  match ts.toList with
  | [t, xt] => match P.underlying t with
    | some (.slice e) => gd (notIntA P xt) (cond (isU8 P e) (appendBA P e s x H K) (appendRA P e s x H K))
    | _ => False
  | _ => False
theorem append_ok {ts : Array TypeId} {u : TypeId} {s x : AVal} {sv xv : Value} {K : AVal → AHeap → Prop} (h : appendA P ts s x H K) (hi : Inv w0 F0 ι H w) (hs : Den ι s sv) (hx : Den ι x xv) :
    Ok w0 F0 ι K ((Builtin.append_ ts u #[sv, xv]).run P w) := by
  unfold appendA at h
  split at h
  · rename_i t xt ht
    have ht : ts = #[t, xt] := by rw [← Array.toList_inj]; exact ht
    subst ht
    split at h
    · rename_i e hu
      obtain ⟨hxt, h⟩ := gd_out h
      cases hb : isU8 P e with
      | true => rw [hb] at h; exact appendB_ok h hu hxt hi hs hx
      | false => rw [hb] at h; exact appendR_ok h hu hxt hi hs hx
    · exact h.elim
  · exact h.elim

/-! ### copy -/
def spliceB : List UInt8 → Nat → List UInt8 → List UInt8
  | c :: cs, 0, v :: vs => v :: spliceB cs 0 vs
  | c :: cs, n + 1, vs => c :: spliceB cs n vs
  | cs, _, _ => cs
theorem spliceB_map : ∀ (c : List UInt8) (n : Nat) (v : List UInt8), (spliceB c n v).map byteV = spliceV (c.map byteV) n (v.map byteV)
  | [], 0, _ => by cases ‹List UInt8› <;> rfl
  | [], _ + 1, _ => rfl
  | _ :: _, 0, [] => rfl
  | _ :: cs, 0, _ :: vs => by simp [spliceB, spliceV, spliceB_map cs 0 vs]
  | _ :: cs, n + 1, vs => by simp [spliceB, spliceV, spliceB_map cs n vs]
theorem spliceB_length (c : List UInt8) (n : Nat) (v : List UInt8) : (spliceB c n v).length = c.length := by
  have := congrArg List.length (spliceB_map c n v)
  simpa [spliceV_length] using this

def copyA (P : Program) (ts : Array TypeId) (d x : AVal) (H : AHeap) (K : AVal → AHeap → Prop) : Prop :=
  match ts.toList, d with
  | t :: _, .slc id off n _ => match P.underlying t with
    | some (.slice e) => cond (isU8 P e)
      (gd (Nat.beq ((szA P e).getD 0) 1) (newsB x H fun l => match H.get id with
        | some (.bytes old e' tot) => gd (Nat.ble (off + Nat.min l.length n) old.length && !H.isRo id) (K (.lit (.int .i64 (Nat.min l.length n : Nat))) (H.set id (.bytes (spliceB old off (l.take n)) e' tot)))
        | _ => False))
      (match szA P e with
        | some (sz + 1) => newsR (sz + 1) x H fun m l => match H.get id with
          | some (.row old e' tot) => gd (Nat.ble (off + (Nat.min m n) * (sz + 1)) old.length && (l.all oneA && !H.isRo id)) (K (.lit (.int .i64 (Nat.min m n : Nat))) (H.set id (.row (splice old off (l.take ((Nat.min m n) * (sz + 1)))) e' tot)))
          | _ => False
        | _ => False)
    | _ => False
  | _, _ => False
end
end Go.Sx
