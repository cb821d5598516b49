/- A part of the proof of this claim: lemmas of its own; what is proved, and on what conditions, the last text says. -/
import Derived.Test.YtfpckklhljbelaaGreatDoorSx9
set_option linter.all false
namespace Go.Sx
open Go
variable [Syms]

section
variable {P : Program} {w0 w : World} {F0 : Fp} {ι : Inj} {H : AHeap}

/-! ### slices written out -/
def toBytes : List AVal → Option (List UInt8)
  | [] => some []
  | .lit (.int .u8 n) :: r => match toBytes r with
    | some l => some (UInt8.ofNat n.toNat :: l)
    | none => none
  | _ => none
def bytesIn : List AVal → Bool
  | [] => true
  | .lit (.int .u8 n) :: r => decide (0 ≤ n) && (decide (n < 256) && bytesIn r)
  | _ => false
theorem toBytes_ok : ∀ {cs : List AVal} {vs : List Value} {l : List UInt8}, DenL ι cs vs → toBytes cs = some l → bytesIn cs = true → vs = l.map byteV
  | [], _, l, h, ht, _ => by cases h; simp [toBytes] at ht; subst ht; rfl
  | c :: cs, _, l, h, ht, hb => by
    cases h with
    | cons hc hcs =>
      unfold toBytes at ht
      split at ht
      · rename_i h; cases h
      · rename_i n r heq
        cases heq
        split at ht
        · rename_i l' hl'
          cases ht
          simp only [bytesIn, Bool.and_eq_true, decide_eq_true_eq] at hb
          cases hc
          rw [toBytes_ok hcs hl' hb.2.2, List.map_cons, byte_of_int n hb.1 hb.2.1]
        · cases ht
      · cases ht

def placeArr (sz : Nat) (i : Nat) : Option (Nat × Nat) := some (i * sz, sz)
def buildSliceA (P : Program) (t : TypeId) (len : Nat) (parts : List (Nat × AVal)) (H : AHeap) (K : AVal → AHeap → Prop) : Prop :=
  match P.underlying t with
  | some (.slice e) => match szA P e, zeroA P e with
    | some (sz + 1), some z => gd (Nat.beq z.cells.size (sz + 1) && Nat.ble (len * (sz + 1)) 16777216)
      (match fillA (placeArr (sz + 1)) (repL len (AVal.lit z).cells) parts with
      | some cs => cond (isU8 P e)
        (match toBytes cs with
          | some l => gd (bytesIn cs && Nat.beq l.length len) (K (.slc H.next 0 len (.n len)) (H.new (.bytes l e (.n len))))
          | none => False)
        (K (.slc H.next 0 len (.n len)) (H.new (.row cs e (.n cs.length))))
      | none => False)
    | _, _ => False
  | _ => False
theorem buildSlice_ok {t : TypeId} {len : Nat} {parts : List (Nat × AVal)} {ps : Array (Nat × Value)} {K : AVal → AHeap → Prop} (h : buildSliceA P t len parts H K) (hi : Inv w0 F0 ι H w) (hd : PartsDen ι parts ps.toList) : Ok w0 F0 ι K ((Instr.buildSlice t len ps).run P w) := by
  unfold buildSliceA at h
  split at h
  · rename_i e hu
    split at h
    · rename_i sz z hs hz
      obtain ⟨hc, h⟩ := gd_out h
      simp only [Bool.and_eq_true] at hc
      have h4 := Nat.eq_of_beq_eq_true hc.1
      have h5 := ble_le hc.2
      split at h
      · rename_i cs hcs
        have hrow : ((Array.range (len * (sz + 1))).map (fun i => z.cells[i % z.cells.size]!)) = (List.replicate len z.cells.toList).flatten.toArray := by
          rw [← zeros_cells z sz h4]
          simp [← Array.toList_inj]
        obtain ⟨vs, hf, hden⟩ := fillA_ok (ι := ι) (placeArr (sz + 1)) hd (cells := repL len (AVal.lit z).cells) (cs := (List.replicate len z.cells.toList).flatten.toArray) (by simpa using repL_den (Den.cells (Den.lit (ι := ι) (v := z)) rfl) len) hcs
        have hrun : (Instr.buildSlice t len ps).run P w = .ok (.slice (some ⟨w.heap.size, 0, none⟩) len len) { w with heap := w.heap.push (.cells vs e) } := by
          have hz0 : ((if len * (sz + 1) = 0 then pure #[] else do pure (← zeroValue e).cells : Sem (Array Value)).run P w).andThen (fun zero w' => Result.ok ((Array.range (len * (sz + 1))).map (fun i => zero[i % zero.size]!)) w') = .ok ((List.replicate len z.cells.toList).flatten.toArray) w := by
            by_cases hl : len = 0
            · subst hl
              have hr0 : Array.range 0 = #[] := rfl
              simp [hr0]
            · rw [if_neg (Nat.mul_ne_zero hl (by omega))]
              simp only [Sem.run_bind, run_zero hz, Result.andThen_ok, Sem.run_pure, hrow]
          have hlim : ¬ (len * (sz + 1) > 2 ^ 24) := by have : (2 : Nat) ^ 24 = 16777216 := by decide
                                                        omega
          have hplace : (fun i => some (i * (sz + 1), sz + 1)) = placeArr (sz + 1) := rfl
          simp only [Instr.buildSlice, Sem.run_bind, run_underlying hu, Result.andThen_ok, run_sizeOf hs]
          rw [if_neg hlim]
          by_cases hl : len = 0
          · subst hl
            simp only [Nat.zero_mul, if_true, Sem.run_pure, Result.andThen_ok, Sem.run_bind]
            have hr0 : Array.range 0 = #[] := rfl
            simp only [hr0, Array.map_empty, hplace]
            simp only [List.replicate_zero, List.flatten_nil] at hf
            have : (([] : List Value).toArray) = #[] := rfl
            rw [this] at hf
            rw [hf]
            simp [run_newRow]
          · rw [if_neg (Nat.mul_ne_zero hl (by omega))]
            simp only [Sem.run_bind, run_zero hz, Result.andThen_ok, Sem.run_pure, hrow, hplace, hf, run_newRow]
        rw [hrun]
        cases hb : isU8 P e with
        | true =>
          rw [hb] at h
          simp only [cond_true] at h
          split at h
          · rename_i l hl
            obtain ⟨hc2, h⟩ := gd_out h
            simp only [Bool.and_eq_true] at hc2
            have hlen := Nat.eq_of_beq_eq_true hc2.2
            have hvs := toBytes_ok hden hl hc2.1
            obtain ⟨ι', hle, hn, hinv⟩ := hi.new (b := .bytes l e (.n len)) (o := .cells vs e (0, 0)) ⟨[], (0, 0), by simp [← hvs], by show _ ≤ _; simp [hlen], fun k _ hh => by simp at hh⟩
            exact ⟨_, _, ι', h, .slc hn (Nat.le_refl _) (.inl rfl) rfl, hle, hinv⟩
          · exact h.elim
        | false =>
          rw [hb] at h
          simp only [cond_false] at h
          obtain ⟨ι', hle, hn, hinv⟩ := hi.new (row_den (e := e) hden)
          exact ⟨_, _, ι', h, .slc hn (Nat.le_refl _) (.inl rfl) rfl, hle, hinv⟩
      · exact h.elim
    · exact h.elim
  · exact h.elim

/-! ### methods -/
def findM (name : String) : List Method → Option Method
  | [] => none
  | m :: r => cond (m.name == name) (some m) (findM name r)
theorem findM_eq (name : String) : ∀ (l : List Method), findM name l = l.find? (·.name == name)
  | [] => rfl
  | m :: r => by simp only [findM, List.find?_cons, findM_eq name r]; cases (m.name == name) <;> rfl

theorem run_fieldPlace {fld : Field} {k r off : Nat} (hs : szA P fld.type = some (k + 1)) : (fieldPlace ⟨r, off, none⟩ fld).run P w = .ok ⟨r, addA off fld.offset, none⟩ w := by
  simp [fieldPlace, run_sizeOf hs, addr_add, addA_eq]
theorem run_wrapNil (ts : Array TypeId) (u : TypeId) (a : Addr) (x y : String) : (Builtin.ssaWrapNilChk_ ts u #[.pointer (some a), strVal x, strVal y]).run P w = .ok (.pointer (some a)) w := rfl

def methA (P : Program) : Nat → AVal → String → AHeap → (FuncId → AVal → Prop) → Prop
  | 0, _, _, _, _ => False
  | n + 1, .ifc t v, name, H, K =>
    match P.info? t with
    | some i => match findM name i.methods.toList with
      | some m => match m.path.toList, m.func with
        | [], some (f, pr) => match P.underlying t, pr with
          | some (.pointer _), true => K f v
          | some (.pointer e), false => match v with
            | .ptr _ _ => loadA P e v H (fun x _ => K f x)
            | _ => False
          | some _, false => K f v
          | _, _ => False
        | [s], none => match P.underlying s.struct, s.deref, v with
          | some (.struct fs), true, .ptr id off => match nthA fs.toList s.index with
            | some fld => match szA P fld.type with
              | some (_ + 1) => loadA P fld.type (.ptr id (addA off fld.offset)) H (fun x _ => methA P n x name H K)
              | _ => False
            | none => False
          | some (.struct fs), false, v => match aggL v, nthA fs.toList s.index with
            | some cs, some fld => partA P fld.type cs fld.offset (fun x => methA P n x name H K)
            | _, _ => False
          | _, _, _ => False
        | _, _ => False
      | none => False
    | none => False
  | _, _, _, _, _ => False

theorem meth_ok : ∀ (n d : Nat) {x : AVal} {t : TypeId} {v : Value} {name : String} {K : FuncId → AVal → Prop}, methA P n x name H K → Inv w0 F0 ι H w → Den ι x (.iface t v) →
    ∃ f a r, (method (d + n) t v name).run P w = .ok (f, r) w ∧ Den ι a r ∧ K f a := by
  intro n
  induction n with
  | zero => intro d x t v name K h; exact h.elim
  | succ n ih =>
    intro d x t v name K h hi hx
    have e1 : d + (n + 1) = (d + n) + 1 := by omega
    rw [e1]
    cases hx with
    | lit => exact h.elim
    | any _ _ => exact h.elim
    | top => exact h.elim
    | ifc hv =>
    rename_i a
    simp only [methA] at h
    split at h
    · rename_i i hinf
      split at h
      · rename_i m hm
        have hm' : i.methods.find? (·.name == name) = some m := by
          rw [findM_eq] at hm
          rw [← Array.find?_toList]
          exact hm
        split at h
        · rename_i f pr hp hf
          have hpath : m.path.isEmpty = true := by
            have : m.path = #[] := by rw [← Array.toList_inj]; exact hp
            rw [this]; rfl
          have base : ∀ {r : Value}, (receiverAt t (.val v) pr (some ((name.splitOn ".").getLastD name))).run P w = .ok r w → (method ((d + n) + 1) t v name).run P w = .ok (f, r) w := by
            intro r hr
            simp only [method, Sem.run_bind, run_typeInfo hinf, Result.andThen_ok, hm', hp, follow, Sem.run_pure, hf, hpath, if_true, hr]
          split at h
          · rename_i e hu
            exact ⟨f, a, v, base (by simp [receiverAt, run_underlying hu, Place.get]), hv, h⟩
          · rename_i e hu
            split at h
            · rename_i id off
              obtain ⟨x, y, hrun, hden, hK⟩ := loadA_ro (P := P) (K := fun x _ => K f x) h hi hv
              have hrun := hrun w rfl
              cases hv with
              | @ptr _ _ r hr =>
              have hl : (loadVar e ⟨r, off, none⟩).run P w = .ok y w := by
                rw [← hrun]; simp [Instr.loadAt, Instr.sureAddr]
              refine ⟨f, x, y, base ?_, hden, hK⟩
              simp only [receiverAt, Sem.run_bind, run_underlying hu, Result.andThen_ok, Place.get, Sem.run_pure, run_wrapNil, asAddr, hl]
            · exact h.elim
          · rename_i d0 hnp hu
            refine ⟨f, a, v, base ?_, hv, h⟩
            simp only [receiverAt, Sem.run_bind, run_underlying hu, Result.andThen_ok]
            cases d0 <;> first | rfl | exact (hnp _ hu).elim
          · exact h.elim
        · rename_i s hp hf
          have hmeth : ∀ {xt : TypeId} {px : Place} {t' : TypeId} {v' : Value}, (follow [s] t (.val v)).run P w = .ok (xt, px) w → (px.get xt).run P w = .ok (.iface t' v') w → ∀ {res : FuncId × Value}, (method (d + n) t' v' name).run P w = .ok res w → (method ((d + n) + 1) t v name).run P w = .ok res w := by
            intro xt px t' v' h1 h2 res h3
            simp only [method, Sem.run_bind, run_typeInfo hinf, Result.andThen_ok, hm', hp, h1, hf, h2, h3]
          split at h
          · rename_i fs id off hu hder
            split at h
            · rename_i fld hfld
              rw [nthA_eq] at hfld
              have hfld' : fs[s.index]? = some fld := by simpa using hfld
              split at h
              · rename_i k hsz
                cases hv with
                | @ptr _ _ r hr =>
                obtain ⟨x, y, hrun, hden, hK⟩ := loadA_ro (P := P) (K := fun x _ => methA P n x name H K) h hi (.ptr hr)
                have hrun := hrun w rfl
                have hl : (loadVar fld.type ⟨r, addA off fld.offset, none⟩).run P w = .ok y w := by
                  rw [← hrun]; simp [Instr.loadAt, Instr.sureAddr]
                have hy : ∃ t' v', y = .iface t' v' := by
                  cases n with
                  | zero => exact hK.elim
                  | succ n =>
                    cases x <;> try exact hK.elim
                    cases hden
                    exact ⟨_, _, rfl⟩
                obtain ⟨t', v', rfl⟩ := hy
                obtain ⟨f, a', rr, hrm, hda, hKf⟩ := ih d hK hi hden
                refine ⟨f, a', rr, hmeth (xt := fld.type) (px := .var ⟨r, addA off fld.offset, none⟩) ?_ ?_ hrm, hda, hKf⟩
                · have hfp := run_fieldPlace (P := P) (w := w) (r := r) (off := off) hsz
                  simp only [follow, Sem.run_bind, run_underlying hu, Result.andThen_ok, hfld', hder, if_true, Place.get, Sem.run_pure, asAddr, hfp]
                · simpa [Place.get] using hl
              · exact h.elim
            · exact h.elim
          · rename_i fs hu hder
            split at h
            · rename_i cs fld hcs hfld
              rw [nthA_eq] at hfld
              have hfld' : fs[s.index]? = some fld := by simpa using hfld
              obtain ⟨c, rfl, hc⟩ := aggL_ok hcs hv
              obtain ⟨x, y, hrun, hden, hK⟩ := partA_ok (w := w) h hc
              have hy : ∃ t' v', y = .iface t' v' := by
                cases n with
                | zero => exact hK.elim
                | succ n =>
                  cases x <;> try exact hK.elim
                  cases hden
                  exact ⟨_, _, rfl⟩
              obtain ⟨t', v', rfl⟩ := hy
              obtain ⟨f, a', rr, hrm, hda, hKf⟩ := ih d hK hi hden
              refine ⟨f, a', rr, hmeth (xt := fld.type) (px := .val (.iface t' v')) ?_ ?_ hrm, hda, hKf⟩
              · simp only [follow, Sem.run_bind, run_underlying hu, Result.andThen_ok, hfld', hder, Bool.false_eq_true, if_false, hrun, Sem.run_pure]
              · simp [Place.get]
            · exact h.elim
          · exact h.elim
        · exact h.elim
      · exact h.elim
    · exact h.elim

end
end Go.Sx
