/- A part of the proof of this claim: lemmas of its own; what is proved, and on what conditions, the last text says. -/
import Derived.Test.YtfpckklhljbelaaGreatDoorSx9
set_option linter.all false
namespace Go.Sx
open Go
variable [Syms]

section
variable {P : Program} {w0 w : World} {F0 : Fp} {ι : Inj} {H : AHeap}

theorem newsB_pre {x : AVal} {xv : Value} {K : List UInt8 → Prop} (h : newsB x H K) (hi : Inv w0 F0 ι H w) (hx : Den ι x xv) : ∃ l, K l ∧ (Builtin.lenOf xv).run P w = .ok l.length w ∧ ∀ k, k ≤ l.length → (Builtin.firstCells 1 k xv).run P w = .ok ((l.take k).map byteV).toArray w := by
  unfold newsB at h
  split at h
  · rename_i l
    cases hx
    refine ⟨l, h, by simp [Builtin.lenOf, ByteArray.size], fun k hk => ?_⟩
    have : ((⟨l.toArray⟩ : ByteArray).extract 0 k).data = (l.take k).toArray := by
      rw [extract_str]
      simp
    simp only [Builtin.firstCells, Sem.run_pure, this]
    congr 1
    simp
    rfl
  · rename_i id off n cap
    split at h
    · rename_i l e tot hg
      obtain ⟨hc, hK⟩ := gd_out h
      have hle := ble_le hc
      obtain ⟨r, o, hr, ho, hb, _⟩ := hi.blk _ _ hg
      cases hx with
      | slc hr' hl hoff hcap =>
      rename_i off' r' c'
      rw [hr] at hr'; cases hr'
      have hlen : ((l.drop off).take n).length = n := by simp; omega
      refine ⟨_, hK, by simp [Builtin.lenOf, hlen], fun k hk => ?_⟩
      rw [hlen] at hk
      simp only [Builtin.firstCells, Nat.mul_one]
      rw [List.take_take, Nat.min_eq_left hk]
      rcases hoff with rfl | h0
      · exact loadCells_bytes (ι := ι) (b := .bytes l e tot) hb (by omega) ho
      · have : k = 0 := by omega
        subst this
        simp [loadCells, loadCellsFrom]
    · exact h.elim
  · cases hx
    exact ⟨[], h, by simp [Builtin.lenOf], fun k hk => by simp [Builtin.firstCells]⟩
  · exact h.elim

theorem newsR_pre {sz : Nat} {x : AVal} {xv : Value} {K : Nat → List AVal → Prop} (h : newsR sz x H K) (hi : Inv w0 F0 ι H w) (hx : Den ι x xv) : ∃ n l, K n l ∧ (Builtin.lenOf xv).run P w = .ok n w ∧ ∀ k, k ≤ n → ∃ vs, DenL ι (l.take (k * sz)) vs ∧ vs.length = k * sz ∧ (Builtin.firstCells sz k xv).run P w = .ok vs.toArray w := by
  unfold newsR at h
  split at h
  · rename_i id off n cap
    split at h
    · rename_i cs e tot hg
      obtain ⟨hc, hK⟩ := gd_out h
      have hle := ble_le hc
      obtain ⟨r, o, hr, ho, hb, _⟩ := hi.blk _ _ hg
      cases hx with
      | slc hr' hl hoff hcap =>
      rename_i off' r' c'
      rw [hr] at hr'; cases hr'
      refine ⟨n, _, hK, by simp [Builtin.lenOf], fun k hk => ?_⟩
      have hks : k * sz ≤ n * sz := Nat.mul_le_mul_right _ hk
      obtain ⟨vs, hd, hvl, hrun⟩ := loadCells_row (P := P) (off := off) (len := k * sz) hb (by omega) ho
      refine ⟨vs, by rw [List.take_take, Nat.min_eq_left hks]; exact hd, hvl, ?_⟩
      simp only [Builtin.firstCells]
      rcases hoff with rfl | h0
      · exact hrun w rfl
      · have : k = 0 := by omega
        subst this
        have : vs = [] := by simpa using hvl
        subst this
        simp [loadCells, loadCellsFrom]
    · exact h.elim
  · cases hx
    exact ⟨0, [], h, by simp [Builtin.lenOf], fun k hk => by
      have : k = 0 := by omega
      subst this
      exact ⟨[], by simp; exact .nil, by simp, by simp [Builtin.firstCells]⟩⟩
  · exact h.elim

theorem copy_ok {ts : Array TypeId} {u : TypeId} {d x : AVal} {dv xv : Value} {K : AVal → AHeap → Prop} (h : copyA P ts d x H K) (hi : Inv w0 F0 ι H w) (hd : Den ι d dv) (hx : Den ι x xv) :
    Ok w0 F0 ι K ((Builtin.copy_ ts u #[dv, xv]).run P w) := by
  unfold copyA at h
  split at h
  · rename_i t ts' id off n cap hts
    have e0 : ts[0]? = some t := by
      have : ts.toList[0]? = some t := by rw [hts]; rfl
      simpa using this
    split at h
    · rename_i e hu
      cases hd with
      | slc hr hl hoff hcap =>
      rename_i off' r c'
      have e2 : (#[Value.slice (some ⟨r, off', none⟩) n c', xv] : Array Value)[0]? = some (.slice (some ⟨r, off', none⟩) n c') := rfl
      have e3 : (#[Value.slice (some ⟨r, off', none⟩) n c', xv] : Array Value)[1]? = some xv := rfl
      cases hb : isU8 P e with
      | true =>
        rw [hb] at h
        simp only [cond_true] at h
        obtain ⟨hsz, h⟩ := gd_out h
        have hsz := some_getD (Nat.eq_of_beq_eq_true hsz) (by omega)
        obtain ⟨l, hK, hlen, hn⟩ := newsB_pre (P := P) h hi hx
        split at hK
        · rename_i old e' tot hg
          obtain ⟨hc, hK⟩ := gd_out hK
          simp only [Bool.and_eq_true, Bool.not_eq_true'] at hc
          obtain ⟨hc, hro⟩ := hc
          have hle := ble_le hc
          obtain ⟨r', o, hr', ho, hbd, _⟩ := hi.blk _ _ hg
          rw [hr] at hr'; cases hr'
          obtain ⟨rest, fz, rfl, ht, hfz⟩ := hbd
          have hfc := hn (Nat.min l.length n) (Nat.min_le_left _ _)
          have htk : l.take (Nat.min l.length n) = l.take n := by
            show l.take (min l.length n) = _
            rcases Nat.le_total l.length n with hh | hh
            · rw [Nat.min_eq_left hh, List.take_length, List.take_of_length_le hh]
            · rw [Nat.min_eq_right hh]
          rw [htk] at hfc
          have hmin : (l.take n).length = Nat.min l.length n := by rw [List.length_take, Nat.min_comm]
          have hst : ((storeCells ⟨r, off', none⟩ (((l.take n).map byteV).toArray).toList).run P w) = .ok () (setBlk w r (.cells (spliceV (old.map byteV ++ rest) off ((l.take n).map byteV)).toArray e' fz)) := by
            rcases hoff with rfl | h0
            · have := run_storeCells (P := P) (r := r) (off := off') (e := e') (fz := fz) ((l.take n).map byteV) 0 w (old.map byteV ++ rest) ho (by simp only [List.length_append, List.length_map, hmin]; omega) (fun k hk1 hk2 => hfz k (by simp only [List.length_map, hmin] at hk2; omega)) (by intro v hv; obtain ⟨b, _, rfl⟩ := List.mem_map.1 hv; rfl)
              simpa using this
            · have hn0 : n = 0 := by omega
              subst hn0
              simp only [List.take_zero, List.map_nil, storeCells, Sem.run_pure, spliceV_nil]
              rw [setBlk_self ho]
          have hrun : (Builtin.copy_ ts u #[.slice (some ⟨r, off', none⟩) n c', xv]).run P w = .ok (goInt (Nat.min l.length n)) (setBlk w r (.cells (spliceV (old.map byteV ++ rest) off ((l.take n).map byteV)).toArray e' fz)) := by
            simp only [Builtin.copy_, e0, e2, e3, Sem.run_bind, run_underlying hu, Result.andThen_ok, hlen, run_sizeOf hsz, hfc, hst, Sem.run_pure]
          rw [hrun]
          refine ⟨_, _, ι, hK, .lit, Inj.le_refl _, ?_⟩
          refine hi.set hg hr hro (b' := .bytes (spliceB old off (l.take n)) e' tot) ⟨rest, fz, ?_, by rw [spliceB_length]; exact ht, by rw [spliceB_length]; exact hfz⟩ (setBlk_get ho) (fun k hk => setBlk_other hk) setBlk_size rfl rfl rfl
          rw [spliceB_map]
          congr 2
          have hbnd : off + ((l.take n).map byteV).length ≤ (old.map byteV).length := by simp only [List.length_map, hmin]; exact hle
          rw [spliceV_eq _ _ _ (by rw [List.length_append]; omega), spliceV_eq _ _ _ hbnd, List.take_append_of_le_length (by omega), List.drop_append_of_le_length hbnd]
          simp
        · exact hK.elim
      | false =>
        rw [hb] at h
        simp only [cond_false] at h
        split at h
        · rename_i sz hsz
          obtain ⟨m, l, hK, hlen, hn⟩ := newsR_pre (P := P) h hi hx
          split at hK
          · rename_i old e' tot hg
            obtain ⟨hc, hK⟩ := gd_out hK
            simp only [Bool.and_eq_true, Bool.not_eq_true'] at hc
            have hro := hc.2.2
            replace hc : _ ∧ l.all oneA = true := ⟨hc.1, hc.2.1⟩
            have hle := ble_le hc.1
            obtain ⟨r', o, hr', ho, hbd, _⟩ := hi.blk _ _ hg
            rw [hr] at hr'; cases hr'
            obtain ⟨c, rest, rfl, hcd, ht⟩ := hbd
            have hcl := hcd.length
            obtain ⟨vs, hvd, hvl, hfc⟩ := hn (Nat.min m n) (Nat.min_le_left _ _)
            have hvl' := hvd.length
            have hone : ∀ v ∈ vs, v.oneCell' = true := hvd.one (by
              rw [List.all_eq_true]
              intro a ha
              exact List.all_eq_true.1 hc.2 a (List.mem_of_mem_take ha))
            have hst : ((storeCells ⟨r, off', none⟩ (vs.toArray).toList).run P w) = .ok () (setBlk w r (.cells (spliceV (c ++ rest) off vs).toArray e' (0, 0))) := by
              rcases hoff with rfl | h0
              · have := run_storeCells (P := P) (r := r) (off := off') (e := e') (fz := (0, 0)) vs 0 w (c ++ rest) ho (by rw [List.length_append, hvl]; omega) (fun k hk1 hk2 hh => by simp at hh) hone
                simpa using this
              · have hn0 : n = 0 := by omega
                subst hn0
                have : vs = [] := by
                  have : Nat.min m 0 = 0 := Nat.min_eq_right (Nat.zero_le _)
                  rw [this] at hvl
                  simpa using hvl
                subst this
                simp only [storeCells, Sem.run_pure, spliceV_nil]
                rw [setBlk_self ho]
            have hrun : (Builtin.copy_ ts u #[.slice (some ⟨r, off', none⟩) n c', xv]).run P w = .ok (goInt (Nat.min m n)) (setBlk w r (.cells (spliceV (c ++ rest) off vs).toArray e' (0, 0))) := by
              simp only [Builtin.copy_, e0, e2, e3, Sem.run_bind, run_underlying hu, Result.andThen_ok, hlen, run_sizeOf hsz, hfc, hst, Sem.run_pure]
            rw [hrun]
            refine ⟨_, _, ι, hK, .lit, Inj.le_refl _, ?_⟩
            have hsp : spliceV (c ++ rest) off vs = spliceV c off vs ++ rest := by
              have hbnd : off + vs.length ≤ c.length := by rw [hvl]; omega
              rw [spliceV_eq _ _ _ (by rw [List.length_append]; omega), spliceV_eq _ _ _ hbnd, List.take_append_of_le_length (by omega), List.drop_append_of_le_length hbnd]
              simp
            rw [hsp]
            refine hi.set hg hr hro (b' := .row (splice old off (l.take ((Nat.min m n) * (sz + 1)))) e' tot) ⟨spliceV c off vs, rest, rfl, DenL.splice hcd off hvd, by rw [spliceV_length]; exact ht⟩ (setBlk_get ho) (fun k hk => setBlk_other hk) setBlk_size rfl rfl rfl
          · exact hK.elim
        · exact h.elim
    · exact h.elim
  · exact h.elim

end
end Go.Sx
