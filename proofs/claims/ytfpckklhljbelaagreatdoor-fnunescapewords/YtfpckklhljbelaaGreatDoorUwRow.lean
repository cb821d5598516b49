/-
  Proved: for every text s the law FnUnescapeWords returns true and leaves s as it was (Rows.FnUnescapeWordsCardSaid). Conditions: those of the given row alone: unicode/utf8.first and unicode/utf8.acceptRanges hold what the program's text lays (the card ties them); of the other package-level variables nothing is asked.
-/
import Derived.Test.YtfpckklhljbelaaGreatDoorUnP
import Derived.Test.YtfpckklhljbelaaGreatDoorFeLay
import Derived.Test.YtfpckklhljbelaaGreatDoorRows
import Derived.Test.YtfpckklhljbelaaGreatDoorCards
import Derived.Test.YtfpckklhljbelaaGreatDoorTie
import Derived.ProofKit
import Derived.OpenShut
import Derived.LaidMore
import Derived.Lay
import Derived.Lib.LaidU8
import Derived.SevenTiedAt
set_option linter.all false
namespace Go.Proofs.YtfpckklhljbelaaGreatDoor
open Go.ChangeShapes Go.WideShapes Go.ChangeAt Go.RowKit Go.Sx Go.Lib
theorem Tryz.own : ownKnob Tryz.prog.godebug = none := by kernel_rfl
theorem Tryz.laidOut : laidOutB Tryz.prog = true := by kernel_rfl
theorem cell_lt {w : World} {a : Addr} {v : Value} (h : w.cell? a = some v) : a.block < w.heap.size := by
  rcases Nat.lt_or_ge a.block w.heap.size with h' | h'
  · exact h'
  · simp [World.cell?, Array.getElem?_eq_none h'] at h
/-- What the two tables hold. -/
@[reducible]
def uwSyms : Syms where
  cls := fun _ => ⟨0, 0, 0, 0, 0⟩
  w := fun _ => []
  ok := fun _ => { lo := Nat.le_refl _, hi := Nat.le_refl _, all := (fun _ h => (by cases h)), fst := (fun _ h => (by cases h)), lst := (fun _ h => (by cases h)) }
  ng := 2
  good := fun w => Utf8Tabs 0 1 w
  mono := fun w w' h hg => by
    refine ⟨fun c hc => ?_, fun i hi => ?_⟩
    · rw [← hg.1 c hc]
      simp only [World.cell?, h 0 (by omega)]
    · have := hg.2 i hi
      refine ⟨?_, ?_⟩
      · rw [← this.1]; simp only [World.cell?, h 1 (by omega)]
      · rw [← this.2]; simp only [World.cell?, h 1 (by omega)]

theorem laid_met (os : Os) (args : Array Value) : laidMet Tryz.prog Rows.fnUnescapeWordsRow.laid ((World.laidAll Tryz.prog os Rows.fnUnescapeWordsRow.laid).forCall (fun _ _ => 0) ⟨#[], args, []⟩).memory :=
  laidMet_laidAll args (by kernel_rfl) (by kernel_rfl)
theorem c5 : Tryz.prog.cellsOf 5 = 1 := by kernel_rfl
theorem c98 : Tryz.prog.cellsOf 98 = 2 := by kernel_rfl
theorem c95 : Tryz.prog.cellsOf 95 = 256 := by kernel_rfl
theorem n0 : Tryz.prog.globalNamed "unicode/utf8.first" = some 0 := by kernel_rfl
theorem n1 : Tryz.prog.globalNamed "unicode/utf8.acceptRanges" = some 1 := by kernel_rfl
theorem y0 : (Tryz.prog.globals[0]?).map (·.type) = some 95 := by kernel_rfl
theorem y1 : (Tryz.prog.globals[1]?).map (·.type) = some 99 := by kernel_rfl
set_option maxRecDepth 100000 in
theorem tabs_of_reads {w : World} (h3 : VarReads Tryz.prog w "unicode/utf8.first" firstData) (h4 : VarReads Tryz.prog w "unicode/utf8.acceptRanges" acceptData) : Utf8Tabs 0 1 w := by
  refine ⟨fun c hc => ?_, fun i hi => ?_⟩
  · obtain ⟨g, t, cs, fuel, p, hg, hty, hvar, hd⟩ := h3
    obtain rfl := Option.some.inj (n0.symm.trans hg)
    obtain rfl := Option.some.inj (y0.symm.trans hty)
    have hcs := cells_of_tab Tryz.underlying95 Tryz.underlying5 c5 c95 hd
    have := World.var?_cell hg hvar c
    rw [this, ← Array.getElem?_toList, hcs]
    simp [firstTab, hc]
  · obtain ⟨g, t, cs, fuel, p, hg, hty, hvar, hd⟩ := h4
    obtain rfl := Option.some.inj (n1.symm.trans hg)
    obtain rfl := Option.some.inj (y1.symm.trans hty)
    obtain ⟨fuel', d, q, hdi, he⟩ := array_elem Tryz.underlying99 hd i hi
    simp only [List.getElem?_map, List.getElem?_range hi, Option.map_some, Option.some.injEq] at hdi
    subst hdi
    rw [c98] at he
    have hcs := ints_of_struct Tryz.underlying98 (fun j f hj => by
      match j, hj with
      | 0, hj => simp at hj; subst hj; exact ⟨Tryz.underlying5, rfl, c5⟩
      | 1, hj => simp at hj; subst hj; exact ⟨Tryz.underlying5, rfl, c5⟩
      | j + 2, hj => simp at hj) (by rw [c98]; rfl) he
    have e0 := congrArg (·[0]?) hcs
    have e1 := congrArg (·[1]?) hcs
    simp only [List.getElem?_take, List.getElem?_drop] at e0 e1
    constructor
    · rw [World.var?_cell hg hvar (2 * i), ← Array.getElem?_toList]
      simpa [Nat.mul_comm] using e0
    · rw [World.var?_cell hg hvar (2 * i + 1), ← Array.getElem?_toList]
      simpa [Nat.mul_comm] using e1
set_option maxRecDepth 100000 in
theorem tabs_of_laid {W : World} (h : laidMetH Tryz.prog Rows.fnUnescapeWordsRow.laid W) : Utf8Tabs 0 1 W := by
  rw [MakeChecks.laidMetH_plain _ _ _ (by kernel_rfl)] at h
  exact tabs_of_reads (laidMet.reads h (.tail _ (.head _))) (laidMet.reads h (.head _))
set_option maxRecDepth 100000 in
theorem uwHave (l : List UInt8) (W : World) (hT : Utf8Tabs 0 1 W) : Calls Tryz.prog 4 #[.string ⟨l.toArray⟩] W fun e W' => e = .returned (.bool true) ∧ Below W.heap.size W W' := by
  letI := uwSyms
  have hi : Inv W noF noι H0 W := by
    refine ⟨fun id b h => by simp [H0, AHeap.get, Tr.get_nil] at h, fun i j b c r h => by simp [H0, AHeap.get, Tr.get_nil] at h, fun _ _ => rfl, fun _ _ _ => rfl, Nat.le_refl _, rfl, rfl, rfl, hT, fun r hr => ⟨?_, fun h => h⟩⟩
    have h2 : r < 2 := hr
    have a0 := cell_lt (hT.1 0 (by omega))
    have a1 := cell_lt ((hT.2 0 (by omega)).1)
    simp only at a0 a1
    omega
  refine Calls.mono (T.uw_all (fun w h => h) Go.Proofs.Tryz.layDec rfl rfl rfl l W noF noι W [.string ⟨l.toArray⟩] hi (.cons .str .nil)) fun e W' he => ?_
  cases e with
  | returned v =>
    obtain ⟨a, H', ι', hk, hd, _, hinv⟩ := he
    have hk : a = .lit (.bool true) := hk
    subst hk
    cases hd
    exact ⟨rfl, hinv.os, hinv.tape, hinv.output, hinv.size, fun k hk => hinv.frame k hk (fun h => h)⟩
  | panicked _ => exact he.elim
  | outgrown => exact he.elim
set_option maxRecDepth 100000 in
theorem uw_lifted (os : Os) (started : os.Started) (H : Type) (enc : TypeId × Value → H) :
    ReturnsInHanded {} Tryz.checked os 4 .any (fun w args => (Rows.fnUnescapeWordsSpec.pre enc Tryz.prog Tryz.f4 [] false w args ∧ laidMetH Tryz.prog Rows.fnUnescapeWordsRow.laid w) ∧ sizedMet enc Tryz.prog Tryz.f4 (OpenSpec.ofChange Rows.fnUnescapeWordsSpec) false w args)
      (Rows.fnUnescapeWordsSpec.post enc Tryz.prog Tryz.f4 false true false false) := by
  refine returnsInHanded_of_change_and (C := Tryz.checked) (X := fun w _ => laidMetH Tryz.prog Rows.fnUnescapeWordsRow.laid w) (fun _ _ _ hh h => h.of_heap hh) Tryz.own started (by kernel_rfl) Tryz.func4
    (ChangeSpec.witness_at (enc := enc) (C := Tryz.checked) (os := os) (X := fun w _ => laidMetH Tryz.prog Rows.fnUnescapeWordsRow.laid w) false (World.laidAll Tryz.prog os Rows.fnUnescapeWordsRow.laid) #[.string ⟨#[]⟩] 8 (World.laidAll_os _ _ _) (by kernel_rfl) (by kernel_rfl) (by kernel_rfl) (by kernel_rfl) (by kernel_rfl)
      (by rw [MakeChecks.laidMetH_plain _ _ _ (by kernel_rfl)]; exact laid_met os _)) ?_
  intro W base args ds gs before hval0 hW _ _ hL _
  have hval : ∀ (j : Nat) t v, Tryz.f4.params[j]? = some t → args[j]? = some v → Value.okWide Tryz.prog W .any base t v := hval0
  have hW' := hW
  obtain ⟨p, q, hA0, hV0, rfl, hfz, hnd⟩ := hW
  have hA : DataW.TrodAll enc Tryz.prog W 0 (fun _ => true) true Tryz.f4.params.toList args.toList ds p := hA0
  have hV : DataW.TrodVars enc Tryz.prog W (fun _ => true) [] gs q := hV0
  rw [Tryz.params4] at hA hval
  obtain ⟨v0, d0, rfl, rfl, h0⟩ := trodAll_one hA
  obtain ⟨s, rfl, rfl, rfl, hs⟩ := Go.ChangeMaps.open_string Tryz.underlying9 (hval 0 9 v0 rfl rfl) h0
  obtain ⟨rfl, rfl⟩ := trodVars_none hV
  refine (uwHave s.data.toList W (tabs_of_laid hL)).mono fun e W' ⟨he, hb⟩ => ?_
  subst he
  have e1 : Rows.fnUnescapeWordsSpec.fn H ([.lit (.string s.data.toList)] ++ []) = { results := [.lit (.bool true)], args := [.lit (.string s.data.toList)] } := rfl
  refine ⟨_, rfl, _, _, _, [], [], [], hW', ?_, ?_, ?_, hb.frame _, fun h => by cases h⟩
  · rw [e1]; exact trodAll_mk1 (shut_bool Tryz.underlying4 true)
  · rw [e1]; exact trodAll_mk1 (Go.ChangeMaps.shut_string Tryz.underlying9 hs)
  · rw [e1]; rfl
theorem fnUnescapeWords_holds : Rows.FnUnescapeWordsSaid :=
  OpenClaim.holds_of_wide 4 Tryz.f4 rfl rfl rfl rfl rfl rfl rfl ⟨rfl, rfl, rfl, rfl, rfl⟩ rfl rfl rfl rfl rfl (by kernel_rfl) Tryz.func4 (by kernel_rfl)
    (of_decide_eq_true (by kernel_rfl)) (by unfold Func.isWrapper; rw [if_neg (of_decide_eq_false (by kernel_rfl))]; exact ⟨rfl, rfl⟩)
    (fun os started H enc _ => uw_lifted os started H enc)
theorem fnUnescapeWords_card : Rows.FnUnescapeWordsCardSaid :=
  Claim7.holds_tied_plain_at .later [] [.data, .pinned] true (true, "9d5f53bbc504fa0148d6fd5f46459182e419da25d9a967ef6186ba32f8ab4548") true
    fnUnescapeWords_holds (fun _ h => by cases h) (by kernel_rfl) (fun _ h => by cases h) fnUnescapeWords_row_tie rfl ⟨rfl, rfl⟩ (by kernel_rfl) rfl
    (fun f fn hf hfn => by
      obtain rfl : f = 4 := Option.some.inj ((show Tryz.prog.funcNamed "pub-ligature/laws.FnUnescapeWords" = some 4 by kernel_rfl).symm.trans hf) |>.symm
      obtain rfl : fn = Tryz.f4 := (Option.some.inj (Tryz.func4.symm.trans hfn)).symm
      exact ⟨by kernel_rfl, fun j t ht => by
        rw [Tryz.params4] at ht
        have h3 : t = 9 := by
          rcases j with _ | j
          · simpa using ht.symm
          · simp at ht
        subst h3
        exact (show Tryz.prog.wantsStandIn 9 = false by kernel_rfl)⟩)
    (by kernel_rfl)
#print axioms fnUnescapeWords_card
end Go.Proofs.YtfpckklhljbelaaGreatDoor
