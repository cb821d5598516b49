/- A part of the proof of this claim: lemmas of its own; what is proved, and on what conditions, the last text says. -/
import Derived.Test.YtfpckklhljbelaaGreatDoorSxE
import Derived.KernelRfl
set_option linter.all false
namespace Go.Sx
open Go
variable [Syms]

/-! ### the library functions that the model reckons itself: what sort.Slice asks of reflectlite -/
section
variable {P : Program} {w0 w : World} {F0 : Fp} {ι : Inj} {H : AHeap}

/-- A function without a body, whose reckoning is `e`. -/
structure ExtOk (P : Program) (f : FuncId) (e : Array Value → Sem Value) : Prop where
  ex : ∃ fn, P.funcs[f]? = some fn ∧ fn.body.isNone = true ∧ (fn.name == "runtime.NumGoroutine") = false ∧ Extern.findNext fn = none ∧ Extern.find fn = some e

theorem run_extern {f : FuncId} {e : Array Value → Sem Value} (h : ExtOk P f e) (args : Array Value) : (callFunc f args).run P w = (do pure (.value (← e args)) : Sem Next).run P w := by
  obtain ⟨fn, hf, hb, hn, h1, h2⟩ := h.ex
  simp only [callFunc, Sem.run_bind, run_program, Result.andThen_ok, hf]
  rw [if_neg (by rw [hn]; simp), if_pos hb]
  simp only [h1, h2, Sem.run_bind, mark]
  rfl

theorem run_under {t : TypeId} {d : TypeDesc} (h : P.underlying t = some d) : ∃ u i, (Extern.Rtype.under t).run P w = .ok (u, i) w ∧ i.desc = d := by
  unfold Program.underlying at h
  cases hi : P.info? t with
  | none => rw [hi] at h; cases h
  | some i =>
    rw [hi] at h
    obtain ⟨desc, str, size, bytes, hp, al, fal, zero, cmp, ms⟩ := i
    cases desc
    case named n u =>
      simp only [Option.map_eq_some_iff] at h
      obtain ⟨j, hj, hd⟩ := h
      refine ⟨u, j, ?_, hd⟩
      simp only [Extern.Rtype.under, Sem.run_bind, run_typeInfo hi, Result.andThen_ok, run_typeInfo hj, Sem.run_pure]
    all_goals
      cases h
      refine ⟨t, _, ?_, rfl⟩
      simp only [Extern.Rtype.under, Sem.run_bind, run_typeInfo hi, Result.andThen_ok, Sem.run_pure]
theorem run_kind_slice {t e : TypeId} (h : P.underlying t = some (.slice e)) : (Extern.Rtype.kind t).run P w = .ok 23 w := by
  obtain ⟨u, i, hr, hd⟩ := run_under (w := w) h
  simp only [Extern.Rtype.kind, Sem.run_bind, hr, Result.andThen_ok, hd, Sem.run_pure]
theorem run_kind_struct {t : TypeId} {fs : Array Field} (h : P.underlying t = some (.struct fs)) : (Extern.Rtype.kind t).run P w = .ok 25 w := by
  obtain ⟨u, i, hr, hd⟩ := run_under (w := w) h
  simp only [Extern.Rtype.kind, Sem.run_bind, hr, Result.andThen_ok, hd, Sem.run_pure]
theorem run_elem {t e : TypeId} (h : P.underlying t = some (.slice e)) : (Extern.Rtype.elem? t).run P w = .ok (some e) w := by
  obtain ⟨u, i, hr, hd⟩ := run_under (w := w) h
  simp only [Extern.Rtype.elem?, Sem.run_bind, hr, Result.andThen_ok, hd, Sem.run_pure]

def valueOfE : Array Value → Sem Value := fun args => Extern.ReflectliteValue.unpack (args.getD 0 (.tuple #[]))
def valueOfA (P : Program) : Spec := fun args H K => match args with
  | [.ifc t v] => match P.underlying t with
    | some (.slice _) => gd (nt v) (K (.agg [.lit (typeHandle P t), .ptr H.next 0, .lit (.int .u64 (Int.ofNat 151))]) (H.new (.row v.cells t (.n v.cells.length))))
    | _ => False
  | _ => False
theorem valueOf_ok {f : FuncId} (h : ExtOk P f valueOfE) : SpecOk P f (valueOfA P) := by
  intro args H K hs w0 F0 ι w vs hi hd
  unfold valueOfA at hs
  split at hs
  · rename_i t v
    cases hd with
    | cons h1 h2 =>
    cases h2
    cases h1 with
    | @ifc _ _ x hx =>
    split at hs
    · rename_i e hu
      obtain ⟨hnt, hs⟩ := gd_out hs
      rw [run_extern h]
      obtain ⟨ι', hle, hn, hinv⟩ := hi.new (b := .row v.cells t (.n v.cells.length)) (o := .cells x.cells t (0, 0)) (row_den (by simpa using hx.cells hnt))
      have hrun : (valueOfE [Value.iface t x].toArray).run P w = .ok (.agg #[typeHandle P t, .pointer (some ⟨w.heap.size, 0, none⟩), .int .u64 (Int.ofNat 151)]) { w with heap := w.heap.push (.cells x.cells t (0, 0)) } := by
        have e0 : ([Value.iface t x].toArray).getD 0 (.tuple #[]) = .iface t x := rfl
        simp only [valueOfE, e0, Extern.ReflectliteValue.unpack, Sem.run_bind, newVar, run_newRow, Result.andThen_ok, Extern.ReflectliteValue.mk, Extern.Rtype.handle, run_program, Sem.run_pure, run_kind_slice hu]
        rfl
      refine next_of_ok ?_
      rw [hrun]
      refine ⟨_, _, ι', hs, ?_, hle, hinv⟩
      exact .agg (.cons .lit (.cons (.ptr hn) (.cons .lit .nil)))
    · exact hs.elim
  · exact hs.elim

def lenE : Array Value → Sem Value := Extern.ReflectliteValue.method (Extern.ReflectliteValue.valueError "reflectlite.Value.Len" 0) Extern.ReflectliteValue.len
def lenVA (P : Program) : Spec := fun args H K => match args with
  | [.agg [.lit h, .ptr id off, .lit (.int .u64 n)]] => match handleType P h with
    | some t => match P.underlying t with
      | some (.slice _) => gd (decide (n = 151) && !P.packed t) (loadA P t (.ptr id off) H (fun v H => match v with
        | .slc _ _ n _ => K (.lit (.int .i64 n)) H
        | .lit (.slice none n _) => K (.lit (.int .i64 n)) H
        | _ => False))
      | _ => False
    | none => False
  | _ => False
theorem lenV_ok {f : FuncId} (h : ExtOk P f lenE) : SpecOk P f (lenVA P) := by
  intro args H K hs w0 F0 ι w vs hi hd
  unfold lenVA at hs
  split at hs
  · rename_i hh id off n
    cases hd with
    | cons h1 h2 =>
    cases h2
    cases h1 with
    | agg h1 =>
    cases h1 with
    | cons ha hb =>
    cases ha
    cases hb with
    | cons hb hc =>
    cases hc with
    | cons hc hd =>
    cases hd
    cases hc
    split at hs
    · rename_i t ht
      split at hs
      · rename_i e hu
        obtain ⟨hcc, hs2⟩ := gd_out hs
        clear hs
        simp only [Bool.and_eq_true, decide_eq_true_eq, Bool.not_eq_true'] at hcc
        obtain ⟨rfl, hp⟩ := hcc
        rw [run_extern h]
        cases hb with
        | ptr hr =>
        rename_i r
        obtain ⟨x, y, hrun, hden, hK⟩ := loadA_ro (P := P) hs2 hi (.ptr hr)
        have hl := hrun w rfl
        have hl' : (loadVar t ⟨r, off, none⟩).run P w = .ok y w := by simpa [Instr.loadAt, Instr.sureAddr] using hl
        obtain ⟨u, i, hru, hdesc⟩ := run_under (w := w) hu
        have hlen : ∀ m : Nat, (Builtin.len_ #[t] 0 #[y]).run P w = .ok (.int .i64 m) w → (lenE [Value.agg [hh, .pointer (some ⟨r, off, none⟩), .int .u64 151].toArray].toArray).run P w = .ok (.int .i64 m) w := by
          intro m hm
          have e1 : lenE [Value.agg [hh, .pointer (some ⟨r, off, none⟩), .int .u64 151].toArray].toArray = (do
              match ← Extern.ReflectliteValue.parts (.agg [hh, .pointer (some ⟨r, off, none⟩), .int .u64 151].toArray) with
              | none => Extern.ReflectliteValue.valueError "reflectlite.Value.Len" 0
              | some (t, a, fl) => Extern.ReflectliteValue.len t a fl (fl % 32)) := rfl
          have e2 : Extern.ReflectliteValue.partsAny (.agg [hh, .pointer (some ⟨r, off, none⟩), .int .u64 151].toArray) = (do pure (some (← Extern.Rtype.ofHandle hh, ⟨r, off, none⟩, 151))) := rfl
          have e3 : (Extern.Rtype.ofHandle hh).run P w = .ok t w := by
            simp only [Extern.Rtype.ofHandle, Sem.run_bind, run_program, Result.andThen_ok, ht, Sem.run_pure]
          have e4 : ∀ s, (Extern.Rtype.noPack s t).run P w = .ok () w := fun s => by
            simp only [Extern.Rtype.noPack, Sem.run_bind, run_program, Result.andThen_ok, hp, Bool.false_eq_true, if_false, Sem.run_pure]
          have e5 : (Extern.ReflectliteValue.len t ⟨r, off, none⟩ 151 (151 % 32)).run P w = .ok (.int .i64 m) w := by
            have : (!([17, 18, 21, 23, 24] : List Nat).contains (151 % 32)) = false := by decide
            simp only [Extern.ReflectliteValue.len, this, Bool.false_eq_true, if_false, Sem.run_bind, Sem.run_pure, Result.andThen_ok, hru, hdesc, hl', hm]
          rw [e1]
          simp only [Sem.run_bind, Extern.ReflectliteValue.parts, e2, e3, Result.andThen_ok, Sem.run_pure, e4, e5]
        split at hK
        · rename_i id' off' m cap
          cases hden with
          | slc a b c d =>
          refine next_of_ok ?_
          rw [hlen m (by simp [Builtin.len_, run_underlying hu, goInt])]
          exact ⟨_, _, ι, hK, .lit, Inj.le_refl _, hi⟩
        · cases hden
          rename_i m c
          refine next_of_ok ?_
          rw [hlen m (by simp [Builtin.len_, run_underlying hu, goInt])]
          exact ⟨_, _, ι, hK, .lit, Inj.le_refl _, hi⟩
        · exact hK.elim
      · exact hs.elim
    · exact hs.elim
  · exact hs.elim

def swapperE : Array Value → Sem Value := Extern.ReflectliteSwapper.swapper "internal/reflectlite" (Extern.ReflectliteValue.valueError "Swapper")
/-- The number of the function `internal/reflectlite.Swapper$k`. -/
def SwOk (P : Program) (sw : Nat → FuncId) : Prop := ∀ k, k = 1 ∨ k = 2 ∨ k = 9 → P.funcs.findIdx? (·.name == "internal/reflectlite" ++ ".Swapper$" ++ toString k) = some (sw k)
def swapperA (P : Program) (sw : Nat → FuncId) : Spec := fun args H K => match args with
  | [.ifc t s] => match P.underlying t with
    | some (.slice e) => match P.info? e, P.underlying e with
      | some i, some (.struct _) => match s with
        | .lit (.slice none 0 0) => K (.fn (.func (sw 1)) [] []) H
        | .slc id off n cap => match n with
          | 0 => K (.fn (.func (sw 1)) [] []) H
          | 1 => K (.fn (.func (sw 2)) [] []) H
          | n + 2 => gd (i.hasPointers && !(i.bytes == 8)) (K (.fn (.func (sw 9)) [] [.slc id off (n + 2) cap, .lit (typeHandle P e)]) H)
        | _ => False
      | _, _ => False
    | _ => False
  | _ => False
theorem swapper_ok {f : FuncId} {sw : Nat → FuncId} (h : ExtOk P f swapperE) (hsw : SwOk P sw) : SpecOk P f (swapperA P sw) := by
  intro args H K hs w0 F0 ι w vs hi hd
  unfold swapperA at hs
  split at hs
  · rename_i t s
    cases hd with
    | cons h1 h2 =>
    cases h2
    cases h1 with
    | @ifc _ _ x hx =>
    split at hs
    · rename_i e hu
      split at hs
      · rename_i i fs hinf hue
        rw [run_extern h]
        -- the reckoning, for a slice of n
        have main : ∀ (b : Option Addr) (n c k : Nat) (bound : Array Value), x = .slice b n c →
            (if n == 0 then 1 else if n == 1 then 2 else if i.hasPointers && i.bytes == 8 then 3 else if i.hasPointers && (25 : Nat) == 24 then 4 else if i.hasPointers then 9 else match i.bytes with | 8 => 5 | 4 => 6 | 2 => 7 | 1 => 8 | _ => 9 : Nat) = k →
            (k = 1 ∨ k = 2 ∨ k = 9) → (if k ≤ 2 then #[] else #[Value.slice b n c, typeHandle P e]) = bound →
            (swapperE [Value.iface t x].toArray).run P w = .ok (.func (.func (sw k)) #[] bound) w := by
          intro b n c k bound hxe hk hk3 hb
          subst hxe
          have e1 : swapperE [Value.iface t (.slice b n c)].toArray = (do
            let (.slice _ n _, some e) := (Value.slice b n c, ← Extern.Rtype.elem? t) | Extern.ReflectliteValue.valueError "Swapper" (← Extern.Rtype.kind t)
            let i ← typeInfo e
            let isString := (← Extern.Rtype.kind e) == 24
            let k : Nat :=
              if n == 0 then 1 else if n == 1 then 2
              else if i.hasPointers && i.bytes == 8 then 3
              else if i.hasPointers && isString then 4
              else if i.hasPointers then 9
              else match i.bytes with | 8 => 5 | 4 => 6 | 2 => 7 | 1 => 8 | _ => 9
            let h ← Extern.Rtype.handle e
            Extern.ReflectliteSwapper.literal "internal/reflectlite" k (if k ≤ 2 then #[] else #[Value.slice b n c, h])) := by kernel_rfl
          rw [e1]
          simp only [Sem.run_bind, run_elem hu, Result.andThen_ok, run_typeInfo hinf, run_kind_struct hue, Extern.Rtype.handle, run_program, Sem.run_pure]
          rw [hk, hb]
          simp only [Extern.ReflectliteSwapper.literal, Sem.run_bind, run_program, Result.andThen_ok, hsw k hk3, Sem.run_pure]
        split at hs
        · cases hx
          refine next_of_ok ?_
          rw [main none 0 0 1 #[] rfl rfl (.inl rfl) rfl]
          exact ⟨_, _, ι, hs, .fn .nil .nil, Inj.le_refl _, hi⟩
        · rename_i id off n cap
          cases hx with
          | slc hr hl ho hc =>
          rename_i off' r c
          split at hs
          · refine next_of_ok ?_
            rw [main _ 0 c 1 #[] rfl rfl (.inl rfl) rfl]
            exact ⟨_, _, ι, hs, .fn .nil .nil, Inj.le_refl _, hi⟩
          · refine next_of_ok ?_
            rw [main _ 1 c 2 #[] rfl rfl (.inr (.inl rfl)) rfl]
            exact ⟨_, _, ι, hs, .fn .nil .nil, Inj.le_refl _, hi⟩
          · rename_i n
            obtain ⟨hg, hs⟩ := gd_out hs
            simp only [Bool.and_eq_true, Bool.not_eq_true'] at hg
            obtain ⟨hp, hb8⟩ := hg
            refine next_of_ok ?_
            rw [main _ (n + 2) c 9 #[Value.slice (some ⟨r, off', none⟩) (n + 2) c, typeHandle P e] rfl (by
              simp only [hp, hb8, Bool.true_and, Bool.false_eq_true, if_false, if_true]
              simp) (.inr (.inr rfl)) rfl]
            exact ⟨_, _, ι, hs, .fn .nil (.cons (.slc hr hl ho hc) (.cons .lit .nil)), Inj.le_refl _, hi⟩
        · exact hs.elim
      · exact hs.elim
    · exact hs.elim
  · exact hs.elim

def swapE : Array Value → Sem Value := Extern.ReflectliteSwapper.swap false
def swapA (P : Program) : Spec := fun args H K => match args with
  | [.lit (.int .i64 i), .lit (.int .i64 j), .slc id off n _, .lit h] => match handleType P h with
    | some e => match szA P e with
      | some sz => gd (decide (0 ≤ i) && decide (i < (n : Int)) && (decide (0 ≤ j) && decide (j < (n : Int))))
        (loadA P e (.ptr id (off + i.toNat * sz)) H (fun x _ => loadA P e (.ptr id (off + j.toNat * sz)) H (fun y _ =>
          storeA P e (.ptr id (off + i.toNat * sz)) y H (fun H1 => storeA P e (.ptr id (off + j.toNat * sz)) x H1 (fun H2 => K undefA H2)))))
      | none => False
    | none => False
  | _ => False
theorem swap_ok {f : FuncId} (h : ExtOk P f swapE) : SpecOk P f (swapA P) := by
  intro args H K hs w0 F0 ι w vs hi hd
  unfold swapA at hs
  split at hs
  · rename_i i j id off n cap hh
    cases hd with
    | cons h1 hd =>
    cases h1
    cases hd with
    | cons h1 hd =>
    cases h1
    cases hd with
    | cons hsl hd =>
    cases hd with
    | cons h1 hd =>
    cases h1
    cases hd
    cases hsl with
    | slc hr hl ho hc =>
    rename_i off' r c
    split at hs
    · rename_i e he
      split at hs
      · rename_i sz hsz
        obtain ⟨hg, hs⟩ := gd_out hs
        simp only [Bool.and_eq_true, decide_eq_true_eq] at hg
        obtain ⟨⟨hi0, hin⟩, hj0, hjn⟩ := hg
        have ho' : off' = off := by
          rcases ho with ho | ho
          · exact ho
          · omega
        subst ho'
        rw [run_extern h]
        have ld : ∀ {k : Nat} {v : Value} {w : World}, (Instr.loadAt e (.pointer (some ⟨r, k, none⟩))).run P w = .ok v w → (loadVar e ⟨r, k, none⟩).run P w = .ok v w := fun hl => by simpa [Instr.loadAt, Instr.sureAddr] using hl
        have st : ∀ {k : Nat} {v : Value} {w : World}, (Instr.storeAt e (.pointer (some ⟨r, k, none⟩)) v).run P w = (storeVar e ⟨r, k, none⟩ v).run P w := fun {k v w} => by simp [Instr.storeAt, Instr.sureAddr]
        obtain ⟨x, xv, hxr, hxd, hs⟩ := loadA_ro (P := P) hs hi (.ptr hr)
        obtain ⟨y, yv, hyr, hyd, hs⟩ := loadA_ro (P := P) hs hi (.ptr hr)
        have s1 := storeA_ok (P := P) hs hi (.ptr hr) hyd
        rw [st] at s1
        refine next_of_ok ?_
        have e1 : swapE [Value.int .i64 i, .int .i64 j, .slice (some ⟨r, off', none⟩) n c, hh].toArray = (do
            if false = true then
              if i < 0 || i ≥ n then boundsPanic .i64 i n .index
              if j < 0 || j ≥ n then boundsPanic .i64 j n .index
            else if i < 0 || i ≥ n || j < 0 || j ≥ n then Extern.ReflectliteSwapper.outOfRange
            Extern.ReflectliteSwapper.exchange (← Extern.Rtype.ofHandle hh) ⟨r, off', none⟩ i.toNat j.toNat) := rfl
        have hnot : (decide (i < 0) || decide (i ≥ (n : Int)) || decide (j < 0) || decide (j ≥ (n : Int))) = false := by
          simp only [Bool.or_eq_false_iff, decide_eq_false_iff_not]
          omega
        rw [e1]
        simp only [Bool.false_eq_true, if_false, hnot, Sem.run_bind, Sem.run_pure, Result.andThen_ok, Extern.Rtype.ofHandle, run_program, he, Extern.ReflectliteSwapper.exchange, run_sizeOf hsz, addr_add, ld (hxr w rfl), ld (hyr w rfl)]
        cases hr1 : (storeVar e ⟨r, off' + i.toNat * sz, none⟩ yv).run P w with
        | halt a b => rw [hr1] at s1; exact s1.elim
        | ok u w1 =>
          rw [hr1] at s1
          obtain ⟨H1, ι1, hs, hle1, hi1⟩ := s1
          have s2 := storeA_ok (P := P) hs hi1 (.ptr (hle1 _ _ hr)) (hxd.mono hle1)
          rw [st] at s2
          simp only [Result.andThen_ok]
          cases hr2 : (storeVar e ⟨r, off' + j.toNat * sz, none⟩ xv).run P w1 with
          | halt a b => rw [hr2] at s2; exact s2.elim
          | ok u w2 =>
            rw [hr2] at s2
            obtain ⟨H2, ι2, hs, hle2, hi2⟩ := s2
            exact ⟨_, H2, ι2, hs, .tup .nil, Inj.le_trans hle1 hle2, hi2⟩
      · exact hs.elim
    · exact hs.elim
  · exact hs.elim
end
end Go.Sx
