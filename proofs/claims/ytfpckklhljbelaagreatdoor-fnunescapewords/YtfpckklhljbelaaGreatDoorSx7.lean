/- A part of the proof of this claim: lemmas of its own; what is proved, and on what conditions, the last text says. -/
import Derived.Test.YtfpckklhljbelaaGreatDoorSx6
set_option linter.all false
namespace Go.Sx
open Go
variable [Syms]

section
variable {P : Program} {w0 w : World} {F0 : Fp} {ι : Inj} {H : AHeap}

/-- A block is given another number: the old one is gone. -/
theorem Inv.rebind (h : Inv w0 F0 ι H w) {id r : Nat} {b b' : ABlk} {o' : Obj} (hg : H.get id = some b) (hr : ι id = some r) (hro : H.isRo id = false)
    {w' : World} (hb : ∀ ι' : Inj, ι.le ι' → BDen ι' b' o') (hw : w'.heap[r]? = some o') (hoth : ∀ k, k ≠ r → w'.heap[k]? = w.heap[k]?) (hsz : w'.heap.size = w.heap.size) (ht : w'.tape = w.tape) (hos : w'.os = w.os) (hout : w'.output = w.output) :
    ∃ ι', ι.le ι' ∧ ι' H.next = some r ∧ Inv w0 F0 ι' ((H.del id).new b') w' := by
  have hn : ι H.next = none := h.fresh _ (Nat.le_refl _)
  let ι' : Inj := fun i => if i = H.next then some r else ι i
  have hle : ι.le ι' := fun i x hi => by
    by_cases e : i = H.next
    · subst e; rw [hn] at hi; cases hi
    · simp [ι', e, hi]
  obtain ⟨r0, o0, hr0, ho0, _, hf0⟩ := h.blk id b hg
  rw [hr] at hr0; cases hr0
  have hnx : (H.del id).next = H.next := rfl
  have old : ∀ k c, k ≠ H.next → ((H.del id).new b').get k = some c → k ≠ id ∧ H.get k = some c := by
    intro k c hk hgk
    rw [AHeap.get_new, hnx, if_neg hk, AHeap.get_del] at hgk
    by_cases e : k = id
    · simp [e] at hgk
    · rw [if_neg e] at hgk; exact ⟨e, hgk⟩
  have hf1 : F0.w r ∨ w0.heap.size ≤ r := by
    rcases hf0 with h1 | h1 | h1
    · exact .inl h1
    · exact .inr h1
    · rw [hro] at h1; cases h1.2
  refine ⟨ι', hle, by simp [ι'], ?_, ?_, ?_, ?_, by rw [hsz]; exact h.size, ht.trans h.tape, hos.trans h.os, hout.trans h.output, h.glob⟩
  · intro k c hc
    by_cases e : k = H.next
    · subst e
      rw [AHeap.get_new, hnx, if_pos rfl] at hc
      cases hc
      exact ⟨r, o', by simp [ι'], hw, hb ι' hle, hf1.elim .inl fun h => .inr (.inl h)⟩
    · obtain ⟨hne, hgk⟩ := old k c e hc
      obtain ⟨r1, o1, hr1, ho1, hb1, hf1⟩ := h.blk k c hgk
      have hrr : r1 ≠ r := fun e' => hne (h.inj k id c b r hgk hg (e' ▸ hr1) hr)
      exact ⟨r1, o1, hle _ _ hr1, by rw [hoth r1 hrr]; exact ho1, hb1.mono hle, hf1⟩
  · intro i j bi bj x hi hj hri hrj
    by_cases ei : i = H.next <;> by_cases ej : j = H.next
    · rw [ei, ej]
    · obtain ⟨hne, hgj⟩ := old j bj ej hj
      have h1 : x = r := by rw [ei] at hri; simpa [ι'] using hri.symm
      have h2 : ι j = some x := by simpa [ι', ej] using hrj
      exact (hne (h.inj j id bj b r hgj hg (h1 ▸ h2) hr)).elim
    · obtain ⟨hne, hgi⟩ := old i bi ei hi
      have h1 : x = r := by rw [ej] at hrj; simpa [ι'] using hrj.symm
      have h2 : ι i = some x := by simpa [ι', ei] using hri
      exact (hne (h.inj i id bi b r hgi hg (h1 ▸ h2) hr)).elim
    · obtain ⟨_, hgi⟩ := old i bi ei hi
      obtain ⟨_, hgj⟩ := old j bj ej hj
      exact h.inj i j bi bj x hgi hgj (by simpa [ι', ei] using hri) (by simpa [ι', ej] using hrj)
  · intro k hk
    have : k ≠ H.next := fun e => by subst e; simp [AHeap.new, AHeap.del] at hk; omega
    simp only [ι', if_neg this]
    exact h.fresh k (by simp [AHeap.new, AHeap.del] at hk; omega)
  · intro k hk hf
    have hne : k ≠ r := fun e => by
      subst e
      rcases hf1 with hf0 | hf0
      · exact hf hf0
      · omega
    rw [hoth k hne]
    exact h.frame k hk hf

/-! ### interfaces, tuples -/
def ifaceA (P : Program) (t : TypeId) (x : AVal) (K : AVal → Prop) : Prop :=
  match P.underlying t with
  | some (.interface _) => False
  | some _ => K (.ifc t x)
  | none => False
theorem iface_ok {t : TypeId} {x : AVal} {a : Value} {K : AVal → AHeap → Prop} (h : ifaceA P t x (fun v => K v H)) (hi : Inv w0 F0 ι H w) (hx : Den ι x a) : Ok w0 F0 ι K ((Instr.makeInterface t a).run P w) := by
  unfold ifaceA at h
  split at h
  · exact h.elim
  · rename_i d hd hu
    have : (Instr.makeInterface t a).run P w = .ok (.iface t a) w := by
      simp only [Instr.makeInterface, Sem.run_bind, run_underlying hu, Result.andThen_ok]
      cases d <;> first | rfl | exact (hd _ hu).elim
    rw [this]
    exact ⟨_, _, ι, h, .ifc hx, Inj.le_refl _, hi⟩
  · exact h.elim

def tupL : AVal → Option (List AVal)
  | .tup cs => some cs
  | .lit (.tuple c) => some (c.toList.map (ofValue 2))
  | _ => none
theorem tupL_ok {a : AVal} {v : Value} {cs : List AVal} (h : tupL a = some cs) (hd : Den ι a v) : ∃ c : Array Value, v = .tuple c ∧ DenL ι cs c.toList := by
  cases hd with
  | tup hs => simp [tupL] at h; subst h; exact ⟨_, rfl, hs⟩
  | lit => cases v <;> simp [tupL] at h; subst h; exact ⟨_, rfl, DenL.map_of (ofValue_den 2) _⟩
  | _ => simp [tupL] at h
def extractA (x : AVal) (i : Nat) (K : AVal → Prop) : Prop :=
  match tupL x with
  | some cs => match nthA cs i with
    | some v => K v
    | none => False
  | none => False
theorem extract_ok {x : AVal} {a : Value} {i : Nat} {K : AVal → AHeap → Prop} (h : extractA x i (fun v => K v H)) (hi : Inv w0 F0 ι H w) (hx : Den ι x a) : Ok w0 F0 ι K ((Instr.extract a i).run P w) := by
  unfold extractA at h
  split at h
  · rename_i cs hcs
    obtain ⟨c, rfl, hc⟩ := tupL_ok hcs hx
    split at h
    · rename_i v hv
      rw [nthA_eq] at hv
      obtain ⟨y, hy, hden⟩ := hc.get i hv
      have hy' : c[i]? = some y := by simpa using hy
      simp only [Instr.extract, hy', Sem.run_pure]
      exact ⟨_, _, ι, h, hden, Inj.le_refl _, hi⟩
    · exact h.elim
  · exact h.elim

def assertA (P : Program) (x : AVal) (t : TypeId) (ok : Bool) (K : AVal → Prop) : Prop :=
  match P.underlying t with
  | some (.interface want) => match x with
    | .lit .nilIface => match ok, zeroA P t with
      | true, some z => K (.tup [ofValue 1 z, .lit (.bool false)])
      | _, _ => False
    | .ifc d v => match P.info? d with
      | some i => match Instr.missingMethod want i.methods with
        | none => K (cond ok (.tup [.ifc d v, .lit (.bool true)]) (.ifc d v))
        | some _ => match ok, zeroA P t with
          | true, some z => K (.tup [ofValue 1 z, .lit (.bool false)])
          | _, _ => False
      | none => False
    | _ => False
  | some _ => match x with
    | .lit .nilIface => match ok, zeroA P t with
      | true, some z => K (.tup [ofValue 1 z, .lit (.bool false)])
      | _, _ => False
    | .ifc d v => cond (Nat.beq d t) (K (cond ok (.tup [v, .lit (.bool true)]) v)) (match ok, zeroA P t with
      | true, some z => K (.tup [ofValue 1 z, .lit (.bool false)])
      | _, _ => False)
    | _ => False
  | none => False
theorem den_pair {a b : AVal} {x y : Value} (h : Den ι a x) (h' : Den ι b y) : Den ι (.tup [a, b]) (.tuple #[x, y]) := .tup (.cons h (.cons h' .nil))
theorem assert_ok {x : AVal} {a : Value} {s t : TypeId} {ok : Bool} {K : AVal → AHeap → Prop} (h : assertA P x t ok (fun v => K v H)) (hi : Inv w0 F0 ι H w) (hx : Den ι x a) : Ok w0 F0 ι K ((Instr.typeAssert a s t ok).run P w) := by
  have fin : ∀ {v : Value} {z : AVal}, K z H → Den ι z v → (Instr.typeAssert a s t ok).run P w = .ok v w → Ok w0 F0 ι K ((Instr.typeAssert a s t ok).run P w) := by
    intro v z hK hz hr
    rw [hr]
    exact ⟨_, _, ι, hK, hz, Inj.le_refl _, hi⟩
  unfold assertA at h
  split at h
  · rename_i want hu
    split at h
    · cases hx
      split at h
      · rename_i z hz
        exact fin h (den_pair (ofValue_den 1 z) .lit) (by simp [Instr.typeAssert, run_underlying hu, run_zero hz])
      · exact h.elim
    · rename_i d v
      cases hx with
      | ifc hx =>
      split at h
      · rename_i i hinf
        split at h
        · rename_i hm
          cases ok
          · exact fin h (.ifc hx) (by simp [Instr.typeAssert, run_underlying hu, run_typeInfo hinf, hm])
          · exact fin h (den_pair (.ifc hx) .lit) (by simp [Instr.typeAssert, run_underlying hu, run_typeInfo hinf, hm])
        · rename_i m hm
          split at h
          · rename_i z hz
            exact fin h (den_pair (ofValue_den 1 z) .lit) (by simp [Instr.typeAssert, run_underlying hu, run_typeInfo hinf, hm, run_zero hz])
          · exact h.elim
      · exact h.elim
    · exact h.elim
  · rename_i d0 hnot hu
    have hd0 : ∀ want, d0 ≠ .interface want := fun want e => hnot want e
    split at h
    · cases hx
      split at h
      · rename_i z hz
        refine fin h (den_pair (ofValue_den 1 z) .lit) ?_
        simp only [Instr.typeAssert, Sem.run_bind, run_underlying hu, Result.andThen_ok]
        cases d0 <;> first | exact (hd0 _ rfl).elim | simp [run_zero hz]
      · exact h.elim
    · rename_i d v
      cases hx with
      | ifc hx =>
      rename_i y
      by_cases hdt : d = t
      · subst hdt
        rw [beq_self] at h
        simp only [cond_true] at h
        cases ok
        · refine fin h hx ?_
          simp only [Instr.typeAssert, Sem.run_bind, run_underlying hu, Result.andThen_ok]
          cases d0 <;> first | exact (hd0 _ rfl).elim | simp
        · refine fin h (den_pair hx .lit) ?_
          simp only [Instr.typeAssert, Sem.run_bind, run_underlying hu, Result.andThen_ok]
          cases d0 <;> first | exact (hd0 _ rfl).elim | simp
      · rw [beq_false hdt] at h
        simp only [cond_false] at h
        split at h
        · rename_i z hz
          refine fin h (den_pair (ofValue_den 1 z) .lit) ?_
          simp only [Instr.typeAssert, Sem.run_bind, run_underlying hu, Result.andThen_ok]
          cases d0 <;> first | exact (hd0 _ rfl).elim | simp [hdt, run_zero hz]
        · exact h.elim
    · exact h.elim
  · exact h.elim

/-! ### maps -/
def mapNewA (H : AHeap) (K : AVal → AHeap → Prop) : Prop := K (.map H.next) (H.new (.map [] 0))
theorem mapNew_ok {t : TypeId} {K : AVal → AHeap → Prop} (h : mapNewA H K) (hi : Inv w0 F0 ι H w) : Ok w0 F0 ι K ((Instr.makeMap t none).run P w) := by
  obtain ⟨ι', hle, hn, hinv⟩ := hi.new (b := .map [] 0) (o := .map #[] 0) ⟨#[], rfl, trivial⟩
  simp only [Instr.makeMap, Sem.run_bind, run_newObj, Result.andThen_ok, Sem.run_pure]
  exact ⟨_, _, ι', h, .map hn, hle, hinv⟩

/-- Two keys of one plain kind. -/
def keyEq : AVal → AVal → Option Bool
  | .str a, .str b => some (eqL a b)
  | .lit (.int k a), .lit (.int k' b) => cond (decide (k = k')) (some (a == b)) none
  | _, _ => none
def plainKey (P : Program) (t : TypeId) (k : AVal) : Bool :=
  match P.underlying t, k with
  | some .string, .str _ => true
  | some (.int _), .lit (.int _ _) => true
  | _, _ => false
/-- Where a key stands. -/
def findA (k : AVal) : List (AVal × AVal × Nat) → Nat → Option (Option (Nat × AVal))
  | [], _ => some none
  | (k', v, _) :: r, i => match keyEq k k' with
    | some true => some (some (i, v))
    | some false => findA k r (i + 1)
    | none => none
def updA (k v : AVal) : List (AVal × AVal × Nat) → Nat → List (AVal × AVal × Nat)
  | [], _ => []
  | (_, _, n) :: r, 0 => (k, v, n) :: r
  | e :: r, i + 1 => e :: updA k v r i

theorem keyEq_ok {t : TypeId} {k k' : AVal} {a a' : Value} {b : Bool} {d : TypeDesc} (hp : plainKey P t k = true) (hu : P.underlying t = some d) (h : keyEq k k' = some b) (hk : Den ι k a) (hk' : Den ι k' a') : Instr.sameNow d a a' = some b ∧ (b = true → Instr.sameBits 10000 a' a = true) := by
  unfold plainKey at hp
  split at hp
  · rename_i l hus
    rw [hu] at hus; cases hus
    cases k' <;> simp [keyEq] at h
    cases hk; cases hk'
    subst h
    refine ⟨by simp [Instr.sameNow, eqL_eq, beq_str], fun hb => ?_⟩
    rw [eqL_eq] at hb
    have := (eq_of_beq hb)
    subst this
    simp [Instr.sameBits, beq_str]
  · rename_i kk n nn hus
    rw [hu] at hus; cases hus
    cases k' <;> simp only [keyEq] at h <;> try cases h
    rename_i v
    cases v <;> simp only [] at h <;> try cases h
    rename_i k2 n2
    cases hk; cases hk'
    by_cases e : n = k2
    · subst e
      simp at h
      subst h
      exact ⟨by simp [Instr.sameNow], fun hb => by simp at hb; subst hb; simp [Instr.sameBits]⟩
    · simp [e] at h
  · cases hp

theorem findA_ok {t : TypeId} {k : AVal} {a : Value} {d : TypeDesc} (hp : plainKey P t k = true) (hu : P.underlying t = some d) (hk : Den ι k a) :
    ∀ {es : List (AVal × AVal × Nat)} {l : List MapEntry} (_ : EDen ι es l) (i : Nat) {r : Option (Nat × AVal)}, findA k es i = some r →
      (r = none → Instr.findNow d a l i = some none) ∧ (∀ j v, r = some (j, v) → i ≤ j ∧ ∃ x e, Instr.findNow d a l i = some (some (j, x)) ∧ Den ι v x ∧ l[j - i]? = some e ∧ e.val = x ∧ Instr.sameBits 10000 e.key a = true)
  | [], [], _, i, r, h => by simp [findA] at h; subst h; exact ⟨fun _ => rfl, fun j v hh => by cases hh⟩
  | (k', v', n) :: es, e :: l, he, i, r, h => by
    obtain ⟨h1, h2, h3, h4⟩ := he
    simp only [findA] at h
    cases hq : keyEq k k' with
    | none => rw [hq] at h; cases h
    | some b =>
      rw [hq] at h
      obtain ⟨hs, hbits⟩ := keyEq_ok hp hu hq hk h1
      cases b with
      | true =>
        simp at h; subst h
        refine ⟨fun hh => (by cases hh), fun j v hh => ?_⟩
        cases hh
        exact ⟨Nat.le_refl _, e.val, e, by simp [Instr.findNow, hs], h2, by simp, rfl, hbits rfl⟩
      | false =>
        simp at h
        obtain ⟨g1, g2⟩ := findA_ok hp hu hk h4 (i + 1) h
        refine ⟨fun hh => by simpa [Instr.findNow, hs] using g1 hh, fun j v hh => ?_⟩
        obtain ⟨hle, x, e', hf, hden, hget, hval, hb⟩ := g2 j v hh
        refine ⟨by omega, x, e', by simpa [Instr.findNow, hs] using hf, hden, ?_, hval, hb⟩
        have : j - i = (j - (i + 1)) + 1 := by omega
        rw [this]
        simpa using hget
  | [], _ :: _, he, _, _, _ => by cases he
  | _ :: _, [], he, _, _, _ => by obtain ⟨_, _, _⟩ := ‹AVal × AVal × Nat›; cases he

theorem updA_ok {k v : AVal} {a x : Value} (hk : Den ι k a) (hv : Den ι v x) : ∀ {es : List (AVal × AVal × Nat)} {l : List MapEntry} (_ : EDen ι es l) (i : Nat), EDen ι (updA k v es i) (l.modify i fun e => { e with key := a, val := x })
  | [], [], h, i => by cases i <;> exact h
  | (_, _, _) :: _, _ :: _, h, 0 => ⟨hk, hv, h.2.2.1, h.2.2.2⟩
  | (_, _, _) :: _, _ :: _, h, i + 1 => by rw [List.modify_succ_cons]; exact ⟨h.1, h.2.1, h.2.2.1, updA_ok hk hv h.2.2.2 i⟩
  | [], _ :: _, h, _ => by cases h
  | (_, _, _) :: _, [], h, _ => by cases h
theorem EDen.snoc {k v : AVal} {e : MapEntry} {n : Nat} (hk : Den ι k e.key) (hv : Den ι v e.val) (hn : e.born = n) : ∀ {es : List (AVal × AVal × Nat)} {l : List MapEntry} (_ : EDen ι es l), EDen ι (es ++ [(k, v, n)]) (l ++ [e])
  | [], [], _ => ⟨hk, hv, hn, trivial⟩
  | (_, _, _) :: _, _ :: _, h => ⟨h.1, h.2.1, h.2.2.1, EDen.snoc hk hv hn h.2.2.2⟩
  | [], _ :: _, h => by cases h
  | (_, _, _) :: _, [], h => by cases h

def updateA (P : Program) (t : TypeId) (m k v : AVal) (H : AHeap) (K : AHeap → Prop) : Prop :=
  match P.underlying t, m with
  | some (.map kt _), .map id => gd (plainKey P kt k && !H.isRo id) (match H.get id with
    | some (.map es clock) => match findA k es 0 with
      | some (some (i, _)) => K (H.set id (.map (updA k v es i) clock))
      | some none => K (H.set id (.map (es ++ [(k, v, clock)]) (clock + 1)))
      | none => False
    | _ => False)
  | _, _ => False

theorem run_checkKey {b : Bool} {n : Nat} {t : TypeId} {k : AVal} {a : Value} (hp : plainKey P t k = true) (hk : Den ι k a) : (Instr.checkKey b (n + 1) t a).run P w = .ok () w := by
  unfold plainKey at hp
  split at hp
  · rename_i l hus
    cases hk
    simp [Instr.checkKey, run_underlying hus]
  · rename_i kk n' kk' hus
    cases hk
    simp [Instr.checkKey, run_underlying hus]
  · cases hp
theorem plainKey_und {t : TypeId} {k : AVal} (hp : plainKey P t k = true) : ∃ d, P.underlying t = some d := by
  unfold plainKey at hp
  split at hp
  · exact ⟨_, by assumption⟩
  · exact ⟨_, by assumption⟩
  · cases hp

theorem run_getObj {r : Nat} {es : Array MapEntry} {c : Nat} (h : w.heap[r]? = some (.map es c)) : (getObj r).run P w = .ok (.map es c) w := by
  simp [getObj, Sem.run, h]
theorem run_setObj {r : Nat} {es : Array MapEntry} {c : Nat} {o : Obj} (h : w.heap[r]? = some (.map es c)) : (setObj r o).run P w = .ok () (setBlk w r o) := by
  simp [setObj, Sem.run, h, setBlk]

theorem update_ok {t : TypeId} {m k v : AVal} {mv kv vv : Value} {K : AHeap → Prop} (h : updateA P t m k v H K) (hi : Inv w0 F0 ι H w) (hm : Den ι m mv) (hk : Den ι k kv) (hv : Den ι v vv) : OkU w0 F0 ι K ((Instr.mapUpdate t mv kv vv).run P w) := by
  unfold updateA at h
  split at h
  · rename_i kt e id hu
    obtain ⟨hp, h⟩ := gd_out h
    simp only [Bool.and_eq_true, Bool.not_eq_true'] at hp
    obtain ⟨hp, hro⟩ := hp
    cases hm with
    | map hr =>
    rename_i r
    split at h
    · rename_i es clock hg
      obtain ⟨r', o, hr', ho, hb, hf⟩ := hi.blk _ _ hg
      rw [hr] at hr'; cases hr'
      obtain ⟨ent, rfl, hE⟩ := hb
      obtain ⟨d, hd⟩ := plainKey_und hp
      have hck := run_checkKey (P := P) (w := w) (b := false) (n := 9999) hp hk
      split at h
      · rename_i i v0 hfind
        obtain ⟨_, g⟩ := findA_ok hp hd hk hE 0 hfind
        obtain ⟨_, x, e', hfn, _, hget, _, hbits⟩ := g i v0 rfl
        have hget' : ent[i]? = some e' := by simpa using hget
        have hrun : (Instr.mapUpdate t (.map (some r)) kv vv).run P w = .ok () (setBlk w r (.map (ent.modify i fun e => { e with key := kv, val := vv }) clock)) := by
          simp only [Instr.mapUpdate, Sem.run_bind, run_underlying hu, Result.andThen_ok, run_getObj ho, hck, Instr.findKey, run_underlying hd, hfn, Sem.run_pure, hget', Option.map_some, Option.getD_some, Instr.keyThatStays, hbits, if_true, run_setObj ho]
        rw [hrun]
        refine ⟨_, ι, h, Inj.le_refl _, hi.set hg hr hro ?_ (setBlk_get ho) (fun k hk => setBlk_other hk) setBlk_size rfl rfl rfl⟩
        exact ⟨_, rfl, by simpa using updA_ok hk hv hE i⟩
      · rename_i hfind
        obtain ⟨g, _⟩ := findA_ok hp hd hk hE 0 hfind
        have hfn := g rfl
        have hrun : (Instr.mapUpdate t (.map (some r)) kv vv).run P w = .ok () (setBlk w r (.map (ent.push { key := kv, val := vv, born := clock }) (clock + 1))) := by
          simp only [Instr.mapUpdate, Sem.run_bind, run_underlying hu, Result.andThen_ok, run_getObj ho, hck, Instr.findKey, run_underlying hd, hfn, Sem.run_pure, run_setObj ho]
        rw [hrun]
        refine ⟨_, ι, h, Inj.le_refl _, hi.set hg hr hro ?_ (setBlk_get ho) (fun k hk => setBlk_other hk) setBlk_size rfl rfl rfl⟩
        exact ⟨_, rfl, by simpa using EDen.snoc (e := { key := kv, val := vv, born := clock }) hk hv rfl hE⟩
      · exact h.elim
    · exact h.elim
  · exact h.elim

def lookV (z : AVal) : Option (Nat × AVal) → AVal
  | some (_, v) => v
  | none => z
def lookB : Option (Nat × AVal) → Bool
  | some _ => true
  | none => false
/-- Integer keys alone; is the number among them? -/
def allI (k : IntKind) : List (AVal × AVal × Nat) → Bool
  | [] => true
  | (.lit (.int k' _), _, _) :: r => decide (k = k') && allI k r
  | _ => false
def memI (n : Int) : List (AVal × AVal × Nat) → Bool
  | [] => false
  | (.lit (.int _ m), _, _) :: r => (n == m) || memI n r
  | _ => false
theorem findA_int {k : IntKind} {n : Int} : ∀ {es : List (AVal × AVal × Nat)} (i : Nat), allI k es = true → ∃ r, findA (.lit (.int k n)) es i = some r ∧ lookB r = memI n es
  | [], i, _ => ⟨none, rfl, rfl⟩
  | (a, v, b) :: r, i, h => by
    unfold allI at h
    split at h
    · rename_i e; cases e
    · rename_i k' m v' b' r' e
      cases e
      simp only [Bool.and_eq_true, decide_eq_true_eq] at h
      obtain ⟨rfl, h⟩ := h
      obtain ⟨x, hx, hb⟩ := findA_int (i + 1) h
      simp only [findA, keyEq, decide_true, cond_true, memI]
      cases hn : (n == m) with
      | true => exact ⟨_, rfl, by simp [lookB]⟩
      | false => exact ⟨x, hx, by simp [hb]⟩
    · cases h
def lookupA (P : Program) (t : TypeId) (m k : AVal) (ok : Bool) (H : AHeap) (K : AVal → Prop) : Prop :=
  match P.underlying t, m with
  | some (.map kt et), .map id => match H.get id, zeroA P et with
    | some (.map es _), some z => gd (plainKey P kt k) (match ok, k with
      | true, .lit (.int kk n) => gd (allI kk es) (K (.tup [.top, .lit (.bool (memI n es))]))
      | _, _ => match findA k es 0 with
        | some r => K (cond ok (.tup [lookV (ofValue 1 z) r, .lit (.bool (lookB r))]) (lookV (ofValue 1 z) r))
        | none => False)
    | _, _ => False
  | _, _ => False
theorem lookup_at {t : TypeId} {id : Nat} {k : AVal} {mv kv : Value} {ok : Bool} {K : AVal → AHeap → Prop} (h : lookupA P t (.map id) k ok H (fun v => K v H)) (hi : Inv w0 F0 ι H w) (hm : Den ι (.map id) mv) (hk : Den ι k kv) :
    ∃ x v r o b, ι id = some r ∧ H.get id = some b ∧ w.heap[r]? = some o ∧ (∀ w' : World, w'.heap[r]? = some o → (Instr.lookup t mv kv ok).run P w' = .ok v w') ∧ Den ι x v ∧ K x H := by
  unfold lookupA at h
  split at h
  · rename_i kt et id' hu he
    cases he
    cases hm with
    | map hr =>
    rename_i r
    split at h
    · rename_i es clock z hg hz
      obtain ⟨hp, h⟩ := gd_out h
      obtain ⟨r', o, hr', ho, hb, hf⟩ := hi.blk _ _ hg
      rw [hr] at hr'; cases hr'
      obtain ⟨ent, rfl, hE⟩ := hb
      obtain ⟨d, hd⟩ := plainKey_und hp
      have go : ∀ (res : Option (Nat × AVal)), findA k es 0 = some res → ∃ v, (∀ w' : World, w'.heap[r]? = some (.map ent clock) → (Instr.lookup t (.map (some r)) kv ok).run P w' = .ok v w') ∧ Den ι (cond ok (.tup [lookV (ofValue 1 z) res, .lit (.bool (lookB res))]) (lookV (ofValue 1 z) res)) v := by
        intro res hfind
        obtain ⟨g1, g2⟩ := findA_ok hp hd hk hE 0 hfind
        cases res with
        | none =>
          have hfn := g1 rfl
          have hrun : ∀ w' : World, w'.heap[r]? = some (.map ent clock) → (Instr.lookup t (.map (some r)) kv ok).run P w' = .ok (if ok then .tuple #[z, .bool false] else z) w' := by
            intro w' ho
            have hck := run_checkKey (P := P) (w := w') (b := ent.isEmpty) (n := 9999) hp hk
            simp only [Instr.lookup, Sem.run_bind, run_underlying hu, Result.andThen_ok, run_getObj ho, Sem.run_pure, hck, Instr.findKey, run_underlying hd, hfn, run_zero hz]
          cases ok
          · exact ⟨_, hrun, ofValue_den 1 z⟩
          · exact ⟨_, hrun, den_pair (ofValue_den 1 z) .lit⟩
        | some jv =>
          obtain ⟨j, v⟩ := jv
          obtain ⟨_, x, e', hfn, hden, _, _, _⟩ := g2 j v rfl
          have hrun : ∀ w' : World, w'.heap[r]? = some (.map ent clock) → (Instr.lookup t (.map (some r)) kv ok).run P w' = .ok (if ok then .tuple #[x, .bool true] else x) w' := by
            intro w' ho
            have hck := run_checkKey (P := P) (w := w') (b := ent.isEmpty) (n := 9999) hp hk
            simp only [Instr.lookup, Sem.run_bind, run_underlying hu, Result.andThen_ok, run_getObj ho, Sem.run_pure, hck, Instr.findKey, run_underlying hd, hfn]
          cases ok
          · exact ⟨_, hrun, hden⟩
          · exact ⟨_, hrun, den_pair hden .lit⟩
      split at h
      · rename_i kk n _
        obtain ⟨hall, h⟩ := gd_out h
        obtain ⟨res, hfind, hb⟩ := findA_int (n := n) 0 hall
        obtain ⟨v, hrun, hden⟩ := go res hfind
        refine ⟨_, _, r, _, _, hr, hg, ho, hrun, ?_, h⟩
        rw [cond_true] at hden
        rw [hb] at hden
        cases hden with
        | tup hden =>
        cases hden with
        | cons h1 h2 => exact .tup (.cons .top h2)
      · split at h
        · rename_i res hfind
          obtain ⟨v, hrun, hden⟩ := go res hfind
          exact ⟨_, _, r, _, _, hr, hg, ho, hrun, hden, h⟩
        · exact h.elim
    · exact h.elim
  · exact h.elim
theorem lookup_ok {t : TypeId} {m k : AVal} {mv kv : Value} {ok : Bool} {K : AVal → AHeap → Prop} (h : lookupA P t m k ok H (fun v => K v H)) (hi : Inv w0 F0 ι H w) (hm : Den ι m mv) (hk : Den ι k kv) : Ok w0 F0 ι K ((Instr.lookup t mv kv ok).run P w) := by
  cases m with
  | map id =>
    obtain ⟨x, v, r, o, b, hr, hg, ho, hrun, hd, hK⟩ := lookup_at h hi hm hk
    rw [hrun w ho]
    exact ⟨_, _, ι, hK, hd, Inj.le_refl _, hi⟩
  | _ => unfold lookupA at h; split at h <;> first | (rename_i e; cases e) | exact h.elim

end
end Go.Sx
