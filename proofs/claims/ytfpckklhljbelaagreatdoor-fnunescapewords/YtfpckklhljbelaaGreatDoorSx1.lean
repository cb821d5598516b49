/- A part of the proof of this claim: lemmas of its own; what is proved, and on what conditions, the last text says. -/
import Derived.Test.YtfpckklhljbelaaGreatDoorSx0
set_option linter.all false
namespace Go.Sx
open Go

/-- A capacity: known; or the unknown number named `i`, less `s`; or nothing is known. -/
inductive ACap where
  | n (k : Nat)
  | u (i s : Nat)
  | x
/-- How many cells a block has at least: known; or `m` times the unknown number named `i`. -/
inductive ATot where
  | n (k : Nat)
  | u (i m : Nat)

/-! ### unknown texts -/
/-- What is known of a text: its length lies in lo .. hi; its bytes, its first one and its last one are of these (bit b: the byte b). -/
structure Cls where
  lo : Nat
  hi : Nat
  all : Nat
  fst : Nat
  lst : Nat
def hasBit (m n : Nat) : Bool := Nat.beq (Nat.land (Nat.shiftRight m n) 1) 1
structure Cls.Holds (c : Cls) (l : List UInt8) : Prop where
  lo : c.lo ≤ l.length
  hi : l.length ≤ c.hi
  all : ∀ b ∈ l, hasBit c.all b.toNat = true
  fst : ∀ b, l.head? = some b → hasBit c.fst b.toNat = true
  lst : ∀ b, l.getLast? = some b → hasBit c.lst b.toNat = true
/-- The unknown texts of a run. -/
class Syms where
  cls : Nat → Cls
  w : Nat → List UInt8
  ok : ∀ i, (cls i).Holds (w i)
  /-- what is known of the package-level variables: the first blocks -/
  ng : Nat
  good : World → Prop
  mono : ∀ w w', (∀ r, r < ng → w'.heap[r]? = w.heap[r]?) → good w → good w'
variable [Syms]
/-- A token: below 256 a byte; else the unknown text of that number less 256. -/
def tokB (t : Nat) : List UInt8 := cond (Nat.blt t 256) [UInt8.ofNat t] (Syms.w (t - 256))
def flat : List Nat → List UInt8
  | [] => []
  | t :: r => tokB t ++ flat r

inductive AVal where
  | lit (v : Value)
  /-- some value of one cell -/
  | any
  /-- some value -/
  | top
  | str (l : List UInt8)
  /-- a text, by tokens -/
  | rope (r : List Nat)
  /-- how long it is -/
  | lenr (r : List Nat)
  /-- a byte of these -/
  | ub (m : Nat)
  /-- a slice of a block of tokens: what lies ahead, what it holds -/
  | rsl (id : Nat) (pre mid : List Nat) (cap : ACap)
  | ptr (id off : Nat)
  | slc (id off len : Nat) (cap : ACap)
  | map (id : Nat)
  | fn (f : Fn) (first captured : List AVal)
  | ifc (t : TypeId) (v : AVal)
  | agg (cs : List AVal)
  | tup (cs : List AVal)

abbrev Inj := Nat → Option Nat
def ACap.den (ι : Inj) : ACap → Nat → Prop
  | .n k, c => c = k
  | .u i s, c => ∃ d, ι i = some d ∧ c = d - s
  | .x, _ => True
def ATot.ok (ι : Inj) : ATot → Nat → Prop
  | .n k, x => k ≤ x
  | .u i m, x => ∃ d, ι i = some d ∧ d * m ≤ x
/-- The capacity, in cells of width `m`, lies within the block. -/
def capFits (m : Nat) : ACap → ATot → Bool
  | .n k, .n t => Nat.ble (k * m) t
  | .u i _, .u j m' => Nat.beq i j && Nat.beq m m'
  | _, _ => false
theorem capFits_ok {ι : Inj} {m : Nat} {a : ACap} {t : ATot} {c x : Nat} (h : capFits m a t = true) (ha : a.den ι c) (ht : t.ok ι x) : c * m ≤ x := by
  cases a with
  | n k =>
    cases t with
    | n t => cases ha; exact Nat.le_trans (Nat.le_of_ble_eq_true h) ht
    | u j m' => cases h
  | u i s =>
    cases t with
    | n t => cases h
    | u j m' =>
      simp only [capFits, Bool.and_eq_true] at h
      have h1 := Nat.eq_of_beq_eq_true h.1
      have h2 := Nat.eq_of_beq_eq_true h.2
      subst h1; subst h2
      obtain ⟨d, hd, rfl⟩ := ha
      obtain ⟨d', hd', hx⟩ := ht
      rw [hd] at hd'; cases hd'
      exact Nat.le_trans (Nat.mul_le_mul_right _ (Nat.sub_le _ _)) hx
  | x => cases h

mutual
inductive Den (ι : Inj) : AVal → Value → Prop where
  | lit {v : Value} : Den ι (.lit v) v
  | any {v : Value} (h : v.cells = #[v]) (h' : v.oneCell' = true) : Den ι .any v
  | top {v : Value} : Den ι .top v
  | str {l : List UInt8} : Den ι (.str l) (.string ⟨l.toArray⟩)
  | rope {r : List Nat} : Den ι (.rope r) (.string ⟨(flat r).toArray⟩)
  | lenr {r : List Nat} : Den ι (.lenr r) (.int .i64 (flat r).length)
  | ub {m : Nat} {b : UInt8} (h : hasBit m b.toNat = true) : Den ι (.ub m) (.int .u8 b.toNat)
  | rsl {id : Nat} {pre mid : List Nat} {off' b c : Nat} {cap : ACap} (h : ι id = some b) (hl : (flat mid).length ≤ c) (ho : off' = (flat pre).length ∨ c = 0) (hc : cap.den ι c) : Den ι (.rsl id pre mid cap) (.slice (some ⟨b, off', none⟩) (flat mid).length c)
  | ptr {id off b : Nat} (h : ι id = some b) : Den ι (.ptr id off) (.pointer (some ⟨b, off, none⟩))
  | slc {id off off' len b c : Nat} {cap : ACap} (h : ι id = some b) (hl : len ≤ c) (ho : off' = off ∨ c = 0) (hc : cap.den ι c) : Den ι (.slc id off len cap) (.slice (some ⟨b, off', none⟩) len c)
  | map {id b : Nat} (h : ι id = some b) : Den ι (.map id) (.map (some b))
  | fn {f : Fn} {a b : List AVal} {x y : List Value} (h : DenL ι a x) (h' : DenL ι b y) : Den ι (.fn f a b) (.func f x.toArray y.toArray)
  | ifc {t : TypeId} {a : AVal} {x : Value} (h : Den ι a x) : Den ι (.ifc t a) (.iface t x)
  | agg {a : List AVal} {x : List Value} (h : DenL ι a x) : Den ι (.agg a) (.agg x.toArray)
  | tup {a : List AVal} {x : List Value} (h : DenL ι a x) : Den ι (.tup a) (.tuple x.toArray)
inductive DenL (ι : Inj) : List AVal → List Value → Prop where
  | nil : DenL ι [] []
  | cons {a : AVal} {x : Value} {as : List AVal} {xs : List Value} (h : Den ι a x) (hs : DenL ι as xs) : DenL ι (a :: as) (x :: xs)
end

def Inj.le (ι ι' : Inj) : Prop := ∀ i r, ι i = some r → ι' i = some r
theorem ACap.mono {ι ι' : Inj} (hi : ι.le ι') {a : ACap} {c : Nat} (h : a.den ι c) : a.den ι' c := by
  cases a with
  | n k => exact h
  | u i s =>
    obtain ⟨d, hd, e⟩ := h
    exact ⟨d, hi _ _ hd, e⟩
  | x => trivial
theorem ATot.mono {ι ι' : Inj} (hi : ι.le ι') {a : ATot} {c : Nat} (h : a.ok ι c) : a.ok ι' c := by
  cases a with
  | n k => exact h
  | u i s =>
    obtain ⟨d, hd, e⟩ := h
    exact ⟨d, hi _ _ hd, e⟩
theorem Inj.le_refl (ι : Inj) : ι.le ι := fun _ _ h => h
theorem Inj.le_trans {a b c : Inj} (h : a.le b) (h' : b.le c) : a.le c := fun i r x => h' i r (h i r x)

mutual
theorem Den.mono {ι ι' : Inj} (hi : ι.le ι') : ∀ {a v}, Den ι a v → Den ι' a v
  | _, _, .lit => .lit
  | _, _, .str => .str
  | _, _, .any h h' => .any h h'
  | _, _, .top => .top
  | _, _, .rope => .rope
  | _, _, .lenr => .lenr
  | _, _, .ub h => .ub h
  | _, _, .rsl h hl ho hc => .rsl (hi _ _ h) hl ho (ACap.mono hi hc)
  | _, _, .ptr h => .ptr (hi _ _ h)
  | _, _, .slc h hl ho hc => .slc (hi _ _ h) hl ho (ACap.mono hi hc)
  | _, _, .map h => .map (hi _ _ h)
  | _, _, .fn h h' => .fn (DenL.mono hi h) (DenL.mono hi h')
  | _, _, .ifc h => .ifc (Den.mono hi h)
  | _, _, .agg h => .agg (DenL.mono hi h)
  | _, _, .tup h => .tup (DenL.mono hi h)
theorem DenL.mono {ι ι' : Inj} (hi : ι.le ι') : ∀ {a v}, DenL ι a v → DenL ι' a v
  | _, _, .nil => .nil
  | _, _, .cons h hs => .cons (Den.mono hi h) (DenL.mono hi hs)
end

theorem DenL.length {ι : Inj} : ∀ {a v}, DenL ι a v → a.length = v.length
  | _, _, .nil => rfl
  | _, _, .cons _ hs => by simp [DenL.length hs]
theorem DenL.get {ι : Inj} : ∀ {a v} (_ : DenL ι a v) (i : Nat) {x : AVal}, a[i]? = some x → ∃ y, v[i]? = some y ∧ Den ι x y
  | _, _, .nil, i, x, h => by simp at h
  | _, _, .cons h hs, 0, x, hx => by simp at hx; subst hx; exact ⟨_, rfl, h⟩
  | _, _, .cons h hs, i + 1, x, hx => by simpa using DenL.get hs i (by simpa using hx)
theorem DenL.append {ι : Inj} : ∀ {a v a' v'}, DenL ι a v → DenL ι a' v' → DenL ι (a ++ a') (v ++ v')
  | _, _, _, _, .nil, h => h
  | _, _, _, _, .cons h hs, h' => .cons h (DenL.append hs h')
theorem DenL.take {ι : Inj} : ∀ {a v} (_ : DenL ι a v) (n : Nat), DenL ι (a.take n) (v.take n)
  | _, _, _, 0 => by simpa using DenL.nil
  | _, _, .nil, _ + 1 => by simpa using DenL.nil
  | _, _, .cons h hs, n + 1 => by simpa using DenL.cons h (DenL.take hs n)
theorem DenL.drop {ι : Inj} : ∀ {a v} (_ : DenL ι a v) (n : Nat), DenL ι (a.drop n) (v.drop n)
  | _, _, h, 0 => by simpa using h
  | _, _, .nil, _ + 1 => by simpa using DenL.nil
  | _, _, .cons h hs, n + 1 => by simpa using DenL.drop hs n
theorem DenL.set {ι : Inj} : ∀ {a v} (_ : DenL ι a v) (i : Nat) {x y}, Den ι x y → DenL ι (a.set i x) (v.set i y)
  | _, _, .nil, _, _, _, _ => by simpa using DenL.nil
  | _, _, .cons h hs, 0, _, _, hx => by simpa using DenL.cons hx hs
  | _, _, .cons h hs, i + 1, _, _, hx => by simpa using DenL.cons h (DenL.set hs i hx)
theorem DenL.lits {ι : Inj} : ∀ (l : List Value), DenL ι (l.map .lit) l
  | [] => .nil
  | _ :: l => .cons .lit (DenL.lits l)
theorem DenL.replicate {ι : Inj} {x y} (h : Den ι x y) : ∀ n, DenL ι (List.replicate n x) (List.replicate n y)
  | 0 => .nil
  | n + 1 => by simpa [List.replicate_succ] using DenL.cons h (DenL.replicate h n)

/-- Constants of the code, their strings as lists of bytes. -/
def ofValue : Nat → Value → AVal
  | _, .string s => .str s.data.toList
  | n + 1, .iface t v => .ifc t (ofValue n v)
  | n + 1, .agg cs => .agg (cs.toList.map (ofValue n))
  | n + 1, .tuple cs => .tup (cs.toList.map (ofValue n))
  | _, v => .lit v
theorem DenL.map_of {ι : Inj} {f : Value → AVal} (h : ∀ v, Den ι (f v) v) : ∀ (l : List Value), DenL ι (l.map f) l
  | [] => .nil
  | _ :: l => .cons (h _) (DenL.map_of h l)
theorem ofValue_den {ι : Inj} : ∀ (n : Nat) (v : Value), Den ι (ofValue n v) v := by
  intro n
  induction n with
  | zero => intro v; cases v <;> first | exact .lit | exact .str
  | succ n ih =>
    intro v
    cases v <;> first | exact .lit | exact .str | exact .ifc (ih _) | exact .agg (DenL.map_of ih _) | exact .tup (DenL.map_of ih _)

inductive ABlk where
  /-- cells of element type `elem`; the first ones known; at least `tot` in all. -/
  | row (cs : List AVal) (elem : TypeId) (tot : ATot)
  /-- bytes; the first ones known. -/
  | bytes (l : List UInt8) (elem : TypeId) (tot : ATot)
  | rbytes (r : List Nat) (elem : TypeId) (tot : ATot)
  | map (es : List (AVal × AVal × Nat)) (clock : Nat)
  | siter (l : List UInt8) (pos : Nat)

def byteV (b : UInt8) : Value := .int .u8 b.toNat

def EDen (ι : Inj) : List (AVal × AVal × Nat) → List MapEntry → Prop
  | [], [] => True
  | (k, v, n) :: r, e :: es => Den ι k e.key ∧ Den ι v e.val ∧ e.born = n ∧ EDen ι r es
  | _, _ => False

def BDen (ι : Inj) : ABlk → Obj → Prop
  | .row cs elem tot, o => ∃ vs rest, o = .cells (vs ++ rest).toArray elem (0, 0) ∧ DenL ι cs vs ∧ tot.ok ι (vs.length + rest.length)
  | .bytes l elem tot, o => ∃ (rest : List Value) (fz : Nat × Nat), o = .cells ((l.map byteV) ++ rest).toArray elem fz ∧ tot.ok ι (l.length + rest.length) ∧ (∀ k, k < l.length + rest.length → ¬ (fz.1 ≤ k ∧ (k < fz.2 ∨ fz.2 < fz.1)))
  | .rbytes r elem tot, o => ∃ (rest : List Value) (fz : Nat × Nat), o = .cells (((flat r).map byteV) ++ rest).toArray elem fz ∧ tot.ok ι ((flat r).length + rest.length) ∧ (∀ k, k < (flat r).length + rest.length → ¬ (fz.1 ≤ k ∧ (k < fz.2 ∨ fz.2 < fz.1)))
  | .map es clock, o => ∃ entries : Array MapEntry, o = .map entries clock ∧ EDen ι es entries.toList
  | .siter l pos, o => o = .stringIter ⟨l.toArray⟩ pos

theorem EDen.mono {ι ι' : Inj} (hi : ι.le ι') : ∀ {a e}, EDen ι a e → EDen ι' a e
  | [], [], _ => trivial
  | (_, _, _) :: r, _ :: es, h => ⟨h.1.mono hi, h.2.1.mono hi, h.2.2.1, EDen.mono hi h.2.2.2⟩
  | [], _ :: _, h => h
  | _ :: _, [], h => by cases h
theorem BDen.mono {ι ι' : Inj} (hi : ι.le ι') : ∀ {b o}, BDen ι b o → BDen ι' b o
  | .row .., _, ⟨vs, rest, h, h', h''⟩ => ⟨vs, rest, h, h'.mono hi, ATot.mono hi h''⟩
  | .bytes .., _, ⟨rest, fz, h, h', h''⟩ => ⟨rest, fz, h, ATot.mono hi h', h''⟩
  | .rbytes .., _, ⟨rest, fz, h, h', h''⟩ => ⟨rest, fz, h, ATot.mono hi h', h''⟩
  | .map .., _, ⟨e, h, h'⟩ => ⟨e, h, h'.mono hi⟩
  | .siter .., _, h => h

/-- The blocks that the run knows; the next free name; what the function at hand has deferred (function, arguments; the last first). -/
structure AHeap where
  blks : Tr ABlk
  next : Nat
  defs : List (Nat × List AVal)
  /-- the blocks that are only read -/
  ros : List Nat

def AHeap.get (H : AHeap) (id : Nat) : Option ABlk := H.blks.get id
def AHeap.set (H : AHeap) (id : Nat) (b : ABlk) : AHeap := ⟨H.blks.set id (some b), H.next, H.defs, H.ros⟩
def AHeap.del (H : AHeap) (id : Nat) : AHeap := ⟨H.blks.set id none, H.next, H.defs, H.ros⟩
def AHeap.new (H : AHeap) (b : ABlk) : AHeap := ⟨H.blks.set H.next (some b), Nat.succ H.next, H.defs, H.ros⟩
def AHeap.nm (H : AHeap) : AHeap := ⟨H.blks, Nat.succ H.next, H.defs, H.ros⟩
def AHeap.withD (H : AHeap) (ds : List (Nat × List AVal)) : AHeap := ⟨H.blks, H.next, ds, H.ros⟩

theorem AHeap.get_set (H : AHeap) (id : Nat) (b : ABlk) (j : Nat) : (H.set id b).get j = if j = id then some b else H.get j := Tr.get_set ..
theorem AHeap.get_del (H : AHeap) (id j : Nat) : (H.del id).get j = if j = id then none else H.get j := Tr.get_set ..
theorem AHeap.get_new (H : AHeap) (b : ABlk) (j : Nat) : (H.new b).get j = if j = H.next then some b else H.get j := Tr.get_set ..

def hasN : List Nat → Nat → Bool
  | [], _ => false
  | x :: r, i => cond (Nat.beq x i) true (hasN r i)
def AHeap.isRo (H : AHeap) (id : Nat) : Bool := hasN H.ros id

/-- Blocks that a call was handed: it may write them; it may read them alone. -/
structure Fp where
  w : Nat → Prop
  r : Nat → Prop

/-- What holds between the abstract heap and the world; `w0` the world in which the call began, `F0` the blocks that it was handed. -/
structure Inv (w0 : World) (F0 : Fp) (ι : Inj) (H : AHeap) (w : World) : Prop where
  blk : ∀ id b, H.get id = some b → ∃ r o, ι id = some r ∧ w.heap[r]? = some o ∧ BDen ι b o ∧ (F0.w r ∨ w0.heap.size ≤ r ∨ (F0.r r ∧ H.isRo id = true))
  inj : ∀ i j b c r, H.get i = some b → H.get j = some c → ι i = some r → ι j = some r → i = j
  fresh : ∀ id, H.next ≤ id → ι id = none
  frame : ∀ r, r < w0.heap.size → ¬ F0.w r → w.heap[r]? = w0.heap[r]?
  size : w0.heap.size ≤ w.heap.size
  tape : w.tape = w0.tape
  os : w.os = w0.os
  output : w.output = w0.output
  glob : Syms.good w0 ∧ ∀ r, r < Syms.ng → r < w0.heap.size ∧ ¬ F0.w r

theorem Inv.good {w0 : World} {F0 : Fp} {ι : Inj} {H : AHeap} {w : World} (h : Inv w0 F0 ι H w) : Syms.good w :=
  Syms.mono w0 w (fun r hr => h.frame r (h.glob.2 r hr).1 (h.glob.2 r hr).2) h.glob.1

/-- An operation came to a value. -/
def Ok (w0 : World) (F0 : Fp) (ι : Inj) (K : AVal → AHeap → Prop) : Result Value → Prop
  | .ok v w' => ∃ a H' ι', K a H' ∧ Den ι' a v ∧ ι.le ι' ∧ Inv w0 F0 ι' H' w'
  | .halt _ _ => False

theorem Inv.drew {w0 : World} {F0 : Fp} {ι : Inj} {H : AHeap} {w : World} (h : Inv w0 F0 ι H w) (n : Nat) : Inv w0 F0 ι H { w with drawn := n } :=
  ⟨h.blk, h.inj, h.fresh, h.frame, h.size, h.tape, h.os, h.output, h.glob⟩

theorem Inv.withD {w0 : World} {F0 : Fp} {ι : Inj} {H : AHeap} {w : World} (h : Inv w0 F0 ι H w) (ds : List (Nat × List AVal)) : Inv w0 F0 ι (H.withD ds) w :=
  ⟨h.blk, h.inj, h.fresh, h.frame, h.size, h.tape, h.os, h.output, h.glob⟩

/-- A new block. -/
theorem Inv.new {w0 : World} {F0 : Fp} {ι : Inj} {H : AHeap} {w : World} (h : Inv w0 F0 ι H w) {b : ABlk} {o : Obj} (hb : BDen ι b o) :
    ∃ ι', ι.le ι' ∧ ι' H.next = some w.heap.size ∧ Inv w0 F0 ι' (H.new b) { w with heap := w.heap.push o } := by
  have hn : ι H.next = none := h.fresh _ (Nat.le_refl _)
  let ι' : Inj := fun i => if i = H.next then some w.heap.size else ι i
  have hle : ι.le ι' := fun i r hi => by
    by_cases e : i = H.next
    · subst e; rw [hn] at hi; cases hi
    · simp [ι', e, hi]
  have hsz := h.size
  refine ⟨ι', hle, by simp [ι'], ?_, ?_, ?_, ?_, ?_, h.tape, h.os, h.output, h.glob⟩
  · intro id c hc
    rw [AHeap.get_new] at hc
    by_cases e : id = H.next
    · rw [if_pos e] at hc
      cases hc
      refine ⟨w.heap.size, o, by simp [ι', e], by simp, hb.mono hle, .inr (.inl hsz)⟩
    · rw [if_neg e] at hc
      obtain ⟨r, o', hr, ho, hbd, hf⟩ := h.blk id c hc
      refine ⟨r, o', hle _ _ hr, ?_, hbd.mono hle, hf⟩
      have hlt : r < w.heap.size := by
        rcases Nat.lt_or_ge r w.heap.size with h' | h'
        · exact h'
        · simp [Array.getElem?_eq_none h'] at ho
      simp only [Array.getElem?_push]
      rw [if_neg (by omega)]
      exact ho
  · intro i j bi bj r hi hj hri hrj
    rw [AHeap.get_new] at hi hj
    have old : ∀ k c, k ≠ H.next → H.get k = some c → ι' k = some r → ι k = some r ∧ r < w.heap.size := by
      intro k c hk hg hr
      have : ι k = some r := by simpa [ι', hk] using hr
      obtain ⟨r', o', hr', ho, _⟩ := h.blk k c hg
      rw [this] at hr'; cases hr'
      refine ⟨this, ?_⟩
      rcases Nat.lt_or_ge r w.heap.size with h' | h'
      · exact h'
      · simp [Array.getElem?_eq_none h'] at ho
    by_cases ei : i = H.next <;> by_cases ej : j = H.next
    · rw [ei, ej]
    · rw [if_neg ej] at hj
      have := (old j bj ej hj hrj).2
      have : r = w.heap.size := by rw [ei] at hri; simpa [ι'] using hri.symm
      omega
    · rw [if_neg ei] at hi
      have := (old i bi ei hi hri).2
      have : r = w.heap.size := by rw [ej] at hrj; simpa [ι'] using hrj.symm
      omega
    · rw [if_neg ei] at hi; rw [if_neg ej] at hj
      exact h.inj i j bi bj r hi hj (old i bi ei hi hri).1 (old j bj ej hj hrj).1
  · intro id hid
    have : id ≠ H.next := fun e => by subst e; simp [AHeap.new] at hid; omega
    simp only [ι', if_neg this]
    exact h.fresh id (by simp [AHeap.new] at hid; omega)
  · intro r hr hf
    simp only [Array.getElem?_push]
    rw [if_neg (by omega)]
    exact h.frame r hr hf
  · simp; omega

/-- A number is given a name. -/
theorem Inv.name {w0 : World} {F0 : Fp} {ι : Inj} {H : AHeap} {w : World} (h : Inv w0 F0 ι H w) (c : Nat) : ∃ ι', ι.le ι' ∧ ι' H.next = some c ∧ Inv w0 F0 ι' H.nm w := by
  have hn : ι H.next = none := h.fresh _ (Nat.le_refl _)
  let ι' : Inj := fun i => if i = H.next then some c else ι i
  have hle : ι.le ι' := fun i r hi => by
    by_cases e : i = H.next
    · subst e; rw [hn] at hi; cases hi
    · simp [ι', e, hi]
  have back : ∀ {i b r}, H.get i = some b → ι' i = some r → ι i = some r := by
    intro i b r hg hr
    by_cases e : i = H.next
    · subst e
      obtain ⟨r0, _, hr0, _⟩ := h.blk _ _ hg
      rw [hn] at hr0; cases hr0
    · simpa [ι', e] using hr
  refine ⟨ι', hle, by simp [ι'], ?_, ?_, ?_, h.frame, h.size, h.tape, h.os, h.output, h.glob⟩
  · intro id b hg
    obtain ⟨r, o, hr, ho, hb, hf⟩ := h.blk id b hg
    exact ⟨r, o, hle _ _ hr, ho, hb.mono hle, hf⟩
  · intro i j b c' r hi hj h1 h2
    exact h.inj i j b c' r hi hj (back hi h1) (back hj h2)
  · intro id hid
    have hid : H.next + 1 ≤ id := hid
    have : id ≠ H.next := by omega
    simp only [ι', if_neg this]
    exact h.fresh id (by omega)

/-- A block is written. -/
theorem Inv.set {w0 : World} {F0 : Fp} {ι : Inj} {H : AHeap} {w : World} (h : Inv w0 F0 ι H w) {id r : Nat} {b b' : ABlk} {o' : Obj} (hg : H.get id = some b) (hr : ι id = some r) (hro : H.isRo id = false)
    (hb : BDen ι b' o') {w' : World} (hw : w'.heap[r]? = some o') (hoth : ∀ k, k ≠ r → w'.heap[k]? = w.heap[k]?) (hsz : w'.heap.size = w.heap.size) (ht : w'.tape = w.tape) (hos : w'.os = w.os) (hout : w'.output = w.output) :
    Inv w0 F0 ι (H.set id b') w' := by
  obtain ⟨r0, o0, hr0, ho0, _, hf0⟩ := h.blk id b hg
  rw [hr] at hr0; cases hr0
  refine ⟨?_, ?_, h.fresh, ?_, by rw [hsz]; exact h.size, ht.trans h.tape, hos.trans h.os, hout.trans h.output, h.glob⟩
  · intro j c hc
    rw [AHeap.get_set] at hc
    by_cases e : j = id
    · subst e
      rw [if_pos rfl] at hc
      cases hc
      exact ⟨r, o', hr, hw, hb, hf0⟩
    · rw [if_neg e] at hc
      obtain ⟨r1, o1, hr1, ho1, hb1, hf1⟩ := h.blk j c hc
      have hne : r1 ≠ r := fun e' => e (h.inj j id c b r hc hg (e' ▸ hr1) hr)
      exact ⟨r1, o1, hr1, by rw [hoth r1 hne]; exact ho1, hb1, hf1⟩
  · intro i j bi bj r' hi hj hri hrj
    rw [AHeap.get_set] at hi hj
    have back : ∀ k c, (if k = id then some b' else H.get k) = some c → ∃ c', H.get k = some c' := by
      intro k c hk
      by_cases e : k = id
      · subst e; exact ⟨b, hg⟩
      · rw [if_neg e] at hk; exact ⟨c, hk⟩
    obtain ⟨ci, hci⟩ := back i bi hi
    obtain ⟨cj, hcj⟩ := back j bj hj
    exact h.inj i j ci cj r' hci hcj hri hrj
  · intro k hk hf
    have hne : k ≠ r := fun e => by
      subst e
      rcases hf0 with hf0 | hf0 | hf0
      · exact hf hf0
      · omega
      · rw [hro] at hf0; cases hf0.2
    rw [hoth k hne]
    exact h.frame k hk hf

theorem Inv.del {w0 : World} {F0 : Fp} {ι : Inj} {H : AHeap} {w : World} (h : Inv w0 F0 ι H w) (id : Nat) : Inv w0 F0 ι (H.del id) w := by
  refine ⟨?_, ?_, h.fresh, h.frame, h.size, h.tape, h.os, h.output, h.glob⟩
  · intro j c hc
    rw [AHeap.get_del] at hc
    by_cases e : j = id
    · simp [e] at hc
    · rw [if_neg e] at hc; exact h.blk j c hc
  · intro i j bi bj r hi hj hri hrj
    rw [AHeap.get_del] at hi hj
    by_cases ei : i = id
    · simp [ei] at hi
    by_cases ej : j = id
    · simp [ej] at hj
    rw [if_neg ei] at hi; rw [if_neg ej] at hj
    exact h.inj i j bi bj r hi hj hri hrj

end Go.Sx
