/- A part of the proof of this claim: lemmas of its own; what is proved, and on what conditions, the last text says. -/
import Derived.Test.YtfpckklhljbelaaGreatDoorFeAll
set_option linter.all false
open Go Go.Sx Go.Proofs
namespace T
variable [Syms]
def convRow2 : List AVal := [.top, .top, .top, .top, .top, .top, .top, .top, .top, .str [], .top]
def unBlks (l : List UInt8) : List (Nat × ABlk) := [(0, .row convRow2 57 (.n 11)), (2, .bytes l 5 (.n 0))]
def unD1 (l : List UInt8) : LoopD where
  J := Nat
  side := fun k => k ≤ l.length ∧ l.length ≤ 1000000 ∧ (∀ b ∈ l, b ≠ 7)
  μ := fun k => l.length - k
  fn := 77
  s := fun k => [(3, .ptr 3 0), (7, .lit (.int .i64 k))]
  b := fun _ => [(3, .row [.slc 2 0 l.length .x] 26 (.n 1)), (2, .bytes l 5 (.n 0))]
  n := 4
  ros := [2]
  ways := [{ e := .exit 0, X := Unit, c := fun _ => True, s := fun _ => [(3, .ptr 3 0)], b := fun _ => [(3, .row [.slc 2 0 l.length .x] 26 (.n 1)), (2, .bytes l 5 (.n 0))], n := 4 }]
def unD2 (l : List UInt8) : LoopD where
  J := Nat
  side := fun k => k ≤ l.length ∧ l.length ≤ 1000000 ∧ (∀ b ∈ l, b ≠ 7)
  μ := fun k => l.length - k
  fn := 77
  s := fun k => [(54, .slc 2 0 l.length .x), (55, .lit (.int .i64 l.length)), (56, .lit (.int .i64 k)), (9, .slc 3 0 k (.u 4 0))]
  b := fun k => [(2, .bytes l 5 (.n 0)), (3, .bytes (l.take k) 5 (.u 4 1))]
  n := 5
  ros := [2]
  ways := [{ e := .exit 2, X := Unit, c := fun _ => True, s := fun _ => [(9, .slc 3 0 l.length (.u 4 0))], b := fun _ => [(3, .bytes l 5 (.u 4 1))], n := 5 }]
def unS : OwnS where
  A := List UInt8
  dec := fun args H => match args with
    | [_, .slc id 0 _ _] => match H.get id with
      | some (.bytes l _ _) => some l
      | _ => none
    | _ => none
  dom := fun l => (∀ b ∈ l, b ≠ 7) ∧ l.length ≤ 1000000
  args1 := fun l => [.ptr 0 0, .slc 2 0 l.length .x]
  blks1 := unBlks
  next1 := 3
  ros1 := [0, 2]
  G := fun l x => x = l
  e := 5
def unimpS : Go.Sx.Spec := specF (List UInt8) dec1 (fun l => (∀ b ∈ l, b ≠ 7) ∧ l.length ≤ 1000000) (fun l => .str l)
def ok9 (b : UInt8) : Prop := b ≠ 7 ∧ b ≠ 0
def asciiD (l : List UInt8) : LoopD where
  J := Nat × List UInt8
  side := fun j => Ok7 j.2 ∧ j.2.length ≤ j.1 ∧ j.1 ≤ min 300 l.length
  μ := fun j => l.length - j.1
  fn := 37
  s := fun j => [(0, .str l), (3, .slc 0 0 j.2.length (.u 1 0)), (9, .lit (.int .i64 (min 300 l.length : Nat))), (10, .lit (.int .i64 j.1))]
  b := fun j => [(0, .bytes j.2 5 (.u 1 1))]
  n := 2
  ros := []
  ways := [{ e := .exit 0, X := List UInt8, c := fun out => Ok7 out, s := fun out => [(3, .slc 0 0 out.length (.u 1 0))], b := fun out => [(0, .bytes out 5 (.u 1 1))], n := 2 }]
def px (b : UInt8) : UInt8 := cond (punctI (Int.ofNat b.toNat)) 120 b
def uwL (l : List UInt8) (k : Nat) : List UInt8 := (l.take k).map px ++ l.drop k
def uwD (l : List UInt8) : LoopD where
  J := Nat
  side := fun k => k ≤ l.length
  μ := fun k => l.length - k
  fn := 35
  s := fun k => [(3, .slc 0 0 l.length (.u 1 0)), (12, .lit (.int .i64 l.length)), (13, .lit (.int .i64 k))]
  b := fun k => [(0, .bytes (uwL l k) 5 (.u 1 1))]
  n := 2
  ros := []
  ways := [{ e := .exit 0, X := Unit, c := fun _ => True, s := fun _ => [(3, .slc 0 0 l.length (.u 1 0))], b := fun _ => [(0, .bytes (uwL l l.length) 5 (.u 1 1))], n := 2 }]
def unTabs : Tabs := ⟨fun f => match f with
  | 11 => some plainS
  | 23 => some unS.spec
  | _ => none, fun _ => none⟩
def uwTabs : Tabs := ⟨fun f => match f with
  | 6 => some impS
  | 7 => some punctS
  | 8 => some liveS
  | 9 => some cutS
  | 10 => some unimpS
  | _ => none, fun _ => none⟩
end T
