/- A part of the proof of this claim: lemmas of its own; what is proved, and on what conditions, the last text says. -/
import Derived.Test.YtfpckklhljbelaaGreatDoorDecD
set_option linter.all false
open Go Go.Sx Go.Proofs
namespace T
/-- The bytes that escaping marks. -/
def mdL : List Nat := [92, 42, 95, 45, 43, 46, 62, 124, 36, 35, 61, 91, 93, 40, 41, 33, 126, 96, 34, 39]
def isMd (b : UInt8) : Bool := mdL.contains b.toNat
def esc1 (b : UInt8) : List UInt8 := cond (isMd b) [7, b] [b]
def escF (l : List UInt8) : List UInt8 := l.flatMap esc1
variable [Syms]
def mdEs : Nat → List Nat → List (AVal × AVal × Nat)
  | _, [] => []
  | i, c :: r => (.lit (.int .i32 c), .top, i) :: mdEs (i + 1) r
def convRow : List AVal := [.top, .top, .top, .top, .top, .top, .map 1, .top, .top, .str [], .top]
def escTabs : Tabs := ⟨fun f => match f with
  | 28 => some decS.spec
  | _ => none, fun _ => none⟩
def escBlks (l : List UInt8) : List (Nat × ABlk) := [(0, .row convRow 57 (.n 11)), (1, .map (mdEs 0 mdL) 20), (2, .bytes l 5 (.n 0))]
def escD (l : List UInt8) : LoopD where
  J := Nat
  side := fun k => k ≤ l.length ∧ l.length ≤ 1000000 ∧ (∀ b ∈ l, b ≠ 0)
  μ := fun k => l.length - k
  fn := 60
  s := fun k => [(0, .ptr 0 0), (1, .slc 2 0 l.length .x), (5, .slc 3 0 (escF (l.take k)).length (.u 4 0)), (6, .lit (.int .i64 k))]
  b := fun k => escBlks l ++ [(3, .bytes (escF (l.take k)) 5 (.u 4 1))]
  n := 5
  ros := [0, 1, 2]
  ways := [{ e := .exit 0, X := Unit, c := fun _ => True, s := fun _ => [(5, .slc 3 0 (escF l).length (.u 4 0))], b := fun _ => [(3, .bytes (escF l) 5 (.u 4 1))], n := 5 }]
def escS : OwnS where
  A := List UInt8
  dec := fun args H => match args with
    | [_, .slc id 0 _ _] => match H.get id with
      | some (.bytes l _ _) => some l
      | _ => none
    | _ => none
  dom := fun l => (∀ b ∈ l, b ≠ 0) ∧ l.length ≤ 1000000
  args1 := fun l => [.ptr 0 0, .slc 2 0 l.length .x]
  blks1 := escBlks
  next1 := 3
  ros1 := [0, 1, 2]
  G := fun l x => x = escF l
  e := 5
end T
