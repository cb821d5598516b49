/- A part of the proof of this claim: lemmas of its own; what is proved, and on what conditions, the last text says. -/
import Derived.Test.YtfpckklhljbelaaGreatDoorPre
set_option linter.all false
open Go Go.Sx Go.Proofs
namespace T
variable [Syms]
abbrev Ok7 (out : List UInt8) : Prop := (∀ b ∈ out, b ≠ 7 ∧ b ≠ 0) ∧ out.length ≤ 300
def cutD (l : List UInt8) : LoopD where
  J := Nat × List UInt8
  side := fun j => Ok7 j.2 ∧ j.2.length ≤ j.1
  μ := fun j => l.length - j.1
  fn := 33
  s := fun j => [(0, .str l), (3, .slc 0 0 j.2.length (.u 2 0)), (11, .ptr 1 0)]
  b := fun j => [(0, .bytes j.2 5 (.u 2 1)), (1, .siter (l.take 300) j.1)]
  n := 3
  ros := []
  ways := [{ e := .exit 0, X := List UInt8, c := fun out => Ok7 out, s := fun out => [(3, .slc 0 0 out.length (.u 2 0))], b := fun out => [(0, .bytes out 5 (.u 2 1))], n := 3 }]
end T
