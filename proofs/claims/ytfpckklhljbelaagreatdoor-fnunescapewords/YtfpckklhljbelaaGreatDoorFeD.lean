/- A part of the proof of this claim: lemmas of its own; what is proved, and on what conditions, the last text says. -/
import Derived.Test.YtfpckklhljbelaaGreatDoorEscP
import Derived.Test.YtfpckklhljbelaaGreatDoorCutP
set_option linter.all false
open Go Go.Sx Go.Proofs
namespace T
variable [Syms]
def cutS : Go.Sx.Spec := specN (List UInt8) (List UInt8) dec1 (fun _ => True) (fun _ x => Ok7 x) .str
def impS : Go.Sx.Spec := specF (List UInt8) dec1 (fun l => (∀ b ∈ l, b ≠ 0) ∧ l.length ≤ 1000000) (fun l => .str (escF l))
def dec0 : List AVal → Option Unit
  | [] => some ()
  | _ => none
def liveS : Go.Sx.Spec := specF Unit dec0 (fun _ => True) (fun _ => .lit (.bool true))
def decI : List AVal → Option Int
  | [.lit (.int .u8 n)] => some n
  | _ => none
theorem decI_ok {args : List AVal} {n : Int} (h : decI args = some n) : args = [.lit (.int .u8 n)] := by
  unfold decI at h
  split at h
  · cases h; rfl
  · cases h
theorem dec0_ok {args : List AVal} {n : Unit} (h : dec0 args = some n) : args = [] := by
  unfold dec0 at h
  split at h
  · rfl
  · cases h
def punctI (n : Int) : Bool := (decide (33 ≤ n) && decide (n ≤ 47)) || (decide (58 ≤ n) && decide (n ≤ 64)) || (decide (91 ≤ n) && decide (n ≤ 96)) || (decide (123 ≤ n) && decide (n ≤ 126))
def punctS : Go.Sx.Spec := specF Int decI (fun _ => True) (fun n => .lit (.bool (punctI n)))
def feTabs : Tabs := ⟨fun f => match f with
  | 5 => some cutS
  | 6 => some impS
  | 7 => some punctS
  | 8 => some liveS
  | _ => none, fun _ => none⟩
def feK (S : List UInt8) (j : Nat × Bool) : Nat := (escF (S.take j.1)).length + j.2.toNat
def feD (S : List UInt8) : LoopD where
  J := Nat × Bool
  side := fun j => j.1 ≤ S.length ∧ (j.2 = true → j.1 < S.length ∧ isMd (S.getD j.1 0) = true)
  μ := fun j => 2 * (S.length - j.1) - j.2.toNat
  fn := 67
  s := fun j => [(0, .str S), (3, .str (escF S)), (4, .lit (.int .i64 j.1)), (5, .lit (.int .i64 (feK S j)))]
  b := fun _ => []
  n := 0
  ros := []
  ways := [{ e := .exit 0, X := Unit, c := fun _ => True, s := fun _ => [(0, .str S), (4, .lit (.int .i64 S.length))], b := fun _ => [], n := 0 }]
def trueK : AVal → AHeap → Prop := fun v _ => v = .lit (.bool true)
end T
