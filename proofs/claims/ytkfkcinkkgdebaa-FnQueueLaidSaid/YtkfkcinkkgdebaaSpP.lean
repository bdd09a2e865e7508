/- A queue beside a plain list: what the reference's parts reckon. -/
import Derived.Test.YtkfkcinkkgdebaaQuG
set_option linter.unusedVariables false
namespace Go.Vil

/-- The reference's list of entries. -/
structure SL where
  ents : List (Nat × List UInt8)
  cap : Nat
  most : Nat
  lost : Bool
  ended : Bool
/-- Where the last entry ends, if no entry lies behind it. -/
def endP (l : List (Nat × List UInt8)) : Int :=
  match l.getLast? with
  | none => 1
  | some e => if ∃ x ∈ l, x.1 > e.1 then -1 else ((e.1 + needs e.2.length : Nat) : Int)
/-- A new entry lies in the array, and over no other one. -/
def roomP (l : List (Nat × List UInt8)) (cap : Nat) (i : Nat) (n : Nat) : Prop := 1 ≤ i ∧ i + n ≤ cap ∧ ∀ x ∈ l, ¬ (i < x.1 + needs x.2.length ∧ x.1 < i + n)
end Go.Vil
