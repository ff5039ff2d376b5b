/-
  WHAT A LAW IS TOLD OF ITS SLICES.
-/
import Derived.Test.Qxb6602044aW2
namespace Go.Proofs.Qxb6602044a
open Go.RowKit
set_option linter.unusedVariables false

structure VInts (w : World) (a : Option Addr) (l c : Nat) (zs : List Int) : Prop where
  nil : a = none → l = 0 ∧ c = 0
  len : zs.length = l
  reads : Reads 0 w a (zs.map (Value.int .i64))
  max : l ≤ 9223372036854775807

structure VStrs (w : World) (a : Option Addr) (l c : Nat) (ss : List ByteArray) : Prop where
  nil : a = none → l = 0 ∧ c = 0
  len : ss.length = l
  reads : Reads 0 w a (ss.map Value.string)
  max : l ≤ 9223372036854775807
  each : ∀ s ∈ ss, s.size ≤ 9223372036854775807

structure VRows (w : World) (a : Option Addr) (l c : Nat) (vs : List Value) (rows : List (List Int)) : Prop where
  nil : a = none → l = 0 ∧ c = 0
  len : rows.length = l
  reads : Reads 0 w a vs
  vals : NVals 0 w vs rows
  max : l ≤ 9223372036854775807
  each : ∀ r ∈ rows, r.length ≤ 9223372036854775807
end Go.Proofs.Qxb6602044a
