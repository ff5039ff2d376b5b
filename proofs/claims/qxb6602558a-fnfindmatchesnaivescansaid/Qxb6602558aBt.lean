/-
  BITS: two bytes as one number; one bit of sixty-four.
-/
import Derived.Test.Qxb6602558aF5
import Derived.Laws.BitsAllLaws
import Derived.Laws.Bits64b
namespace Go.Proofs.Qxb6602558a
open Go.RowKit
set_option linter.unusedVariables false

theorem wrap16 (n : Nat) (h : n < 65536) : IntKind.u16.wrap (n : Int) = (n : Int) := by rw [IntKind.wrap_u16]; omega

theorem pair_or (x c : Nat) (hc : c < 256) : bits .or .u16 (IntKind.u16.wrap ((x : Int) * 256)) (IntKind.u16.wrap (c : Int)) = ((x % 256 * 256 + c : Nat) : Int) := by
  have h1 : IntKind.u16.wrap ((x : Int) * 256) = ((x % 256 * 256 : Nat) : Int) := by rw [IntKind.wrap_u16]; omega
  rw [h1, wrap16 c (by omega), u16_or_nat _ _ (by omega) (by omega)]
  congr 1
  have := Nat.shiftLeft_add_eq_or_of_lt (i := 8) (b := c) (by omega) (x % 256)
  rw [Nat.shiftLeft_eq] at this
  exact this.symm

theorem quo64 (q : Nat) (h : q < 65536) : IntKind.u16.wrap (Int.tdiv (q : Int) 64) = ((q / 64 : Nat) : Int) := by
  have : Int.tdiv (q : Int) 64 = ((q / 64 : Nat) : Int) := by
    rw [Int.tdiv_eq_ediv_of_nonneg (by omega)]; omega
  rw [this, wrap16 _ (by omega)]

/-- bit r of P is asked -/
theorem bit_and {P r : Nat} (hP : P < 18446744073709551616) (hr : r < 64) (hb : P.testBit r = true) : bits .and .u64 (P : Int) ((2 ^ r : Nat) : Int) ≠ 0 := by
  have h2 : 2 ^ r < 18446744073709551616 := by
    have : 2 ^ r < 2 ^ 64 := Nat.pow_lt_pow_right (by omega) hr
    exact this
  rw [bits_and_u64_nat _ _ hP h2]
  intro h
  have h0 : P &&& 2 ^ r = 0 := by omega
  have := congrArg (fun n => n.testBit r) h0
  simp [Nat.testBit_and, hb] at this

theorem pow_wrap {r : Nat} (hr : r < 64) : IntKind.u64.wrap ((2 : Int) ^ r) = ((2 ^ r : Nat) : Int) := by
  have h2 : 2 ^ r < 18446744073709551616 := by
    have : 2 ^ r < 2 ^ 64 := Nat.pow_lt_pow_right (by omega) hr
    exact this
  have h3 : ((2 : Int) ^ r) = ((2 ^ r : Nat) : Int) := by rw [Int.natCast_pow]; rfl
  rw [h3, IntKind.wrap_u64]
  generalize 2 ^ r = y at h2
  omega
end Go.Proofs.Qxb6602558a
