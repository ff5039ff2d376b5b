/-
  No cell of these rows narrows 'for every input' (looked for: loops, veiled, ifaces, maps, wideKeys, modest, calm, conditions, laid).
  DERIVED. THE GIVEN ROWS OF THIS SEAT. 6 by the template 'for every input the law returns true; each argument reads behind the call as it read before'; 0 by the template 'total and deterministic' (their statements: Qxb6602558aTotals.lean).
  GIVEN WITH THE SEED: the statements are not yours to turn. If you find one false, say at which input.
  Laid BY PROGRAM, IN A SANDBOX (cutbox-rows.mjs): the forced cells as the released guide's own fill.sh prints them over the translation 0dd1c46cf79a6e1f… (all of the seat's roots in one cut). By AI agents, Wed Nov 11 2026. No macro, syntax, notation, axiom, sorry.
-/
import Derived.Test.Qxb6602558aChecked
import GoSem.Claim
import GoSem.ClaimJoined
import GoSem.ClaimMapViews
import Derived.JoinedTies
import Derived.KernelRfl
namespace Go.Proofs.Qxb6602558a
/- THE CELL 'sum', in the pinned program and in every row, IS THE sha256 OF THE DUMP (.gsa) THAT Qxb6602558aProg.lean LOADS. Nothing in Lean hashes anything: it is a label: what it is worth is what the hold of that sum in a sandbox is worth. -/
noncomputable def Try.pinned : Pinned := { name := "qxb6602558a", sum := "0dd1c46cf79a6e1fa25353f9f9d2ccc665d861264cf53f8b5ad1de8b86d94536", checked := Try.checked }
namespace Rows
def none {H : Type} : Left H := { results := [], args := [] }

/-- 'zzlaws_root_b1.FnBracketEndMatchesByteScan': WHATEVER THE INPUT: true; the input reads as it did. -/
def fnBracketEndMatchesByteScanSpec : ChangeSpec := { name := "fnBracketEndMatchesByteScan", fn := fun _ => fun
  | [d1, d2, d3, d4] => { results := [.lit (.bool true)], args := [d1, d2, d3, d4] }
  | _ => none }
def fnBracketEndMatchesByteScanRow : OpenClaim := { program := "qxb6602558a", sum := "0dd1c46cf79a6e1fa25353f9f9d2ccc665d861264cf53f8b5ad1de8b86d94536", func := "example.com/failover/failover/zzlaws_root_b1.FnBracketEndMatchesByteScan", spec := "fnBracketEndMatchesByteScan", inPlace := ["internal/bytealg.IndexByte"], apart := false }
def FnBracketEndMatchesByteScanSaid : Prop := fnBracketEndMatchesByteScanRow.holds Try.pinned (OpenSpec.ofChange fnBracketEndMatchesByteScanSpec)

/-- ITS FALSE NEIGHBOUR: 'it returns false'. Refute it at one input. -/
def fnBracketEndMatchesByteScanWrong : ChangeSpec := { name := "fnBracketEndMatchesByteScan", fn := fun _ => fun
  | [d1, d2, d3, d4] => { results := [.lit (.bool false)], args := [d1, d2, d3, d4] }
  | _ => none }
def FnBracketEndMatchesByteScanWrongFalsely : Prop := fnBracketEndMatchesByteScanRow.holds Try.pinned (OpenSpec.ofChange fnBracketEndMatchesByteScanWrong)

/-- 'zzlaws_root_b1.FnBracketEndSplitAnywhere': WHATEVER THE INPUT: true; the input reads as it did. -/
def fnBracketEndSplitAnywhereSpec : ChangeSpec := { name := "fnBracketEndSplitAnywhere", fn := fun _ => fun
  | [d1, d2, d3, d4, d5] => { results := [.lit (.bool true)], args := [d1, d2, d3, d4, d5] }
  | _ => none }
def fnBracketEndSplitAnywhereRow : OpenClaim := { program := "qxb6602558a", sum := "0dd1c46cf79a6e1fa25353f9f9d2ccc665d861264cf53f8b5ad1de8b86d94536", func := "example.com/failover/failover/zzlaws_root_b1.FnBracketEndSplitAnywhere", spec := "fnBracketEndSplitAnywhere", inPlace := ["internal/bytealg.IndexByte"], apart := false }
def FnBracketEndSplitAnywhereSaid : Prop := fnBracketEndSplitAnywhereRow.holds Try.pinned (OpenSpec.ofChange fnBracketEndSplitAnywhereSpec)

/-- ITS FALSE NEIGHBOUR: 'it returns false'. Refute it at one input. -/
def fnBracketEndSplitAnywhereWrong : ChangeSpec := { name := "fnBracketEndSplitAnywhere", fn := fun _ => fun
  | [d1, d2, d3, d4, d5] => { results := [.lit (.bool false)], args := [d1, d2, d3, d4, d5] }
  | _ => none }
def FnBracketEndSplitAnywhereWrongFalsely : Prop := fnBracketEndSplitAnywhereRow.holds Try.pinned (OpenSpec.ofChange fnBracketEndSplitAnywhereWrong)

/-- 'zzlaws_root_b1.FnFindMatchesNaiveScan': WHATEVER THE INPUT: true; the input reads as it did. -/
def fnFindMatchesNaiveScanSpec : ChangeSpec := { name := "fnFindMatchesNaiveScan", fn := fun _ => fun
  | [d1, d2, d3, d4, d5, d6, d7] => { results := [.lit (.bool true)], args := [d1, d2, d3, d4, d5, d6, d7] }
  | _ => none }
def fnFindMatchesNaiveScanRow : OpenClaim := { program := "qxb6602558a", sum := "0dd1c46cf79a6e1fa25353f9f9d2ccc665d861264cf53f8b5ad1de8b86d94536", func := "example.com/failover/failover/zzlaws_root_b1.FnFindMatchesNaiveScan", spec := "fnFindMatchesNaiveScan", apart := false }
def FnFindMatchesNaiveScanSaid : Prop := fnFindMatchesNaiveScanRow.holds Try.pinned (OpenSpec.ofChange fnFindMatchesNaiveScanSpec)

/-- ITS FALSE NEIGHBOUR: 'it returns false'. Refute it at one input. -/
def fnFindMatchesNaiveScanWrong : ChangeSpec := { name := "fnFindMatchesNaiveScan", fn := fun _ => fun
  | [d1, d2, d3, d4, d5, d6, d7] => { results := [.lit (.bool false)], args := [d1, d2, d3, d4, d5, d6, d7] }
  | _ => none }
def FnFindMatchesNaiveScanWrongFalsely : Prop := fnFindMatchesNaiveScanRow.holds Try.pinned (OpenSpec.ofChange fnFindMatchesNaiveScanWrong)

/-- 'zzlaws_root_b1.FnLineEndWithoutQuotesFindsTheFirstBreak': WHATEVER THE INPUT: true; the input reads as it did. -/
def fnLineEndWithoutQuotesFindsTheFirstBreakSpec : ChangeSpec := { name := "fnLineEndWithoutQuotesFindsTheFirstBreak", fn := fun _ => fun
  | [d1, d2, d3, d4, d5, d6, d7, d8, d9] => { results := [.lit (.bool true)], args := [d1, d2, d3, d4, d5, d6, d7, d8, d9] }
  | _ => none }
def fnLineEndWithoutQuotesFindsTheFirstBreakRow : OpenClaim := { program := "qxb6602558a", sum := "0dd1c46cf79a6e1fa25353f9f9d2ccc665d861264cf53f8b5ad1de8b86d94536", func := "example.com/failover/failover/zzlaws_root_b1.FnLineEndWithoutQuotesFindsTheFirstBreak", spec := "fnLineEndWithoutQuotesFindsTheFirstBreak", apart := false }
def FnLineEndWithoutQuotesFindsTheFirstBreakSaid : Prop := fnLineEndWithoutQuotesFindsTheFirstBreakRow.holds Try.pinned (OpenSpec.ofChange fnLineEndWithoutQuotesFindsTheFirstBreakSpec)

/-- ITS FALSE NEIGHBOUR: 'it returns false'. Refute it at one input. -/
def fnLineEndWithoutQuotesFindsTheFirstBreakWrong : ChangeSpec := { name := "fnLineEndWithoutQuotesFindsTheFirstBreak", fn := fun _ => fun
  | [d1, d2, d3, d4, d5, d6, d7, d8, d9] => { results := [.lit (.bool false)], args := [d1, d2, d3, d4, d5, d6, d7, d8, d9] }
  | _ => none }
def FnLineEndWithoutQuotesFindsTheFirstBreakWrongFalsely : Prop := fnLineEndWithoutQuotesFindsTheFirstBreakRow.holds Try.pinned (OpenSpec.ofChange fnLineEndWithoutQuotesFindsTheFirstBreakWrong)

/-- 'zzlaws_root_b1.FnLineEndIsIdempotent': WHATEVER THE INPUT: true; the input reads as it did. -/
def fnLineEndIsIdempotentSpec : ChangeSpec := { name := "fnLineEndIsIdempotent", fn := fun _ => fun
  | [d1, d2, d3, d4, d5, d6, d7, d8, d9] => { results := [.lit (.bool true)], args := [d1, d2, d3, d4, d5, d6, d7, d8, d9] }
  | _ => none }
def fnLineEndIsIdempotentRow : OpenClaim := { program := "qxb6602558a", sum := "0dd1c46cf79a6e1fa25353f9f9d2ccc665d861264cf53f8b5ad1de8b86d94536", func := "example.com/failover/failover/zzlaws_root_b1.FnLineEndIsIdempotent", spec := "fnLineEndIsIdempotent", apart := false }
def FnLineEndIsIdempotentSaid : Prop := fnLineEndIsIdempotentRow.holds Try.pinned (OpenSpec.ofChange fnLineEndIsIdempotentSpec)

/-- ITS FALSE NEIGHBOUR: 'it returns false'. Refute it at one input. -/
def fnLineEndIsIdempotentWrong : ChangeSpec := { name := "fnLineEndIsIdempotent", fn := fun _ => fun
  | [d1, d2, d3, d4, d5, d6, d7, d8, d9] => { results := [.lit (.bool false)], args := [d1, d2, d3, d4, d5, d6, d7, d8, d9] }
  | _ => none }
def FnLineEndIsIdempotentWrongFalsely : Prop := fnLineEndIsIdempotentRow.holds Try.pinned (OpenSpec.ofChange fnLineEndIsIdempotentWrong)

/-- 'zzlaws_root_b1.FnLineEndStaysOnItsLine': WHATEVER THE INPUT: true; the input reads as it did. -/
def fnLineEndStaysOnItsLineSpec : ChangeSpec := { name := "fnLineEndStaysOnItsLine", fn := fun _ => fun
  | [d1, d2, d3, d4, d5, d6, d7, d8, d9] => { results := [.lit (.bool true)], args := [d1, d2, d3, d4, d5, d6, d7, d8, d9] }
  | _ => none }
def fnLineEndStaysOnItsLineRow : OpenClaim := { program := "qxb6602558a", sum := "0dd1c46cf79a6e1fa25353f9f9d2ccc665d861264cf53f8b5ad1de8b86d94536", func := "example.com/failover/failover/zzlaws_root_b1.FnLineEndStaysOnItsLine", spec := "fnLineEndStaysOnItsLine", apart := false }
def FnLineEndStaysOnItsLineSaid : Prop := fnLineEndStaysOnItsLineRow.holds Try.pinned (OpenSpec.ofChange fnLineEndStaysOnItsLineSpec)

/-- ITS FALSE NEIGHBOUR: 'it returns false'. Refute it at one input. -/
def fnLineEndStaysOnItsLineWrong : ChangeSpec := { name := "fnLineEndStaysOnItsLine", fn := fun _ => fun
  | [d1, d2, d3, d4, d5, d6, d7, d8, d9] => { results := [.lit (.bool false)], args := [d1, d2, d3, d4, d5, d6, d7, d8, d9] }
  | _ => none }
def FnLineEndStaysOnItsLineWrongFalsely : Prop := fnLineEndStaysOnItsLineRow.holds Try.pinned (OpenSpec.ofChange fnLineEndStaysOnItsLineWrong)

end Rows
end Go.Proofs.Qxb6602558a
