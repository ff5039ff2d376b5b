/-
  No cell of these rows narrows 'for every input' (looked for: loops, veiled, ifaces, maps, wideKeys, modest, calm, conditions, laid).
  DERIVED. THE GIVEN ROWS OF THIS SEAT. 5 by the template 'for every input the law returns true; each argument reads behind the call as it read before'; 0 by the template 'total and deterministic' (their statements: Qxb6602044aTotals.lean).
  GIVEN WITH THE SEED: the statements are not yours to turn. If you find one false, say at which input.
  Laid BY PROGRAM, IN A SANDBOX (cutbox-rows.mjs): the forced cells as the released guide's own fill.sh prints them over the translation 55532e16e0c83193… (all of the seat's roots in one cut). By AI agents, Wed Nov 11 2026. No macro, syntax, notation, axiom, sorry.
-/
import Derived.Test.Qxb6602044aChecked
import GoSem.Claim
import GoSem.ClaimJoined
import GoSem.ClaimMapViews
import Derived.JoinedTies
import Derived.KernelRfl
namespace Go.Proofs.Qxb6602044a
/- THE CELL 'sum', in the pinned program and in every row, IS THE sha256 OF THE DUMP (.gsa) THAT Qxb6602044aProg.lean LOADS. Nothing in Lean hashes anything: it is a label: what it is worth is what the hold of that sum in a sandbox is worth. -/
noncomputable def Try.pinned : Pinned := { name := "qxb6602044a", sum := "55532e16e0c831933a979be8ae7adddafbcfd9dfc0c6ac0200a626782d545b31", checked := Try.checked }
namespace Rows
def none {H : Type} : Left H := { results := [], args := [] }

/-- 'zzlaws_pkg_history_b1.FnComponentsAreStrongComponentsInReverseOrder': WHATEVER THE INPUT: true; the input reads as it did. -/
def fnComponentsAreStrongComponentsInReverseOrderSpec : ChangeSpec := { name := "fnComponentsAreStrongComponentsInReverseOrder", fn := fun _ => fun
  | [d1, d2, d3, d4, d5] => { results := [.lit (.bool true)], args := [d1, d2, d3, d4, d5] }
  | _ => none }
def fnComponentsAreStrongComponentsInReverseOrderRow : OpenClaim := { program := "qxb6602044a", sum := "55532e16e0c831933a979be8ae7adddafbcfd9dfc0c6ac0200a626782d545b31", func := "example.com/isolens/isolens/zzlaws_pkg_history_b1.FnComponentsAreStrongComponentsInReverseOrder", spec := "fnComponentsAreStrongComponentsInReverseOrder", unfollowed := true, recurses := true, plainKeys := false, apart := false }
def FnComponentsAreStrongComponentsInReverseOrderSaid : Prop := fnComponentsAreStrongComponentsInReverseOrderRow.holds Try.pinned (OpenSpec.ofChange fnComponentsAreStrongComponentsInReverseOrderSpec)

/-- ITS FALSE NEIGHBOUR: 'it returns false'. Refute it at one input. -/
def fnComponentsAreStrongComponentsInReverseOrderWrong : ChangeSpec := { name := "fnComponentsAreStrongComponentsInReverseOrder", fn := fun _ => fun
  | [d1, d2, d3, d4, d5] => { results := [.lit (.bool false)], args := [d1, d2, d3, d4, d5] }
  | _ => none }
def FnComponentsAreStrongComponentsInReverseOrderWrongFalsely : Prop := fnComponentsAreStrongComponentsInReverseOrderRow.holds Try.pinned (OpenSpec.ofChange fnComponentsAreStrongComponentsInReverseOrderWrong)

/-- 'zzlaws_pkg_history_b1.FnComponentsCoarsenAsMostGrows': WHATEVER THE INPUT: true; the input reads as it did. -/
def fnComponentsCoarsenAsMostGrowsSpec : ChangeSpec := { name := "fnComponentsCoarsenAsMostGrows", fn := fun _ => fun
  | [d1, d2, d3, d4, d5, d6] => { results := [.lit (.bool true)], args := [d1, d2, d3, d4, d5, d6] }
  | _ => none }
def fnComponentsCoarsenAsMostGrowsRow : OpenClaim := { program := "qxb6602044a", sum := "55532e16e0c831933a979be8ae7adddafbcfd9dfc0c6ac0200a626782d545b31", func := "example.com/isolens/isolens/zzlaws_pkg_history_b1.FnComponentsCoarsenAsMostGrows", spec := "fnComponentsCoarsenAsMostGrows", unfollowed := true, recurses := true, plainKeys := false, apart := false }
def FnComponentsCoarsenAsMostGrowsSaid : Prop := fnComponentsCoarsenAsMostGrowsRow.holds Try.pinned (OpenSpec.ofChange fnComponentsCoarsenAsMostGrowsSpec)

/-- ITS FALSE NEIGHBOUR: 'it returns false'. Refute it at one input. -/
def fnComponentsCoarsenAsMostGrowsWrong : ChangeSpec := { name := "fnComponentsCoarsenAsMostGrows", fn := fun _ => fun
  | [d1, d2, d3, d4, d5, d6] => { results := [.lit (.bool false)], args := [d1, d2, d3, d4, d5, d6] }
  | _ => none }
def FnComponentsCoarsenAsMostGrowsWrongFalsely : Prop := fnComponentsCoarsenAsMostGrowsRow.holds Try.pinned (OpenSpec.ofChange fnComponentsCoarsenAsMostGrowsWrong)

/-- 'zzlaws_pkg_history_b1.FnPeriodsLieBetweenOneAndComponentSize': WHATEVER THE INPUT: true; the input reads as it did. -/
def fnPeriodsLieBetweenOneAndComponentSizeSpec : ChangeSpec := { name := "fnPeriodsLieBetweenOneAndComponentSize", fn := fun _ => fun
  | [d1, d2, d3, d4, d5] => { results := [.lit (.bool true)], args := [d1, d2, d3, d4, d5] }
  | _ => none }
def fnPeriodsLieBetweenOneAndComponentSizeRow : OpenClaim := { program := "qxb6602044a", sum := "55532e16e0c831933a979be8ae7adddafbcfd9dfc0c6ac0200a626782d545b31", func := "example.com/isolens/isolens/zzlaws_pkg_history_b1.FnPeriodsLieBetweenOneAndComponentSize", spec := "fnPeriodsLieBetweenOneAndComponentSize", unfollowed := true, recurses := true, plainKeys := false, apart := false }
def FnPeriodsLieBetweenOneAndComponentSizeSaid : Prop := fnPeriodsLieBetweenOneAndComponentSizeRow.holds Try.pinned (OpenSpec.ofChange fnPeriodsLieBetweenOneAndComponentSizeSpec)

/-- ITS FALSE NEIGHBOUR: 'it returns false'. Refute it at one input. -/
def fnPeriodsLieBetweenOneAndComponentSizeWrong : ChangeSpec := { name := "fnPeriodsLieBetweenOneAndComponentSize", fn := fun _ => fun
  | [d1, d2, d3, d4, d5] => { results := [.lit (.bool false)], args := [d1, d2, d3, d4, d5] }
  | _ => none }
def FnPeriodsLieBetweenOneAndComponentSizeWrongFalsely : Prop := fnPeriodsLieBetweenOneAndComponentSizeRow.holds Try.pinned (OpenSpec.ofChange fnPeriodsLieBetweenOneAndComponentSizeWrong)

/-- 'zzlaws_pkg_history_b1.FnOwnLeftOutIsFirstOwnUnlistedWrite': WHATEVER THE INPUT: true; the input reads as it did. -/
def fnOwnLeftOutIsFirstOwnUnlistedWriteSpec : ChangeSpec := { name := "fnOwnLeftOutIsFirstOwnUnlistedWrite", fn := fun _ => fun
  | [d1, d2, d3, d4, d5, d6, d7, d8] => { results := [.lit (.bool true)], args := [d1, d2, d3, d4, d5, d6, d7, d8] }
  | _ => none }
def fnOwnLeftOutIsFirstOwnUnlistedWriteRow : OpenClaim := { program := "qxb6602044a", sum := "55532e16e0c831933a979be8ae7adddafbcfd9dfc0c6ac0200a626782d545b31", func := "example.com/isolens/isolens/zzlaws_pkg_history_b1.FnOwnLeftOutIsFirstOwnUnlistedWrite", spec := "fnOwnLeftOutIsFirstOwnUnlistedWrite", plainKeys := false, apart := false }
def FnOwnLeftOutIsFirstOwnUnlistedWriteSaid : Prop := fnOwnLeftOutIsFirstOwnUnlistedWriteRow.holds Try.pinned (OpenSpec.ofChange fnOwnLeftOutIsFirstOwnUnlistedWriteSpec)

/-- ITS FALSE NEIGHBOUR: 'it returns false'. Refute it at one input. -/
def fnOwnLeftOutIsFirstOwnUnlistedWriteWrong : ChangeSpec := { name := "fnOwnLeftOutIsFirstOwnUnlistedWrite", fn := fun _ => fun
  | [d1, d2, d3, d4, d5, d6, d7, d8] => { results := [.lit (.bool false)], args := [d1, d2, d3, d4, d5, d6, d7, d8] }
  | _ => none }
def FnOwnLeftOutIsFirstOwnUnlistedWriteWrongFalsely : Prop := fnOwnLeftOutIsFirstOwnUnlistedWriteRow.holds Try.pinned (OpenSpec.ofChange fnOwnLeftOutIsFirstOwnUnlistedWriteWrong)

/-- 'zzlaws_pkg_history_b1.FnOwnLeftOutListingMoreNeverMovesEarlier': WHATEVER THE INPUT: true; the input reads as it did. -/
def fnOwnLeftOutListingMoreNeverMovesEarlierSpec : ChangeSpec := { name := "fnOwnLeftOutListingMoreNeverMovesEarlier", fn := fun _ => fun
  | [d1, d2, d3, d4, d5, d6, d7, d8, d9, d10] => { results := [.lit (.bool true)], args := [d1, d2, d3, d4, d5, d6, d7, d8, d9, d10] }
  | _ => none }
def fnOwnLeftOutListingMoreNeverMovesEarlierRow : OpenClaim := { program := "qxb6602044a", sum := "55532e16e0c831933a979be8ae7adddafbcfd9dfc0c6ac0200a626782d545b31", func := "example.com/isolens/isolens/zzlaws_pkg_history_b1.FnOwnLeftOutListingMoreNeverMovesEarlier", spec := "fnOwnLeftOutListingMoreNeverMovesEarlier", plainKeys := false, apart := false }
def FnOwnLeftOutListingMoreNeverMovesEarlierSaid : Prop := fnOwnLeftOutListingMoreNeverMovesEarlierRow.holds Try.pinned (OpenSpec.ofChange fnOwnLeftOutListingMoreNeverMovesEarlierSpec)

/-- ITS FALSE NEIGHBOUR: 'it returns false'. Refute it at one input. -/
def fnOwnLeftOutListingMoreNeverMovesEarlierWrong : ChangeSpec := { name := "fnOwnLeftOutListingMoreNeverMovesEarlier", fn := fun _ => fun
  | [d1, d2, d3, d4, d5, d6, d7, d8, d9, d10] => { results := [.lit (.bool false)], args := [d1, d2, d3, d4, d5, d6, d7, d8, d9, d10] }
  | _ => none }
def FnOwnLeftOutListingMoreNeverMovesEarlierWrongFalsely : Prop := fnOwnLeftOutListingMoreNeverMovesEarlierRow.holds Try.pinned (OpenSpec.ofChange fnOwnLeftOutListingMoreNeverMovesEarlierWrong)

end Rows
end Go.Proofs.Qxb6602044a
