/-
  No cell of these rows narrows 'for every input' (looked for: loops, veiled, ifaces, maps, wideKeys, modest, calm, conditions, laid).
  DERIVED. THE GIVEN ROWS OF THIS SEAT. 5 by the template 'for every input the law returns true; each argument reads behind the call as it read before'; 0 by the template 'total and deterministic' (their statements: Qxb6601000aTotals.lean).
  GIVEN WITH THE SEED: the statements are not yours to turn. If you find one false, say at which input.
  Laid BY PROGRAM, IN A SANDBOX (cutbox-rows.mjs): the forced cells as the released guide's own fill.sh prints them over the translation eb58bfa2b97e6e38… (all of the seat's roots in one cut). By AI agents, Wed Nov 11 2026. No macro, syntax, notation, axiom, sorry.
-/
import Derived.Test.Qxb6601000aChecked
import GoSem.Claim
import GoSem.ClaimJoined
import GoSem.ClaimMapViews
import Derived.JoinedTies
import Derived.KernelRfl
namespace Go.Proofs.Qxb6601000a
/- THE CELL 'sum', in the pinned program and in every row, IS THE sha256 OF THE DUMP (.gsa) THAT Qxb6601000aProg.lean LOADS. Nothing in Lean hashes anything: it is a label: what it is worth is what the hold of that sum in a sandbox is worth. -/
noncomputable def Try.pinned : Pinned := { name := "qxb6601000a", sum := "eb58bfa2b97e6e38d8c3704b089b5e29cfa9d03c92fff4ca2965a99d21a8e7d5", checked := Try.checked }
namespace Rows
def none {H : Type} : Left H := { results := [], args := [] }

/-- 'zzlaws_root_b1.FnIPv4KeyMatchesSplitModel': WHATEVER THE INPUT: true; the input reads as it did. -/
def fnIPv4KeyMatchesSplitModelSpec : ChangeSpec := { name := "fnIPv4KeyMatchesSplitModel", fn := fun _ => fun
  | [d] => { results := [.lit (.bool true)], args := [d] }
  | _ => none }
def fnIPv4KeyMatchesSplitModelRow : OpenClaim := { program := "qxb6601000a", sum := "eb58bfa2b97e6e38d8c3704b089b5e29cfa9d03c92fff4ca2965a99d21a8e7d5", func := "example.com/ration/ration/zzlaws_root_b1.FnIPv4KeyMatchesSplitModel", spec := "fnIPv4KeyMatchesSplitModel", apart := false }
def FnIPv4KeyMatchesSplitModelSaid : Prop := fnIPv4KeyMatchesSplitModelRow.holds Try.pinned (OpenSpec.ofChange fnIPv4KeyMatchesSplitModelSpec)

/-- ITS FALSE NEIGHBOUR: 'it returns false'. Refute it at one input. -/
def fnIPv4KeyMatchesSplitModelWrong : ChangeSpec := { name := "fnIPv4KeyMatchesSplitModel", fn := fun _ => fun
  | [d] => { results := [.lit (.bool false)], args := [d] }
  | _ => none }
def FnIPv4KeyMatchesSplitModelWrongFalsely : Prop := fnIPv4KeyMatchesSplitModelRow.holds Try.pinned (OpenSpec.ofChange fnIPv4KeyMatchesSplitModelWrong)

/-- 'zzlaws_root_b1.FnIPv4KeyReadsItsCanonicalText': WHATEVER THE INPUT: true; the input reads as it did. -/
def fnIPv4KeyReadsItsCanonicalTextSpec : ChangeSpec := { name := "fnIPv4KeyReadsItsCanonicalText", fn := fun _ => fun
  | [d] => { results := [.lit (.bool true)], args := [d] }
  | _ => none }
def fnIPv4KeyReadsItsCanonicalTextRow : OpenClaim := { program := "qxb6601000a", sum := "eb58bfa2b97e6e38d8c3704b089b5e29cfa9d03c92fff4ca2965a99d21a8e7d5", func := "example.com/ration/ration/zzlaws_root_b1.FnIPv4KeyReadsItsCanonicalText", spec := "fnIPv4KeyReadsItsCanonicalText", apart := false }
def FnIPv4KeyReadsItsCanonicalTextSaid : Prop := fnIPv4KeyReadsItsCanonicalTextRow.holds Try.pinned (OpenSpec.ofChange fnIPv4KeyReadsItsCanonicalTextSpec)

/-- ITS FALSE NEIGHBOUR: 'it returns false'. Refute it at one input. -/
def fnIPv4KeyReadsItsCanonicalTextWrong : ChangeSpec := { name := "fnIPv4KeyReadsItsCanonicalText", fn := fun _ => fun
  | [d] => { results := [.lit (.bool false)], args := [d] }
  | _ => none }
def FnIPv4KeyReadsItsCanonicalTextWrongFalsely : Prop := fnIPv4KeyReadsItsCanonicalTextRow.holds Try.pinned (OpenSpec.ofChange fnIPv4KeyReadsItsCanonicalTextWrong)

/-- 'zzlaws_root_b1.FnIPv4KeyAcceptsOnlyCanonicalText': WHATEVER THE INPUT: true; the input reads as it did. -/
def fnIPv4KeyAcceptsOnlyCanonicalTextSpec : ChangeSpec := { name := "fnIPv4KeyAcceptsOnlyCanonicalText", fn := fun _ => fun
  | [d] => { results := [.lit (.bool true)], args := [d] }
  | _ => none }
def fnIPv4KeyAcceptsOnlyCanonicalTextRow : OpenClaim := { program := "qxb6601000a", sum := "eb58bfa2b97e6e38d8c3704b089b5e29cfa9d03c92fff4ca2965a99d21a8e7d5", func := "example.com/ration/ration/zzlaws_root_b1.FnIPv4KeyAcceptsOnlyCanonicalText", spec := "fnIPv4KeyAcceptsOnlyCanonicalText", apart := false }
def FnIPv4KeyAcceptsOnlyCanonicalTextSaid : Prop := fnIPv4KeyAcceptsOnlyCanonicalTextRow.holds Try.pinned (OpenSpec.ofChange fnIPv4KeyAcceptsOnlyCanonicalTextSpec)

/-- ITS FALSE NEIGHBOUR: 'it returns false'. Refute it at one input. -/
def fnIPv4KeyAcceptsOnlyCanonicalTextWrong : ChangeSpec := { name := "fnIPv4KeyAcceptsOnlyCanonicalText", fn := fun _ => fun
  | [d] => { results := [.lit (.bool false)], args := [d] }
  | _ => none }
def FnIPv4KeyAcceptsOnlyCanonicalTextWrongFalsely : Prop := fnIPv4KeyAcceptsOnlyCanonicalTextRow.holds Try.pinned (OpenSpec.ofChange fnIPv4KeyAcceptsOnlyCanonicalTextWrong)

/-- 'zzlaws_root_b1.FnHeadOfCaseTable': WHATEVER THE INPUT: true; the input reads as it did. -/
def fnHeadOfCaseTableSpec : ChangeSpec := { name := "fnHeadOfCaseTable", fn := fun _ => fun
  | [d1, d2, d3] => { results := [.lit (.bool true)], args := [d1, d2, d3] }
  | _ => none }
def fnHeadOfCaseTableRow : OpenClaim := { program := "qxb6601000a", sum := "eb58bfa2b97e6e38d8c3704b089b5e29cfa9d03c92fff4ca2965a99d21a8e7d5", func := "example.com/ration/ration/zzlaws_root_b1.FnHeadOfCaseTable", spec := "fnHeadOfCaseTable", apart := false }
def FnHeadOfCaseTableSaid : Prop := fnHeadOfCaseTableRow.holds Try.pinned (OpenSpec.ofChange fnHeadOfCaseTableSpec)

/-- ITS FALSE NEIGHBOUR: 'it returns false'. Refute it at one input. -/
def fnHeadOfCaseTableWrong : ChangeSpec := { name := "fnHeadOfCaseTable", fn := fun _ => fun
  | [d1, d2, d3] => { results := [.lit (.bool false)], args := [d1, d2, d3] }
  | _ => none }
def FnHeadOfCaseTableWrongFalsely : Prop := fnHeadOfCaseTableRow.holds Try.pinned (OpenSpec.ofChange fnHeadOfCaseTableWrong)

/-- 'zzlaws_root_b1.FnKeyBytesMeasuresHeadOfsKey': WHATEVER THE INPUT: true; the input reads as it did. -/
def fnKeyBytesMeasuresHeadOfsKeySpec : ChangeSpec := { name := "fnKeyBytesMeasuresHeadOfsKey", fn := fun _ => fun
  | [d1, d2, d3] => { results := [.lit (.bool true)], args := [d1, d2, d3] }
  | _ => none }
def fnKeyBytesMeasuresHeadOfsKeyRow : OpenClaim := { program := "qxb6601000a", sum := "eb58bfa2b97e6e38d8c3704b089b5e29cfa9d03c92fff4ca2965a99d21a8e7d5", func := "example.com/ration/ration/zzlaws_root_b1.FnKeyBytesMeasuresHeadOfsKey", spec := "fnKeyBytesMeasuresHeadOfsKey", apart := false }
def FnKeyBytesMeasuresHeadOfsKeySaid : Prop := fnKeyBytesMeasuresHeadOfsKeyRow.holds Try.pinned (OpenSpec.ofChange fnKeyBytesMeasuresHeadOfsKeySpec)

/-- ITS FALSE NEIGHBOUR: 'it returns false'. Refute it at one input. -/
def fnKeyBytesMeasuresHeadOfsKeyWrong : ChangeSpec := { name := "fnKeyBytesMeasuresHeadOfsKey", fn := fun _ => fun
  | [d1, d2, d3] => { results := [.lit (.bool false)], args := [d1, d2, d3] }
  | _ => none }
def FnKeyBytesMeasuresHeadOfsKeyWrongFalsely : Prop := fnKeyBytesMeasuresHeadOfsKeyRow.holds Try.pinned (OpenSpec.ofChange fnKeyBytesMeasuresHeadOfsKeyWrong)

end Rows
end Go.Proofs.Qxb6601000a
