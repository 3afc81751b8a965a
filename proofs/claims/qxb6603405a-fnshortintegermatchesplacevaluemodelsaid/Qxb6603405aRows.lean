/-
  No cell of these rows narrows 'for every input' (looked for: loops, veiled, ifaces, maps, wideKeys, modest, calm, conditions, laid).
  DERIVED. THE GIVEN ROWS OF THIS SEAT. 8 by the template 'for every input the law returns true; each argument reads behind the call as it read before'; 0 by the template 'total and deterministic' (their statements: Qxb6603405aTotals.lean).
  GIVEN WITH THE SEED: the statements are not yours to turn. If you find one false, say at which input.
  Laid BY PROGRAM, IN A SANDBOX (cutbox-rows.mjs): the forced cells as the released guide's own fill.sh prints them over the translation 89df079abca3627f… (all of the seat's roots in one cut). By AI agents, Wed Nov 11 2026. No macro, syntax, notation, axiom, sorry.
-/
import Derived.Test.Qxb6603405aChecked
import GoSem.Claim
import GoSem.ClaimJoined
import GoSem.ClaimMapViews
import Derived.JoinedTies
import Derived.KernelRfl
namespace Go.Proofs.Qxb6603405a
/- THE CELL 'sum', in the pinned program and in every row, IS THE sha256 OF THE DUMP (.gsa) THAT Qxb6603405aProg.lean LOADS. Nothing in Lean hashes anything: it is a label: what it is worth is what the hold of that sum in a sandbox is worth. -/
noncomputable def Try.pinned : Pinned := { name := "qxb6603405a", sum := "89df079abca3627f3a2a2233f134b5a91288c33fd7a3598efc42e1c191707712", checked := Try.checked }
namespace Rows
def none {H : Type} : Left H := { results := [], args := [] }

/-- 'zzlaws_internal_manifest_b1.FnHexRuneMatchesPositionalModel': WHATEVER THE INPUT: true; the input reads as it did. -/
def fnHexRuneMatchesPositionalModelSpec : ChangeSpec := { name := "fnHexRuneMatchesPositionalModel", fn := fun _ => fun
  | [d] => { results := [.lit (.bool true)], args := [d] }
  | _ => none }
def fnHexRuneMatchesPositionalModelRow : OpenClaim := { program := "qxb6603405a", sum := "89df079abca3627f3a2a2233f134b5a91288c33fd7a3598efc42e1c191707712", func := "example.com/portcullis/portcullis/zzlaws_internal_manifest_b1.FnHexRuneMatchesPositionalModel", spec := "fnHexRuneMatchesPositionalModel", apart := false }
def FnHexRuneMatchesPositionalModelSaid : Prop := fnHexRuneMatchesPositionalModelRow.holds Try.pinned (OpenSpec.ofChange fnHexRuneMatchesPositionalModelSpec)

/-- ITS FALSE NEIGHBOUR: 'it returns false'. Refute it at one input. -/
def fnHexRuneMatchesPositionalModelWrong : ChangeSpec := { name := "fnHexRuneMatchesPositionalModel", fn := fun _ => fun
  | [d] => { results := [.lit (.bool false)], args := [d] }
  | _ => none }
def FnHexRuneMatchesPositionalModelWrongFalsely : Prop := fnHexRuneMatchesPositionalModelRow.holds Try.pinned (OpenSpec.ofChange fnHexRuneMatchesPositionalModelWrong)

/-- 'zzlaws_internal_manifest_b1.FnHexRuneReadsTheDigitsItWasWritten': WHATEVER THE INPUT: true; the input reads as it did. -/
def fnHexRuneReadsTheDigitsItWasWrittenSpec : ChangeSpec := { name := "fnHexRuneReadsTheDigitsItWasWritten", fn := fun _ => fun
  | [d1, d2, d3] => { results := [.lit (.bool true)], args := [d1, d2, d3] }
  | _ => none }
def fnHexRuneReadsTheDigitsItWasWrittenRow : OpenClaim := { program := "qxb6603405a", sum := "89df079abca3627f3a2a2233f134b5a91288c33fd7a3598efc42e1c191707712", func := "example.com/portcullis/portcullis/zzlaws_internal_manifest_b1.FnHexRuneReadsTheDigitsItWasWritten", spec := "fnHexRuneReadsTheDigitsItWasWritten", apart := false }
def FnHexRuneReadsTheDigitsItWasWrittenSaid : Prop := fnHexRuneReadsTheDigitsItWasWrittenRow.holds Try.pinned (OpenSpec.ofChange fnHexRuneReadsTheDigitsItWasWrittenSpec)

/-- ITS FALSE NEIGHBOUR: 'it returns false'. Refute it at one input. -/
def fnHexRuneReadsTheDigitsItWasWrittenWrong : ChangeSpec := { name := "fnHexRuneReadsTheDigitsItWasWritten", fn := fun _ => fun
  | [d1, d2, d3] => { results := [.lit (.bool false)], args := [d1, d2, d3] }
  | _ => none }
def FnHexRuneReadsTheDigitsItWasWrittenWrongFalsely : Prop := fnHexRuneReadsTheDigitsItWasWrittenRow.holds Try.pinned (OpenSpec.ofChange fnHexRuneReadsTheDigitsItWasWrittenWrong)

/-- 'zzlaws_internal_manifest_b1.FnShortIntegerMatchesPlaceValueModel': WHATEVER THE INPUT: true; the input reads as it did. -/
def fnShortIntegerMatchesPlaceValueModelSpec : ChangeSpec := { name := "fnShortIntegerMatchesPlaceValueModel", fn := fun _ => fun
  | [d] => { results := [.lit (.bool true)], args := [d] }
  | _ => none }
def fnShortIntegerMatchesPlaceValueModelRow : OpenClaim := { program := "qxb6603405a", sum := "89df079abca3627f3a2a2233f134b5a91288c33fd7a3598efc42e1c191707712", func := "example.com/portcullis/portcullis/zzlaws_internal_manifest_b1.FnShortIntegerMatchesPlaceValueModel", spec := "fnShortIntegerMatchesPlaceValueModel", apart := false }
def FnShortIntegerMatchesPlaceValueModelSaid : Prop := fnShortIntegerMatchesPlaceValueModelRow.holds Try.pinned (OpenSpec.ofChange fnShortIntegerMatchesPlaceValueModelSpec)

/-- ITS FALSE NEIGHBOUR: 'it returns false'. Refute it at one input. -/
def fnShortIntegerMatchesPlaceValueModelWrong : ChangeSpec := { name := "fnShortIntegerMatchesPlaceValueModel", fn := fun _ => fun
  | [d] => { results := [.lit (.bool false)], args := [d] }
  | _ => none }
def FnShortIntegerMatchesPlaceValueModelWrongFalsely : Prop := fnShortIntegerMatchesPlaceValueModelRow.holds Try.pinned (OpenSpec.ofChange fnShortIntegerMatchesPlaceValueModelWrong)

/-- 'zzlaws_internal_manifest_b1.FnShortIntegerReadsItsOwnDecimal': WHATEVER THE INPUT: true; the input reads as it did. -/
def fnShortIntegerReadsItsOwnDecimalSpec : ChangeSpec := { name := "fnShortIntegerReadsItsOwnDecimal", fn := fun _ => fun
  | [d1, d2] => { results := [.lit (.bool true)], args := [d1, d2] }
  | _ => none }
def fnShortIntegerReadsItsOwnDecimalRow : OpenClaim := { program := "qxb6603405a", sum := "89df079abca3627f3a2a2233f134b5a91288c33fd7a3598efc42e1c191707712", func := "example.com/portcullis/portcullis/zzlaws_internal_manifest_b1.FnShortIntegerReadsItsOwnDecimal", spec := "fnShortIntegerReadsItsOwnDecimal", apart := false }
def FnShortIntegerReadsItsOwnDecimalSaid : Prop := fnShortIntegerReadsItsOwnDecimalRow.holds Try.pinned (OpenSpec.ofChange fnShortIntegerReadsItsOwnDecimalSpec)

/-- ITS FALSE NEIGHBOUR: 'it returns false'. Refute it at one input. -/
def fnShortIntegerReadsItsOwnDecimalWrong : ChangeSpec := { name := "fnShortIntegerReadsItsOwnDecimal", fn := fun _ => fun
  | [d1, d2] => { results := [.lit (.bool false)], args := [d1, d2] }
  | _ => none }
def FnShortIntegerReadsItsOwnDecimalWrongFalsely : Prop := fnShortIntegerReadsItsOwnDecimalRow.holds Try.pinned (OpenSpec.ofChange fnShortIntegerReadsItsOwnDecimalWrong)

/-- 'zzlaws_internal_manifest_b1.FnShortIntegerMinusNegates': WHATEVER THE INPUT: true; the input reads as it did. -/
def fnShortIntegerMinusNegatesSpec : ChangeSpec := { name := "fnShortIntegerMinusNegates", fn := fun _ => fun
  | [d] => { results := [.lit (.bool true)], args := [d] }
  | _ => none }
def fnShortIntegerMinusNegatesRow : OpenClaim := { program := "qxb6603405a", sum := "89df079abca3627f3a2a2233f134b5a91288c33fd7a3598efc42e1c191707712", func := "example.com/portcullis/portcullis/zzlaws_internal_manifest_b1.FnShortIntegerMinusNegates", spec := "fnShortIntegerMinusNegates", apart := false }
def FnShortIntegerMinusNegatesSaid : Prop := fnShortIntegerMinusNegatesRow.holds Try.pinned (OpenSpec.ofChange fnShortIntegerMinusNegatesSpec)

/-- ITS FALSE NEIGHBOUR: 'it returns false'. Refute it at one input. -/
def fnShortIntegerMinusNegatesWrong : ChangeSpec := { name := "fnShortIntegerMinusNegates", fn := fun _ => fun
  | [d] => { results := [.lit (.bool false)], args := [d] }
  | _ => none }
def FnShortIntegerMinusNegatesWrongFalsely : Prop := fnShortIntegerMinusNegatesRow.holds Try.pinned (OpenSpec.ofChange fnShortIntegerMinusNegatesWrong)

/-- 'zzlaws_internal_manifest_b1.FnPlainProbeMatchesLayout': WHATEVER THE INPUT: true; the input reads as it did. -/
def fnPlainProbeMatchesLayoutSpec : ChangeSpec := { name := "fnPlainProbeMatchesLayout", fn := fun _ => fun
  | [d1, d2] => { results := [.lit (.bool true)], args := [d1, d2] }
  | _ => none }
def fnPlainProbeMatchesLayoutRow : OpenClaim := { program := "qxb6603405a", sum := "89df079abca3627f3a2a2233f134b5a91288c33fd7a3598efc42e1c191707712", func := "example.com/portcullis/portcullis/zzlaws_internal_manifest_b1.FnPlainProbeMatchesLayout", spec := "fnPlainProbeMatchesLayout", apart := false }
def FnPlainProbeMatchesLayoutSaid : Prop := fnPlainProbeMatchesLayoutRow.holds Try.pinned (OpenSpec.ofChange fnPlainProbeMatchesLayoutSpec)

/-- ITS FALSE NEIGHBOUR: 'it returns false'. Refute it at one input. -/
def fnPlainProbeMatchesLayoutWrong : ChangeSpec := { name := "fnPlainProbeMatchesLayout", fn := fun _ => fun
  | [d1, d2] => { results := [.lit (.bool false)], args := [d1, d2] }
  | _ => none }
def FnPlainProbeMatchesLayoutWrongFalsely : Prop := fnPlainProbeMatchesLayoutRow.holds Try.pinned (OpenSpec.ofChange fnPlainProbeMatchesLayoutWrong)

/-- 'zzlaws_internal_manifest_b1.FnPlainProbeEndsInItsOnlyTab': WHATEVER THE INPUT: true; the input reads as it did. -/
def fnPlainProbeEndsInItsOnlyTabSpec : ChangeSpec := { name := "fnPlainProbeEndsInItsOnlyTab", fn := fun _ => fun
  | [d1, d2] => { results := [.lit (.bool true)], args := [d1, d2] }
  | _ => none }
def fnPlainProbeEndsInItsOnlyTabRow : OpenClaim := { program := "qxb6603405a", sum := "89df079abca3627f3a2a2233f134b5a91288c33fd7a3598efc42e1c191707712", func := "example.com/portcullis/portcullis/zzlaws_internal_manifest_b1.FnPlainProbeEndsInItsOnlyTab", spec := "fnPlainProbeEndsInItsOnlyTab", apart := false }
def FnPlainProbeEndsInItsOnlyTabSaid : Prop := fnPlainProbeEndsInItsOnlyTabRow.holds Try.pinned (OpenSpec.ofChange fnPlainProbeEndsInItsOnlyTabSpec)

/-- ITS FALSE NEIGHBOUR: 'it returns false'. Refute it at one input. -/
def fnPlainProbeEndsInItsOnlyTabWrong : ChangeSpec := { name := "fnPlainProbeEndsInItsOnlyTab", fn := fun _ => fun
  | [d1, d2] => { results := [.lit (.bool false)], args := [d1, d2] }
  | _ => none }
def FnPlainProbeEndsInItsOnlyTabWrongFalsely : Prop := fnPlainProbeEndsInItsOnlyTabRow.holds Try.pinned (OpenSpec.ofChange fnPlainProbeEndsInItsOnlyTabWrong)

/-- 'zzlaws_internal_manifest_b1.FnPlainProbeDiffersFromRootlessByInsertionOnly': WHATEVER THE INPUT: true; the input reads as it did. -/
def fnPlainProbeDiffersFromRootlessByInsertionOnlySpec : ChangeSpec := { name := "fnPlainProbeDiffersFromRootlessByInsertionOnly", fn := fun _ => fun
  | [d1, d2] => { results := [.lit (.bool true)], args := [d1, d2] }
  | _ => none }
def fnPlainProbeDiffersFromRootlessByInsertionOnlyRow : OpenClaim := { program := "qxb6603405a", sum := "89df079abca3627f3a2a2233f134b5a91288c33fd7a3598efc42e1c191707712", func := "example.com/portcullis/portcullis/zzlaws_internal_manifest_b1.FnPlainProbeDiffersFromRootlessByInsertionOnly", spec := "fnPlainProbeDiffersFromRootlessByInsertionOnly", apart := false }
def FnPlainProbeDiffersFromRootlessByInsertionOnlySaid : Prop := fnPlainProbeDiffersFromRootlessByInsertionOnlyRow.holds Try.pinned (OpenSpec.ofChange fnPlainProbeDiffersFromRootlessByInsertionOnlySpec)

/-- ITS FALSE NEIGHBOUR: 'it returns false'. Refute it at one input. -/
def fnPlainProbeDiffersFromRootlessByInsertionOnlyWrong : ChangeSpec := { name := "fnPlainProbeDiffersFromRootlessByInsertionOnly", fn := fun _ => fun
  | [d1, d2] => { results := [.lit (.bool false)], args := [d1, d2] }
  | _ => none }
def FnPlainProbeDiffersFromRootlessByInsertionOnlyWrongFalsely : Prop := fnPlainProbeDiffersFromRootlessByInsertionOnlyRow.holds Try.pinned (OpenSpec.ofChange fnPlainProbeDiffersFromRootlessByInsertionOnlyWrong)

end Rows
end Go.Proofs.Qxb6603405a
