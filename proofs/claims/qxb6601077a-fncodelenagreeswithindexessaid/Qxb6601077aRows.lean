/-
  No cell of these rows narrows 'for every input' (looked for: loops, veiled, ifaces, maps, wideKeys, modest, calm, conditions, laid).
  DERIVED. THE GIVEN ROWS OF THIS SEAT. 8 by the template 'for every input the law returns true; each argument reads behind the call as it read before'; 0 by the template 'total and deterministic' (their statements: Qxb6601077aTotals.lean).
  GIVEN WITH THE SEED: the statements are not yours to turn. If you find one false, say at which input.
  Laid BY PROGRAM, IN A SANDBOX (cutbox-rows.mjs): the forced cells as the released guide's own fill.sh prints them over the translation cfd8dbd170d1ac59… (all of the seat's roots in one cut). By AI agents, Wed Nov 11 2026. No macro, syntax, notation, axiom, sorry.
-/
import Derived.Test.Qxb6601077aChecked
import GoSem.Claim
import GoSem.ClaimJoined
import GoSem.ClaimMapViews
import Derived.JoinedTies
import Derived.KernelRfl
namespace Go.Proofs.Qxb6601077a
/- THE CELL 'sum', in the pinned program and in every row, IS THE sha256 OF THE DUMP (.gsa) THAT Qxb6601077aProg.lean LOADS. Nothing in Lean hashes anything: it is a label: what it is worth is what the hold of that sum in a sandbox is worth. -/
noncomputable def Try.pinned : Pinned := { name := "qxb6601077a", sum := "cfd8dbd170d1ac59baaf677e21df2d22279a3ddb9421354c4405f9b3684cdc83", checked := Try.checked }
namespace Rows
def none {H : Type} : Left H := { results := [], args := [] }

/-- 'zzlaws_pkg_gb18030_b1.FnTwoByteIndexCountsCodesBefore': WHATEVER THE INPUT: true; the input reads as it did. -/
def fnTwoByteIndexCountsCodesBeforeSpec : ChangeSpec := { name := "fnTwoByteIndexCountsCodesBefore", fn := fun _ => fun
  | [d1, d2] => { results := [.lit (.bool true)], args := [d1, d2] }
  | _ => none }
def fnTwoByteIndexCountsCodesBeforeRow : OpenClaim := { program := "qxb6601077a", sum := "cfd8dbd170d1ac59baaf677e21df2d22279a3ddb9421354c4405f9b3684cdc83", func := "example.com/tranchery/tranchery/zzlaws_pkg_gb18030_b1.FnTwoByteIndexCountsCodesBefore", spec := "fnTwoByteIndexCountsCodesBefore", apart := false }
def FnTwoByteIndexCountsCodesBeforeSaid : Prop := fnTwoByteIndexCountsCodesBeforeRow.holds Try.pinned (OpenSpec.ofChange fnTwoByteIndexCountsCodesBeforeSpec)

/-- ITS FALSE NEIGHBOUR: 'it returns false'. Refute it at one input. -/
def fnTwoByteIndexCountsCodesBeforeWrong : ChangeSpec := { name := "fnTwoByteIndexCountsCodesBefore", fn := fun _ => fun
  | [d1, d2] => { results := [.lit (.bool false)], args := [d1, d2] }
  | _ => none }
def FnTwoByteIndexCountsCodesBeforeWrongFalsely : Prop := fnTwoByteIndexCountsCodesBeforeRow.holds Try.pinned (OpenSpec.ofChange fnTwoByteIndexCountsCodesBeforeWrong)

/-- 'zzlaws_pkg_gb18030_b1.FnTwoByteIndexOrderAndRange': WHATEVER THE INPUT: true; the input reads as it did. -/
def fnTwoByteIndexOrderAndRangeSpec : ChangeSpec := { name := "fnTwoByteIndexOrderAndRange", fn := fun _ => fun
  | [d1, d2, d3, d4] => { results := [.lit (.bool true)], args := [d1, d2, d3, d4] }
  | _ => none }
def fnTwoByteIndexOrderAndRangeRow : OpenClaim := { program := "qxb6601077a", sum := "cfd8dbd170d1ac59baaf677e21df2d22279a3ddb9421354c4405f9b3684cdc83", func := "example.com/tranchery/tranchery/zzlaws_pkg_gb18030_b1.FnTwoByteIndexOrderAndRange", spec := "fnTwoByteIndexOrderAndRange", apart := false }
def FnTwoByteIndexOrderAndRangeSaid : Prop := fnTwoByteIndexOrderAndRangeRow.holds Try.pinned (OpenSpec.ofChange fnTwoByteIndexOrderAndRangeSpec)

/-- ITS FALSE NEIGHBOUR: 'it returns false'. Refute it at one input. -/
def fnTwoByteIndexOrderAndRangeWrong : ChangeSpec := { name := "fnTwoByteIndexOrderAndRange", fn := fun _ => fun
  | [d1, d2, d3, d4] => { results := [.lit (.bool false)], args := [d1, d2, d3, d4] }
  | _ => none }
def FnTwoByteIndexOrderAndRangeWrongFalsely : Prop := fnTwoByteIndexOrderAndRangeRow.holds Try.pinned (OpenSpec.ofChange fnTwoByteIndexOrderAndRangeWrong)

/-- 'zzlaws_pkg_gb18030_b1.FnTwoByteIndexOnto': WHATEVER THE INPUT: true; the input reads as it did. -/
def fnTwoByteIndexOntoSpec : ChangeSpec := { name := "fnTwoByteIndexOnto", fn := fun _ => fun
  | [d] => { results := [.lit (.bool true)], args := [d] }
  | _ => none }
def fnTwoByteIndexOntoRow : OpenClaim := { program := "qxb6601077a", sum := "cfd8dbd170d1ac59baaf677e21df2d22279a3ddb9421354c4405f9b3684cdc83", func := "example.com/tranchery/tranchery/zzlaws_pkg_gb18030_b1.FnTwoByteIndexOnto", spec := "fnTwoByteIndexOnto", apart := false }
def FnTwoByteIndexOntoSaid : Prop := fnTwoByteIndexOntoRow.holds Try.pinned (OpenSpec.ofChange fnTwoByteIndexOntoSpec)

/-- ITS FALSE NEIGHBOUR: 'it returns false'. Refute it at one input. -/
def fnTwoByteIndexOntoWrong : ChangeSpec := { name := "fnTwoByteIndexOnto", fn := fun _ => fun
  | [d] => { results := [.lit (.bool false)], args := [d] }
  | _ => none }
def FnTwoByteIndexOntoWrongFalsely : Prop := fnTwoByteIndexOntoRow.holds Try.pinned (OpenSpec.ofChange fnTwoByteIndexOntoWrong)

/-- 'zzlaws_pkg_gb18030_b1.FnFourByteIndexDigitsDecode': WHATEVER THE INPUT: true; the input reads as it did. -/
def fnFourByteIndexDigitsDecodeSpec : ChangeSpec := { name := "fnFourByteIndexDigitsDecode", fn := fun _ => fun
  | [d] => { results := [.lit (.bool true)], args := [d] }
  | _ => none }
def fnFourByteIndexDigitsDecodeRow : OpenClaim := { program := "qxb6601077a", sum := "cfd8dbd170d1ac59baaf677e21df2d22279a3ddb9421354c4405f9b3684cdc83", func := "example.com/tranchery/tranchery/zzlaws_pkg_gb18030_b1.FnFourByteIndexDigitsDecode", spec := "fnFourByteIndexDigitsDecode", apart := false }
def FnFourByteIndexDigitsDecodeSaid : Prop := fnFourByteIndexDigitsDecodeRow.holds Try.pinned (OpenSpec.ofChange fnFourByteIndexDigitsDecodeSpec)

/-- ITS FALSE NEIGHBOUR: 'it returns false'. Refute it at one input. -/
def fnFourByteIndexDigitsDecodeWrong : ChangeSpec := { name := "fnFourByteIndexDigitsDecode", fn := fun _ => fun
  | [d] => { results := [.lit (.bool false)], args := [d] }
  | _ => none }
def FnFourByteIndexDigitsDecodeWrongFalsely : Prop := fnFourByteIndexDigitsDecodeRow.holds Try.pinned (OpenSpec.ofChange fnFourByteIndexDigitsDecodeWrong)

/-- 'zzlaws_pkg_gb18030_b1.FnFourByteIndexOrder': WHATEVER THE INPUT: true; the input reads as it did. -/
def fnFourByteIndexOrderSpec : ChangeSpec := { name := "fnFourByteIndexOrder", fn := fun _ => fun
  | [d1, d2] => { results := [.lit (.bool true)], args := [d1, d2] }
  | _ => none }
def fnFourByteIndexOrderRow : OpenClaim := { program := "qxb6601077a", sum := "cfd8dbd170d1ac59baaf677e21df2d22279a3ddb9421354c4405f9b3684cdc83", func := "example.com/tranchery/tranchery/zzlaws_pkg_gb18030_b1.FnFourByteIndexOrder", spec := "fnFourByteIndexOrder", apart := false }
def FnFourByteIndexOrderSaid : Prop := fnFourByteIndexOrderRow.holds Try.pinned (OpenSpec.ofChange fnFourByteIndexOrderSpec)

/-- ITS FALSE NEIGHBOUR: 'it returns false'. Refute it at one input. -/
def fnFourByteIndexOrderWrong : ChangeSpec := { name := "fnFourByteIndexOrder", fn := fun _ => fun
  | [d1, d2] => { results := [.lit (.bool false)], args := [d1, d2] }
  | _ => none }
def FnFourByteIndexOrderWrongFalsely : Prop := fnFourByteIndexOrderRow.holds Try.pinned (OpenSpec.ofChange fnFourByteIndexOrderWrong)

/-- 'zzlaws_pkg_gb18030_b1.FnFourByteIndexOnto': WHATEVER THE INPUT: true; the input reads as it did. -/
def fnFourByteIndexOntoSpec : ChangeSpec := { name := "fnFourByteIndexOnto", fn := fun _ => fun
  | [d] => { results := [.lit (.bool true)], args := [d] }
  | _ => none }
def fnFourByteIndexOntoRow : OpenClaim := { program := "qxb6601077a", sum := "cfd8dbd170d1ac59baaf677e21df2d22279a3ddb9421354c4405f9b3684cdc83", func := "example.com/tranchery/tranchery/zzlaws_pkg_gb18030_b1.FnFourByteIndexOnto", spec := "fnFourByteIndexOnto", apart := false }
def FnFourByteIndexOntoSaid : Prop := fnFourByteIndexOntoRow.holds Try.pinned (OpenSpec.ofChange fnFourByteIndexOntoSpec)

/-- ITS FALSE NEIGHBOUR: 'it returns false'. Refute it at one input. -/
def fnFourByteIndexOntoWrong : ChangeSpec := { name := "fnFourByteIndexOnto", fn := fun _ => fun
  | [d] => { results := [.lit (.bool false)], args := [d] }
  | _ => none }
def FnFourByteIndexOntoWrongFalsely : Prop := fnFourByteIndexOntoRow.holds Try.pinned (OpenSpec.ofChange fnFourByteIndexOntoWrong)

/-- 'zzlaws_pkg_gb18030_b1.FnCodeLenAgreesWithIndexes': WHATEVER THE INPUT: true; the input reads as it did. -/
def fnCodeLenAgreesWithIndexesSpec : ChangeSpec := { name := "fnCodeLenAgreesWithIndexes", fn := fun _ => fun
  | [d] => { results := [.lit (.bool true)], args := [d] }
  | _ => none }
def fnCodeLenAgreesWithIndexesRow : OpenClaim := { program := "qxb6601077a", sum := "cfd8dbd170d1ac59baaf677e21df2d22279a3ddb9421354c4405f9b3684cdc83", func := "example.com/tranchery/tranchery/zzlaws_pkg_gb18030_b1.FnCodeLenAgreesWithIndexes", spec := "fnCodeLenAgreesWithIndexes", apart := false }
def FnCodeLenAgreesWithIndexesSaid : Prop := fnCodeLenAgreesWithIndexesRow.holds Try.pinned (OpenSpec.ofChange fnCodeLenAgreesWithIndexesSpec)

/-- ITS FALSE NEIGHBOUR: 'it returns false'. Refute it at one input. -/
def fnCodeLenAgreesWithIndexesWrong : ChangeSpec := { name := "fnCodeLenAgreesWithIndexes", fn := fun _ => fun
  | [d] => { results := [.lit (.bool false)], args := [d] }
  | _ => none }
def FnCodeLenAgreesWithIndexesWrongFalsely : Prop := fnCodeLenAgreesWithIndexesRow.holds Try.pinned (OpenSpec.ofChange fnCodeLenAgreesWithIndexesWrong)

/-- 'zzlaws_pkg_gb18030_b1.FnCodeLenStableUnderExtension': WHATEVER THE INPUT: true; the input reads as it did. -/
def fnCodeLenStableUnderExtensionSpec : ChangeSpec := { name := "fnCodeLenStableUnderExtension", fn := fun _ => fun
  | [d1, d2] => { results := [.lit (.bool true)], args := [d1, d2] }
  | _ => none }
def fnCodeLenStableUnderExtensionRow : OpenClaim := { program := "qxb6601077a", sum := "cfd8dbd170d1ac59baaf677e21df2d22279a3ddb9421354c4405f9b3684cdc83", func := "example.com/tranchery/tranchery/zzlaws_pkg_gb18030_b1.FnCodeLenStableUnderExtension", spec := "fnCodeLenStableUnderExtension", apart := false }
def FnCodeLenStableUnderExtensionSaid : Prop := fnCodeLenStableUnderExtensionRow.holds Try.pinned (OpenSpec.ofChange fnCodeLenStableUnderExtensionSpec)

/-- ITS FALSE NEIGHBOUR: 'it returns false'. Refute it at one input. -/
def fnCodeLenStableUnderExtensionWrong : ChangeSpec := { name := "fnCodeLenStableUnderExtension", fn := fun _ => fun
  | [d1, d2] => { results := [.lit (.bool false)], args := [d1, d2] }
  | _ => none }
def FnCodeLenStableUnderExtensionWrongFalsely : Prop := fnCodeLenStableUnderExtensionRow.holds Try.pinned (OpenSpec.ofChange fnCodeLenStableUnderExtensionWrong)

end Rows
end Go.Proofs.Qxb6601077a
