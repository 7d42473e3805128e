/-
  No cell of these rows narrows 'for every input' (looked for: loops, veiled, ifaces, maps, wideKeys, modest, calm, conditions, laid).
  DERIVED. THE GIVEN ROWS OF THIS SEAT. 3 by the template 'for every input the law returns true; each argument reads behind the call as it read before'; 0 by the template 'total and deterministic' (their statements: Qxb6600830aTotals.lean).
  GIVEN WITH THE SEED: the statements are not yours to turn. If you find one false, say at which input.
  Laid BY PROGRAM, IN A SANDBOX (cutbox-rows.mjs): the forced cells as the released guide's own fill.sh prints them over the translation 2f9272c2b4d2f78e… (all of the seat's roots in one cut). By AI agents, Wed Nov 11 2026. No macro, syntax, notation, axiom, sorry.
-/
import Derived.Test.Qxb6600830aChecked
import GoSem.Claim
import GoSem.ClaimJoined
import GoSem.ClaimMapViews
import Derived.JoinedTies
import Derived.KernelRfl
namespace Go.Proofs.Qxb6600830a
/- THE CELL 'sum', in the pinned program and in every row, IS THE sha256 OF THE DUMP (.gsa) THAT Qxb6600830aProg.lean LOADS. Nothing in Lean hashes anything: it is a label: what it is worth is what the hold of that sum in a sandbox is worth. -/
noncomputable def Try.pinned : Pinned := { name := "qxb6600830a", sum := "2f9272c2b4d2f78eb10c7935fa41745b81afb4424f475e8cb3b9c84a900585c3", checked := Try.checked }
namespace Rows
def none {H : Type} : Left H := { results := [], args := [] }

/-- 'zzlaws_root_b1.FnQuotedStringExact': WHATEVER THE INPUT: true; the input reads as it did. -/
def fnQuotedStringExactSpec : ChangeSpec := { name := "fnQuotedStringExact", fn := fun _ => fun
  | [d] => { results := [.lit (.bool true)], args := [d] }
  | _ => none }
def fnQuotedStringExactRow : OpenClaim := { program := "qxb6600830a", sum := "2f9272c2b4d2f78eb10c7935fa41745b81afb4424f475e8cb3b9c84a900585c3", func := "example.com/stanchway/stanchway/zzlaws_root_b1.FnQuotedStringExact", spec := "fnQuotedStringExact", inPlace := ["internal/abi.NoEscape"], apart := false }
def FnQuotedStringExactSaid : Prop := fnQuotedStringExactRow.holds Try.pinned (OpenSpec.ofChange fnQuotedStringExactSpec)

/-- ITS FALSE NEIGHBOUR: 'it returns false'. Refute it at one input. -/
def fnQuotedStringExactWrong : ChangeSpec := { name := "fnQuotedStringExact", fn := fun _ => fun
  | [d] => { results := [.lit (.bool false)], args := [d] }
  | _ => none }
def FnQuotedStringExactWrongFalsely : Prop := fnQuotedStringExactRow.holds Try.pinned (OpenSpec.ofChange fnQuotedStringExactWrong)

/-- 'zzlaws_root_b1.FnQuotedStringConcat': WHATEVER THE INPUT: true; the input reads as it did. -/
def fnQuotedStringConcatSpec : ChangeSpec := { name := "fnQuotedStringConcat", fn := fun _ => fun
  | [d1, d2] => { results := [.lit (.bool true)], args := [d1, d2] }
  | _ => none }
def fnQuotedStringConcatRow : OpenClaim := { program := "qxb6600830a", sum := "2f9272c2b4d2f78eb10c7935fa41745b81afb4424f475e8cb3b9c84a900585c3", func := "example.com/stanchway/stanchway/zzlaws_root_b1.FnQuotedStringConcat", spec := "fnQuotedStringConcat", inPlace := ["internal/abi.NoEscape"], apart := false }
def FnQuotedStringConcatSaid : Prop := fnQuotedStringConcatRow.holds Try.pinned (OpenSpec.ofChange fnQuotedStringConcatSpec)

/-- ITS FALSE NEIGHBOUR: 'it returns false'. Refute it at one input. -/
def fnQuotedStringConcatWrong : ChangeSpec := { name := "fnQuotedStringConcat", fn := fun _ => fun
  | [d1, d2] => { results := [.lit (.bool false)], args := [d1, d2] }
  | _ => none }
def FnQuotedStringConcatWrongFalsely : Prop := fnQuotedStringConcatRow.holds Try.pinned (OpenSpec.ofChange fnQuotedStringConcatWrong)

/-- 'zzlaws_root_b1.FnSelectStatementParsesBack': WHATEVER THE INPUT: true; the input reads as it did. -/
def fnSelectStatementParsesBackSpec : ChangeSpec := { name := "fnSelectStatementParsesBack", fn := fun _ => fun
  | [d1, d2, d3, d4] => { results := [.lit (.bool true)], args := [d1, d2, d3, d4] }
  | _ => none }
def fnSelectStatementParsesBackRow : OpenClaim := { program := "qxb6600830a", sum := "2f9272c2b4d2f78eb10c7935fa41745b81afb4424f475e8cb3b9c84a900585c3", func := "example.com/stanchway/stanchway/zzlaws_root_b1.FnSelectStatementParsesBack", spec := "fnSelectStatementParsesBack", inPlace := ["internal/abi.NoEscape"], apart := false }
def FnSelectStatementParsesBackSaid : Prop := fnSelectStatementParsesBackRow.holds Try.pinned (OpenSpec.ofChange fnSelectStatementParsesBackSpec)

/-- ITS FALSE NEIGHBOUR: 'it returns false'. Refute it at one input. -/
def fnSelectStatementParsesBackWrong : ChangeSpec := { name := "fnSelectStatementParsesBack", fn := fun _ => fun
  | [d1, d2, d3, d4] => { results := [.lit (.bool false)], args := [d1, d2, d3, d4] }
  | _ => none }
def FnSelectStatementParsesBackWrongFalsely : Prop := fnSelectStatementParsesBackRow.holds Try.pinned (OpenSpec.ofChange fnSelectStatementParsesBackWrong)

end Rows
end Go.Proofs.Qxb6600830a
