/-
  No cell of these rows narrows 'for every input' (looked for: loops, veiled, ifaces, maps, wideKeys, modest, calm, conditions, laid).
  DERIVED. THE GIVEN ROWS OF THIS SEAT. 2 by the template 'for every input the law returns true; each argument reads behind the call as it read before'; 0 by the template 'total and deterministic' (their statements: Qxb6628735aTotals.lean).
  GIVEN WITH THE SEED: the statements are not yours to turn. If you find one false, say at which input.
  Laid BY PROGRAM, IN A SANDBOX (cutbox-rows.mjs): the forced cells as the released guide's own fill.sh prints them over the translation c8cefd271e28d983… (all of the seat's roots in one cut). By AI agents, Wed Nov 11 2026. No macro, syntax, notation, axiom, sorry.
-/
import Derived.Test.Qxb6628735aChecked
import GoSem.Claim
import GoSem.ClaimJoined
import GoSem.ClaimMapViews
import Derived.JoinedTies
import Derived.KernelRfl
namespace Go.Proofs.Qxb6628735a
/- THE CELL 'sum', in the pinned program and in every row, IS THE sha256 OF THE DUMP (.gsa) THAT Qxb6628735aProg.lean LOADS. Nothing in Lean hashes anything: it is a label: what it is worth is what the hold of that sum in a sandbox is worth. -/
noncomputable def Try.pinned : Pinned := { name := "qxb6628735a", sum := "c8cefd271e28d983445c0adff90493d416ba3133d5c4c82e8c4283e966ee9d45", checked := Try.checked }
namespace Rows
def none {H : Type} : Left H := { results := [], args := [] }

/-- 'zzlaws_root_b1.FnHexDigitsTextIsZeroPaddedLowerCase': WHATEVER THE INPUT: true; the input reads as it did. -/
def fnHexDigitsTextIsZeroPaddedLowerCaseSpec : ChangeSpec := { name := "fnHexDigitsTextIsZeroPaddedLowerCase", fn := fun _ => fun
  | [d] => { results := [.lit (.bool true)], args := [d] }
  | _ => none }
def fnHexDigitsTextIsZeroPaddedLowerCaseRow : OpenClaim := { program := "qxb6628735a", sum := "c8cefd271e28d983445c0adff90493d416ba3133d5c4c82e8c4283e966ee9d45", func := "example.com/literant/literant/zzlaws_root_b1.FnHexDigitsTextIsZeroPaddedLowerCase", spec := "fnHexDigitsTextIsZeroPaddedLowerCase", inPlace := ["internal/abi.NoEscape", "internal/bytealg.MakeNoZero"], apart := false }
def FnHexDigitsTextIsZeroPaddedLowerCaseSaid : Prop := fnHexDigitsTextIsZeroPaddedLowerCaseRow.holds Try.pinned (OpenSpec.ofChange fnHexDigitsTextIsZeroPaddedLowerCaseSpec)

/-- ITS FALSE NEIGHBOUR: 'it returns false'. Refute it at one input. -/
def fnHexDigitsTextIsZeroPaddedLowerCaseWrong : ChangeSpec := { name := "fnHexDigitsTextIsZeroPaddedLowerCase", fn := fun _ => fun
  | [d] => { results := [.lit (.bool false)], args := [d] }
  | _ => none }
def FnHexDigitsTextIsZeroPaddedLowerCaseWrongFalsely : Prop := fnHexDigitsTextIsZeroPaddedLowerCaseRow.holds Try.pinned (OpenSpec.ofChange fnHexDigitsTextIsZeroPaddedLowerCaseWrong)

/-- 'zzlaws_root_b1.FnHexDigitsTextSplitsAtEvenTailAndFoldsCase': WHATEVER THE INPUT: true; the input reads as it did. -/
def fnHexDigitsTextSplitsAtEvenTailAndFoldsCaseSpec : ChangeSpec := { name := "fnHexDigitsTextSplitsAtEvenTailAndFoldsCase", fn := fun _ => fun
  | [d1, d2] => { results := [.lit (.bool true)], args := [d1, d2] }
  | _ => none }
def fnHexDigitsTextSplitsAtEvenTailAndFoldsCaseRow : OpenClaim := { program := "qxb6628735a", sum := "c8cefd271e28d983445c0adff90493d416ba3133d5c4c82e8c4283e966ee9d45", func := "example.com/literant/literant/zzlaws_root_b1.FnHexDigitsTextSplitsAtEvenTailAndFoldsCase", spec := "fnHexDigitsTextSplitsAtEvenTailAndFoldsCase", inPlace := ["internal/abi.NoEscape", "internal/bytealg.MakeNoZero"], apart := false }
def FnHexDigitsTextSplitsAtEvenTailAndFoldsCaseSaid : Prop := fnHexDigitsTextSplitsAtEvenTailAndFoldsCaseRow.holds Try.pinned (OpenSpec.ofChange fnHexDigitsTextSplitsAtEvenTailAndFoldsCaseSpec)

/-- ITS FALSE NEIGHBOUR: 'it returns false'. Refute it at one input. -/
def fnHexDigitsTextSplitsAtEvenTailAndFoldsCaseWrong : ChangeSpec := { name := "fnHexDigitsTextSplitsAtEvenTailAndFoldsCase", fn := fun _ => fun
  | [d1, d2] => { results := [.lit (.bool false)], args := [d1, d2] }
  | _ => none }
def FnHexDigitsTextSplitsAtEvenTailAndFoldsCaseWrongFalsely : Prop := fnHexDigitsTextSplitsAtEvenTailAndFoldsCaseRow.holds Try.pinned (OpenSpec.ofChange fnHexDigitsTextSplitsAtEvenTailAndFoldsCaseWrong)

end Rows
end Go.Proofs.Qxb6628735a
