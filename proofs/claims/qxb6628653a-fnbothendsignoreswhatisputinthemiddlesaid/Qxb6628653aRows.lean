/-
  No cell of these rows narrows 'for every input' (looked for: loops, veiled, ifaces, maps, wideKeys, modest, calm, conditions, laid).
  DERIVED. THE GIVEN ROWS OF THIS SEAT. 2 by the template 'for every input the law returns true; each argument reads behind the call as it read before'; 0 by the template 'total and deterministic' (their statements: Qxb6628653aTotals.lean).
  GIVEN WITH THE SEED: the statements are not yours to turn. If you find one false, say at which input.
  Laid BY PROGRAM, IN A SANDBOX (cutbox-rows.mjs): the forced cells as the released guide's own fill.sh prints them over the translation e175f618281a0924… (all of the seat's roots in one cut). By AI agents, Wed Nov 11 2026. No macro, syntax, notation, axiom, sorry.
-/
import Derived.Test.Qxb6628653aChecked
import GoSem.Claim
import GoSem.ClaimJoined
import GoSem.ClaimMapViews
import Derived.JoinedTies
import Derived.KernelRfl
namespace Go.Proofs.Qxb6628653a
/- THE CELL 'sum', in the pinned program and in every row, IS THE sha256 OF THE DUMP (.gsa) THAT Qxb6628653aProg.lean LOADS. Nothing in Lean hashes anything: it is a label: what it is worth is what the hold of that sum in a sandbox is worth. -/
noncomputable def Try.pinned : Pinned := { name := "qxb6628653a", sum := "e175f618281a092432daf0dbc9dec430d502ce025175f23ca8fcc730f2a434f2", checked := Try.checked }
namespace Rows
def none {H : Type} : Left H := { results := [], args := [] }

/-- 'zzlaws_pkg_excerpt_b1.FnBothEndsHeadAndTailAtAnyCut': WHATEVER THE INPUT: true; the input reads as it did. -/
def fnBothEndsHeadAndTailAtAnyCutSpec : ChangeSpec := { name := "fnBothEndsHeadAndTailAtAnyCut", fn := fun _ => fun
  | [d1, d2] => { results := [.lit (.bool true)], args := [d1, d2] }
  | _ => none }
def fnBothEndsHeadAndTailAtAnyCutRow : OpenClaim := { program := "qxb6628653a", sum := "e175f618281a092432daf0dbc9dec430d502ce025175f23ca8fcc730f2a434f2", func := "example.com/zhaomu/zhaomu/zzlaws_pkg_excerpt_b1.FnBothEndsHeadAndTailAtAnyCut", spec := "fnBothEndsHeadAndTailAtAnyCut", apart := false }
def FnBothEndsHeadAndTailAtAnyCutSaid : Prop := fnBothEndsHeadAndTailAtAnyCutRow.holds Try.pinned (OpenSpec.ofChange fnBothEndsHeadAndTailAtAnyCutSpec)

/-- ITS FALSE NEIGHBOUR: 'it returns false'. Refute it at one input. -/
def fnBothEndsHeadAndTailAtAnyCutWrong : ChangeSpec := { name := "fnBothEndsHeadAndTailAtAnyCut", fn := fun _ => fun
  | [d1, d2] => { results := [.lit (.bool false)], args := [d1, d2] }
  | _ => none }
def FnBothEndsHeadAndTailAtAnyCutWrongFalsely : Prop := fnBothEndsHeadAndTailAtAnyCutRow.holds Try.pinned (OpenSpec.ofChange fnBothEndsHeadAndTailAtAnyCutWrong)

/-- 'zzlaws_pkg_excerpt_b1.FnBothEndsIgnoresWhatIsPutInTheMiddle': WHATEVER THE INPUT: true; the input reads as it did. -/
def fnBothEndsIgnoresWhatIsPutInTheMiddleSpec : ChangeSpec := { name := "fnBothEndsIgnoresWhatIsPutInTheMiddle", fn := fun _ => fun
  | [d1, d2, d3] => { results := [.lit (.bool true)], args := [d1, d2, d3] }
  | _ => none }
def fnBothEndsIgnoresWhatIsPutInTheMiddleRow : OpenClaim := { program := "qxb6628653a", sum := "e175f618281a092432daf0dbc9dec430d502ce025175f23ca8fcc730f2a434f2", func := "example.com/zhaomu/zhaomu/zzlaws_pkg_excerpt_b1.FnBothEndsIgnoresWhatIsPutInTheMiddle", spec := "fnBothEndsIgnoresWhatIsPutInTheMiddle", apart := false }
def FnBothEndsIgnoresWhatIsPutInTheMiddleSaid : Prop := fnBothEndsIgnoresWhatIsPutInTheMiddleRow.holds Try.pinned (OpenSpec.ofChange fnBothEndsIgnoresWhatIsPutInTheMiddleSpec)

/-- ITS FALSE NEIGHBOUR: 'it returns false'. Refute it at one input. -/
def fnBothEndsIgnoresWhatIsPutInTheMiddleWrong : ChangeSpec := { name := "fnBothEndsIgnoresWhatIsPutInTheMiddle", fn := fun _ => fun
  | [d1, d2, d3] => { results := [.lit (.bool false)], args := [d1, d2, d3] }
  | _ => none }
def FnBothEndsIgnoresWhatIsPutInTheMiddleWrongFalsely : Prop := fnBothEndsIgnoresWhatIsPutInTheMiddleRow.holds Try.pinned (OpenSpec.ofChange fnBothEndsIgnoresWhatIsPutInTheMiddleWrong)

end Rows
end Go.Proofs.Qxb6628653a
