/-
  No cell of these rows narrows 'for every input' (looked for: loops, veiled, ifaces, maps, wideKeys, modest, calm, conditions, laid).
  DERIVED. THE GIVEN ROWS OF THIS SEAT. 2 by the template 'for every input the law returns true; each argument reads behind the call as it read before'; 0 by the template 'total and deterministic' (their statements: Qxb6628686aTotals.lean).
  GIVEN WITH THE SEED: the statements are not yours to turn. If you find one false, say at which input.
  Laid BY PROGRAM, IN A SANDBOX (cutbox-rows.mjs): the forced cells as the released guide's own fill.sh prints them over the translation 89f0f820b695e09b… (all of the seat's roots in one cut). By AI agents, Wed Nov 11 2026. No macro, syntax, notation, axiom, sorry.
-/
import Derived.Test.Qxb6628686aChecked
import GoSem.Claim
import GoSem.ClaimJoined
import GoSem.ClaimMapViews
import Derived.JoinedTies
import Derived.KernelRfl
namespace Go.Proofs.Qxb6628686a
/- THE CELL 'sum', in the pinned program and in every row, IS THE sha256 OF THE DUMP (.gsa) THAT Qxb6628686aProg.lean LOADS. Nothing in Lean hashes anything: it is a label: what it is worth is what the hold of that sum in a sandbox is worth. -/
noncomputable def Try.pinned : Pinned := { name := "qxb6628686a", sum := "89f0f820b695e09bfc7b8b8a317fa192a719966259ce738e6ff073279a2eac22", checked := Try.checked }
namespace Rows
def none {H : Type} : Left H := { results := [], args := [] }

/-- 'zzlaws_internal_frame_b1.FnHasFirstGapAndNormalForm': WHATEVER THE INPUT: true; the input reads as it did. -/
def fnHasFirstGapAndNormalFormSpec : ChangeSpec := { name := "fnHasFirstGapAndNormalForm", fn := fun _ => fun
  | [d1, d2, d3, d4, d5, d6] => { results := [.lit (.bool true)], args := [d1, d2, d3, d4, d5, d6] }
  | _ => none }
def fnHasFirstGapAndNormalFormRow : OpenClaim := { program := "qxb6628686a", sum := "89f0f820b695e09bfc7b8b8a317fa192a719966259ce738e6ff073279a2eac22", func := "example.com/quietflood/quietflood/zzlaws_internal_frame_b1.FnHasFirstGapAndNormalForm", spec := "fnHasFirstGapAndNormalForm", apart := false }
def FnHasFirstGapAndNormalFormSaid : Prop := fnHasFirstGapAndNormalFormRow.holds Try.pinned (OpenSpec.ofChange fnHasFirstGapAndNormalFormSpec)

/-- ITS FALSE NEIGHBOUR: 'it returns false'. Refute it at one input. -/
def fnHasFirstGapAndNormalFormWrong : ChangeSpec := { name := "fnHasFirstGapAndNormalForm", fn := fun _ => fun
  | [d1, d2, d3, d4, d5, d6] => { results := [.lit (.bool false)], args := [d1, d2, d3, d4, d5, d6] }
  | _ => none }
def FnHasFirstGapAndNormalFormWrongFalsely : Prop := fnHasFirstGapAndNormalFormRow.holds Try.pinned (OpenSpec.ofChange fnHasFirstGapAndNormalFormWrong)

/-- 'zzlaws_internal_frame_b1.FnHasReadsBackHeld': WHATEVER THE INPUT: true; the input reads as it did. -/
def fnHasReadsBackHeldSpec : ChangeSpec := { name := "fnHasReadsBackHeld", fn := fun _ => fun
  | [d1, d2, d3, d4, d5] => { results := [.lit (.bool true)], args := [d1, d2, d3, d4, d5] }
  | _ => none }
def fnHasReadsBackHeldRow : OpenClaim := { program := "qxb6628686a", sum := "89f0f820b695e09bfc7b8b8a317fa192a719966259ce738e6ff073279a2eac22", func := "example.com/quietflood/quietflood/zzlaws_internal_frame_b1.FnHasReadsBackHeld", spec := "fnHasReadsBackHeld", apart := false }
def FnHasReadsBackHeldSaid : Prop := fnHasReadsBackHeldRow.holds Try.pinned (OpenSpec.ofChange fnHasReadsBackHeldSpec)

/-- ITS FALSE NEIGHBOUR: 'it returns false'. Refute it at one input. -/
def fnHasReadsBackHeldWrong : ChangeSpec := { name := "fnHasReadsBackHeld", fn := fun _ => fun
  | [d1, d2, d3, d4, d5] => { results := [.lit (.bool false)], args := [d1, d2, d3, d4, d5] }
  | _ => none }
def FnHasReadsBackHeldWrongFalsely : Prop := fnHasReadsBackHeldRow.holds Try.pinned (OpenSpec.ofChange fnHasReadsBackHeldWrong)

end Rows
end Go.Proofs.Qxb6628686a
