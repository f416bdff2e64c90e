/-
  No cell of these rows narrows 'for every input' (looked for: loops, veiled, ifaces, maps, wideKeys, modest, calm, conditions, laid).
  DERIVED. THE GIVEN ROWS OF THIS SEAT. 2 by the template 'for every input the law returns true; each argument reads behind the call as it read before'; 0 by the template 'total and deterministic' (their statements: Qxb6628761aTotals.lean).
  GIVEN WITH THE SEED: the statements are not yours to turn. If you find one false, say at which input.
  Laid BY PROGRAM, IN A SANDBOX (cutbox-rows.mjs): the forced cells as the released guide's own fill.sh prints them over the translation adadf1eda5958bf1… (all of the seat's roots in one cut). By AI agents, Wed Nov 11 2026. No macro, syntax, notation, axiom, sorry.
-/
import Derived.Test.Qxb6628761aChecked
import GoSem.Claim
import GoSem.ClaimJoined
import GoSem.ClaimMapViews
import Derived.JoinedTies
import Derived.KernelRfl
namespace Go.Proofs.Qxb6628761a
/- THE CELL 'sum', in the pinned program and in every row, IS THE sha256 OF THE DUMP (.gsa) THAT Qxb6628761aProg.lean LOADS. Nothing in Lean hashes anything: it is a label: what it is worth is what the hold of that sum in a sandbox is worth. -/
noncomputable def Try.pinned : Pinned := { name := "qxb6628761a", sum := "adadf1eda5958bf1a73514975cfa8c687542f24057e8215acca586ff5463348f", checked := Try.checked }
namespace Rows
def none {H : Type} : Left H := { results := [], args := [] }

/-- 'zzlaws_pkg_symbols_b1.FnNumberFirstComeOrder': WHATEVER THE INPUT: true; the input reads as it did. -/
def fnNumberFirstComeOrderSpec : ChangeSpec := { name := "fnNumberFirstComeOrder", fn := fun _ => fun
  | [d] => { results := [.lit (.bool true)], args := [d] }
  | _ => none }
def fnNumberFirstComeOrderRow : OpenClaim := { program := "qxb6628761a", sum := "adadf1eda5958bf1a73514975cfa8c687542f24057e8215acca586ff5463348f", func := "example.com/tuoguan/tuoguan/zzlaws_pkg_symbols_b1.FnNumberFirstComeOrder", spec := "fnNumberFirstComeOrder", plainKeys := false, apart := false }
def FnNumberFirstComeOrderSaid : Prop := fnNumberFirstComeOrderRow.holds Try.pinned (OpenSpec.ofChange fnNumberFirstComeOrderSpec)

/-- ITS FALSE NEIGHBOUR: 'it returns false'. Refute it at one input. -/
def fnNumberFirstComeOrderWrong : ChangeSpec := { name := "fnNumberFirstComeOrder", fn := fun _ => fun
  | [d] => { results := [.lit (.bool false)], args := [d] }
  | _ => none }
def FnNumberFirstComeOrderWrongFalsely : Prop := fnNumberFirstComeOrderRow.holds Try.pinned (OpenSpec.ofChange fnNumberFirstComeOrderWrong)

/-- 'zzlaws_pkg_symbols_b1.FnNumberDistinguishesAndIsStable': WHATEVER THE INPUT: true; the input reads as it did. -/
def fnNumberDistinguishesAndIsStableSpec : ChangeSpec := { name := "fnNumberDistinguishesAndIsStable", fn := fun _ => fun
  | [d1, d2] => { results := [.lit (.bool true)], args := [d1, d2] }
  | _ => none }
def fnNumberDistinguishesAndIsStableRow : OpenClaim := { program := "qxb6628761a", sum := "adadf1eda5958bf1a73514975cfa8c687542f24057e8215acca586ff5463348f", func := "example.com/tuoguan/tuoguan/zzlaws_pkg_symbols_b1.FnNumberDistinguishesAndIsStable", spec := "fnNumberDistinguishesAndIsStable", plainKeys := false, apart := false }
def FnNumberDistinguishesAndIsStableSaid : Prop := fnNumberDistinguishesAndIsStableRow.holds Try.pinned (OpenSpec.ofChange fnNumberDistinguishesAndIsStableSpec)

/-- ITS FALSE NEIGHBOUR: 'it returns false'. Refute it at one input. -/
def fnNumberDistinguishesAndIsStableWrong : ChangeSpec := { name := "fnNumberDistinguishesAndIsStable", fn := fun _ => fun
  | [d1, d2] => { results := [.lit (.bool false)], args := [d1, d2] }
  | _ => none }
def FnNumberDistinguishesAndIsStableWrongFalsely : Prop := fnNumberDistinguishesAndIsStableRow.holds Try.pinned (OpenSpec.ofChange fnNumberDistinguishesAndIsStableWrong)

end Rows
end Go.Proofs.Qxb6628761a
