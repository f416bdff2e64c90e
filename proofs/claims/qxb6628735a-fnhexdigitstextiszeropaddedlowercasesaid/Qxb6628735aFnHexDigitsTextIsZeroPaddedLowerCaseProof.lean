import Derived.Test.Qxb6628735aPlain
import Derived.WalkKit
import Derived.ProofKit
import Derived.OpenShut
import Derived.ShutString
namespace Go.Proofs.Qxb6628735a.fnHexDigitsTextIsZeroPaddedLowerCase
open Go.ChangeShapes Go.WideShapes Go.ChangeAt Go.RowKit
open Go.ChangeMaps (open_string shut_string)
set_option linter.unusedVariables false      -- a walk need not use every 'w<i>' (that an integer argument fits its kind)

theorem own : ownKnob Try.prog.godebug = none := by kernel_rfl

/-! ### THE WALK: the Go text returns true; nothing that was there has turned -/
set_option maxHeartbeats 400000 in
theorem walk (a0 : ByteArray) (w0 : a0.size ≤ maxLen) (w : World) :
    Calls Try.prog 3 #[.string a0] w fun e w' => e = .returned (.bool true) ∧ Below w.heap.size w w' := by
  by_cases h1 : a0.size ≤ 1048576
  · have hd : decide (a0.size ≤ 1048576) = true := by simpa using h1
    go_enter Try.func3, Try.ntmps3
    go_wp2_with fail
    refine (bytes1_any a0 _ w0).mono ?_
    rintro e w1 ⟨rfl, rfl⟩
    rw [hd]
    go_wp2_with fail
    refine (allHex_any a0 _ w0).mono ?_
    rintro e w2 ⟨b, rfl, hx, _, rfl⟩
    have HX := hide hx
    clear hx
    cases b with
    | false =>
      go_wp2
      go_ret
      exact ⟨rfl, Below.refl _ _⟩
    | true =>
      have HY := hide (HX.out rfl)
      clear HX
      go_wp2_with fail
      refine (zzhex_any a0 _ h1 HY.out).mono ?_
      rintro e w3 ⟨rfl, hb⟩
      have HB := hide hb
      clear hb
      go_wp2_with fail
      refine (canon_any a0 (low a0) _ h1 (low_canon a0 HY.out)).mono ?_
      rintro e w4 ⟨rfl, hb4⟩
      have HB4 := hide (HB.out.trans (hb4.mono HB.out.size))
      clear hb4
      go_wp2
      go_ret
      exact ⟨rfl, HB4.out⟩
  · have hd : decide (a0.size ≤ 1048576) = false := by simpa using h1
    go_enter Try.func3, Try.ntmps3
    go_wp2_with fail
    refine (bytes1_any a0 _ w0).mono ?_
    rintro e w1 ⟨rfl, rfl⟩
    rw [hd]
    go_wp2
    go_ret
    exact ⟨rfl, Below.refl _ _⟩

/-! ### THE ROW's STEP: WRITTEN OUT -/
set_option maxRecDepth 100000 in
theorem lifted (os : Os) (started : os.Started) (H : Type) (enc : TypeId × Value → H) :
    ReturnsInHanded {} Try.checked os 3 .any (Rows.fnHexDigitsTextIsZeroPaddedLowerCaseSpec.pre6 enc Try.prog Try.f3 Rows.fnHexDigitsTextIsZeroPaddedLowerCaseRow.domain false) (Rows.fnHexDigitsTextIsZeroPaddedLowerCaseSpec.post enc Try.prog Try.f3 false true false false) := by
  refine returnsInHanded_of_change (C := Try.checked) own started (by kernel_rfl) Try.func3
    (ChangeSpec.witness6 (enc := enc) (C := Try.checked) false ⟨#[], #[.string ByteArray.empty], []⟩ 8 (by kernel_rfl) (by kernel_rfl) (by kernel_rfl) (by kernel_rfl)) ?_
  intro W base args ds gs before hval0 hW hcnd _
  have hval : ∀ (j : Nat) t v, Try.f3.params[j]? = some t → args[j]? = some v → Value.okWide Try.prog W .any base t v := hval0
  have hW' := hW
  obtain ⟨p, q, hA0, hV, rfl, hfz, hnd⟩ := hW
  have hA : DataW.TrodAll enc Try.prog W 0 (fun _ => true) true Try.f3.params.toList args.toList ds p := hA0
  rw [Try.params3] at hA hval
  obtain ⟨v0, vs0, d0, ds0, p0, q0, hargs, rfl, rfl, h0, r0⟩ := trodAll_cons hA
  obtain ⟨rfl, rfl, rfl⟩ := trodAll_nil r0
  obtain rfl : args = #[v0] := by cases args; simp_all
  obtain ⟨rfl, rfl⟩ := trodVars_none hV
  obtain ⟨a0, rfl, rfl, rfl, w0⟩ := open_string Try.underlying9 (hval 0 9 v0 rfl rfl) h0
  clear hA0 hval0
  refine (walk a0 w0 W).mono fun e W' ⟨he, bel⟩ => ?_
  subst he
  exact ⟨_, rfl, _, _, _, [], [], [], hW', trodAll_mk1 (shut_bool Try.underlying4 _), (trodAll_cons_mk (shut_string Try.underlying9 w0) trodAll_mk0), rfl, bel.frame _, fun h => by cases h⟩

theorem over : Rows.fnHexDigitsTextIsZeroPaddedLowerCaseRow.holds Try.pinned (OpenSpec.ofChange Rows.fnHexDigitsTextIsZeroPaddedLowerCaseSpec) :=
  OpenClaim.holds_of_wide 3 Try.f3 rfl rfl rfl rfl rfl rfl rfl ⟨rfl, rfl, rfl, rfl, rfl⟩ rfl rfl rfl rfl rfl (by kernel_rfl) Try.func3 (by kernel_rfl)
    (of_decide_eq_true (by kernel_rfl)) (by unfold Func.isWrapper; first | (rw [if_pos (by decide +kernel)]; kernel_rfl) | (rw [if_neg (by decide +kernel)]; exact ⟨rfl, rfl⟩))
    (fun os started H enc _ => lifted os started H enc)

/-- ████ THE STATEMENT ████ -/
theorem proved : Rows.FnHexDigitsTextIsZeroPaddedLowerCaseSaid :=
  over
#print axioms proved
end Go.Proofs.Qxb6628735a.fnHexDigitsTextIsZeroPaddedLowerCase
