import Derived.Test.Qxb6628653aLawA
import Derived.Test.Qxb6628653aPlain
import Derived.WalkKit
import Derived.ProofKit
import Derived.OpenShut
import Derived.ShutString
namespace Go.Proofs.Qxb6628653a.fnBothEndsHeadAndTailAtAnyCut
open Go.ChangeShapes Go.WideShapes Go.ChangeAt Go.RowKit
open Go.ChangeMaps (open_string shut_string)
set_option linter.unusedVariables false      -- a walk need not use every 'w<i>' (that an integer argument fits its kind)

theorem own : ownKnob Try.prog.godebug = none := by kernel_rfl

/-! ### THE WALK: the Go text returns true; nothing that was there has turned -/
set_option maxHeartbeats 400000 in
theorem walk (a0 : ByteArray) (a1 : Int) (w0 : a0.size ≤ maxLen) (w : World) :
    Calls Try.prog 3 #[.string a0, .int .i64 a1] w fun e w' => e = .returned (.bool true) ∧ Below w.heap.size w w' := by
  by_cases h1 : a0.size ≤ 1048576
  · by_cases h2 : a0.size ≤ 200
    · have hb : be a0 = a0 := by simp [be, h2]
      have hd : decide (a0.size ≤ 1048576) = true := by simpa using h1
      go_enter Try.func3, Try.ntmps3
      go_wp2_with fail
      refine (bytes1_any a0 _ _ w0).mono ?_
      rintro e w1 ⟨rfl, rfl⟩
      rw [hd]
      go_wp2_with fail
      refine (be_any _ _ w0).mono ?_
      rintro e w2 ⟨rfl, rfl⟩
      rw [hb]
      clear hb
      go_wp2
      go_ret
      exact ⟨rfl, Below.refl _ _⟩
    · by_cases h3 : a1 < 101
      · obtain ⟨R1, R2, e1, e2, e3, e4, e5, e6, e7, e8, e9⟩ := lawA a0 101 (by omega) (by omega) (by omega)
        exact walkA_long a0 a1 101 (be a0) R1 R2 w (by omega) h1 (by omega) (by omega) rfl e1 e2 e3 e4 e5 e6 e7 e8 e9 (.inl ⟨h3, rfl⟩)
      · by_cases h4 : (a0.size : Int) - 100 < a1
        · obtain ⟨R1, R2, e1, e2, e3, e4, e5, e6, e7, e8, e9⟩ := lawA a0 101 (by omega) (by omega) (by omega)
          exact walkA_long a0 a1 101 (be a0) R1 R2 w (by omega) h1 (by omega) (by omega) rfl e1 e2 e3 e4 e5 e6 e7 e8 e9 (.inr (.inl ⟨by omega, h4, rfl⟩))
        · obtain ⟨K, hK⟩ := Int.eq_ofNat_of_zero_le (show 0 ≤ a1 by omega)
          obtain ⟨R1, R2, e1, e2, e3, e4, e5, e6, e7, e8, e9⟩ := lawA a0 K (by omega) (by omega) (by omega)
          exact walkA_long a0 a1 K (be a0) R1 R2 w (by omega) h1 (by omega) (by omega) rfl e1 e2 e3 e4 e5 e6 e7 e8 e9 (.inr (.inr ⟨by omega, by omega, hK⟩))
  · have hd : decide (a0.size ≤ 1048576) = false := by simpa using h1
    go_enter Try.func3, Try.ntmps3
    go_wp2_with fail
    refine (bytes1_any a0 _ _ w0).mono ?_
    rintro e w1 ⟨rfl, rfl⟩
    rw [hd]
    go_wp2
    go_ret
    exact ⟨rfl, Below.refl _ _⟩

/-! ### THE ROW's STEP: WRITTEN OUT -/
set_option maxRecDepth 100000 in
theorem lifted (os : Os) (started : os.Started) (H : Type) (enc : TypeId × Value → H) :
    ReturnsInHanded {} Try.checked os 3 .any (Rows.fnBothEndsHeadAndTailAtAnyCutSpec.pre6 enc Try.prog Try.f3 Rows.fnBothEndsHeadAndTailAtAnyCutRow.domain false) (Rows.fnBothEndsHeadAndTailAtAnyCutSpec.post enc Try.prog Try.f3 false true false false) := by
  refine returnsInHanded_of_change (C := Try.checked) own started (by kernel_rfl) Try.func3
    (ChangeSpec.witness6 (enc := enc) (C := Try.checked) false ⟨#[], #[.string ByteArray.empty, .int .i64 0], []⟩ 8 (by kernel_rfl) (by kernel_rfl) (by kernel_rfl) (by kernel_rfl)) ?_
  intro W base args ds gs before hval0 hW hcnd _
  have hval : ∀ (j : Nat) t v, Try.f3.params[j]? = some t → args[j]? = some v → Value.okWide Try.prog W .any base t v := hval0
  have hW' := hW
  obtain ⟨p, q, hA0, hV, rfl, hfz, hnd⟩ := hW
  have hA : DataW.TrodAll enc Try.prog W 0 (fun _ => true) true Try.f3.params.toList args.toList ds p := hA0
  rw [Try.params3] at hA hval
  obtain ⟨v0, vs0, d0, ds0, p0, q0, hargs, rfl, rfl, h0, r0⟩ := trodAll_cons hA
  obtain ⟨v1, vs1, d1, ds1, p1, q1, rfl, rfl, rfl, h1, r1⟩ := trodAll_cons r0
  obtain ⟨rfl, rfl, rfl⟩ := trodAll_nil r1
  obtain rfl : args = #[v0, v1] := by cases args; simp_all
  obtain ⟨rfl, rfl⟩ := trodVars_none hV
  obtain ⟨a0, rfl, rfl, rfl, w0⟩ := open_string Try.underlying9 (hval 0 9 v0 rfl rfl) h0
  obtain ⟨a1, rfl, rfl, rfl, w1⟩ := open_int Try.underlying3 (hval 1 3 v1 rfl rfl) h1
  clear hA0 hval0
  refine (walk a0 a1 w0 W).mono fun e W' ⟨he, bel⟩ => ?_
  subst he
  exact ⟨_, rfl, _, _, _, [], [], [], hW', trodAll_mk1 (shut_bool Try.underlying4 _), (trodAll_cons_mk (shut_string Try.underlying9 w0) (trodAll_cons_mk (shut_int Try.underlying3 w1) trodAll_mk0)), rfl, bel.frame _, fun h => by cases h⟩

theorem over : Rows.fnBothEndsHeadAndTailAtAnyCutRow.holds Try.pinned (OpenSpec.ofChange Rows.fnBothEndsHeadAndTailAtAnyCutSpec) :=
  OpenClaim.holds_of_wide 3 Try.f3 rfl rfl rfl rfl rfl rfl rfl ⟨rfl, rfl, rfl, rfl, rfl⟩ rfl rfl rfl rfl rfl (by kernel_rfl) Try.func3 (by kernel_rfl)
    (of_decide_eq_true (by kernel_rfl)) (by unfold Func.isWrapper; first | (rw [if_pos (by decide +kernel)]; kernel_rfl) | (rw [if_neg (by decide +kernel)]; exact ⟨rfl, rfl⟩))
    (fun os started H enc _ => lifted os started H enc)

/-- ████ THE STATEMENT ████ -/
theorem proved : Rows.FnBothEndsHeadAndTailAtAnyCutSaid :=
  over
#print axioms proved
end Go.Proofs.Qxb6628653a.fnBothEndsHeadAndTailAtAnyCut
