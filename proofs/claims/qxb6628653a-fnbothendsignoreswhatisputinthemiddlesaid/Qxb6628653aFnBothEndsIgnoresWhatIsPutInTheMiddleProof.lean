import Derived.Test.Qxb6628653aLawB
import Derived.Test.Qxb6628653aPlainB
import Derived.WalkKit
import Derived.ProofKit
import Derived.OpenShut
import Derived.ShutString
namespace Go.Proofs.Qxb6628653a.fnBothEndsIgnoresWhatIsPutInTheMiddle
open Go.ChangeShapes Go.WideShapes Go.ChangeAt Go.RowKit
open Go.ChangeMaps (open_string shut_string)
set_option linter.unusedVariables false      -- a walk need not use every 'w<i>' (that an integer argument fits its kind)

theorem own : ownKnob Try.prog.godebug = none := by kernel_rfl

/-! ### THE WALK: the Go text returns true; nothing that was there has turned -/
set_option maxHeartbeats 400000 in
theorem walk (a0 : ByteArray) (a1 : Int) (a2 : ByteArray) (w0 : a0.size ≤ maxLen) (w2 : a2.size ≤ maxLen) (w : World) :
    Calls Try.prog 4 #[.string a0, .int .i64 a1, .string a2] w fun e w' => e = .returned (.bool true) ∧ Below w.heap.size w w' := by
  by_cases h1 : a0.size + a2.size ≤ 1048576
  · by_cases h2 : a0.size ≤ 200
    · have hb : be a0 = a0 := by simp [be, h2]
      have hd : decide (a0.size + a2.size ≤ 1048576) = true := by simpa using h1
      have hx : a2.size ≤ 1048576 := by omega
      go_enter Try.func4, Try.ntmps4
      go_wp2_with fail
      refine (bytes2_any a0 _ a2 _ w0 w2).mono ?_
      rintro e w1 ⟨rfl, rfl⟩
      rw [hd]
      go_wp2_with fail
      refine (be_any _ _ w0).mono ?_
      rintro e w2 ⟨rfl, rfl⟩
      rw [hb]
      clear hb
      go_wp2
      go_ret
      exact ⟨rfl, Below.refl _ _⟩
    · obtain ⟨h, t, s1, s2, s3, s4, s5, s6⟩ := be_shape a0 (by omega)
      have hsh : ∀ wx, Calls Try.prog 9 #[.string (be a0), .string a0] wx fun e w' => e = .returned (.bool true) ∧ Below wx.heap.size wx w' := fun wx => shape_any (be a0) a0 h t wx (by omega) (by omega) s1 s2 s3 s4 s5 s6
      by_cases h3 : a1 < 101
      · exact walkB_long a0 a1 a2 101 (be a0) w (by omega) h1 (by omega) (by omega) rfl (be_mid a0 a2 101 (by omega) (by omega) (by omega)) hsh (.inl ⟨h3, rfl⟩)
      · by_cases h4 : (a0.size : Int) - 100 < a1
        · exact walkB_long a0 a1 a2 101 (be a0) w (by omega) h1 (by omega) (by omega) rfl (be_mid a0 a2 101 (by omega) (by omega) (by omega)) hsh (.inr (.inl ⟨by omega, h4, rfl⟩))
        · obtain ⟨K, hK⟩ := Int.eq_ofNat_of_zero_le (show 0 ≤ a1 by omega)
          exact walkB_long a0 a1 a2 K (be a0) w (by omega) h1 (by omega) (by omega) rfl (be_mid a0 a2 K (by omega) (by omega) (by omega)) hsh (.inr (.inr ⟨by omega, by omega, hK⟩))
  · have hd : decide (a0.size + a2.size ≤ 1048576) = false := by simpa using h1
    go_enter Try.func4, Try.ntmps4
    go_wp2_with fail
    refine (bytes2_any a0 _ a2 _ w0 w2).mono ?_
    rintro e w1 ⟨rfl, rfl⟩
    rw [hd]
    go_wp2
    go_ret
    exact ⟨rfl, Below.refl _ _⟩

/-! ### THE ROW's STEP: WRITTEN OUT -/
set_option maxRecDepth 100000 in
theorem lifted (os : Os) (started : os.Started) (H : Type) (enc : TypeId × Value → H) :
    ReturnsInHanded {} Try.checked os 4 .any (Rows.fnBothEndsIgnoresWhatIsPutInTheMiddleSpec.pre6 enc Try.prog Try.f4 Rows.fnBothEndsIgnoresWhatIsPutInTheMiddleRow.domain false) (Rows.fnBothEndsIgnoresWhatIsPutInTheMiddleSpec.post enc Try.prog Try.f4 false true false false) := by
  refine returnsInHanded_of_change (C := Try.checked) own started (by kernel_rfl) Try.func4
    (ChangeSpec.witness6 (enc := enc) (C := Try.checked) false ⟨#[], #[.string ByteArray.empty, .int .i64 0, .string ByteArray.empty], []⟩ 8 (by kernel_rfl) (by kernel_rfl) (by kernel_rfl) (by kernel_rfl)) ?_
  intro W base args ds gs before hval0 hW hcnd _
  have hval : ∀ (j : Nat) t v, Try.f4.params[j]? = some t → args[j]? = some v → Value.okWide Try.prog W .any base t v := hval0
  have hW' := hW
  obtain ⟨p, q, hA0, hV, rfl, hfz, hnd⟩ := hW
  have hA : DataW.TrodAll enc Try.prog W 0 (fun _ => true) true Try.f4.params.toList args.toList ds p := hA0
  rw [Try.params4] at hA hval
  obtain ⟨v0, vs0, d0, ds0, p0, q0, hargs, rfl, rfl, h0, r0⟩ := trodAll_cons hA
  obtain ⟨v1, vs1, d1, ds1, p1, q1, rfl, rfl, rfl, h1, r1⟩ := trodAll_cons r0
  obtain ⟨v2, vs2, d2, ds2, p2, q2, rfl, rfl, rfl, h2, r2⟩ := trodAll_cons r1
  obtain ⟨rfl, rfl, rfl⟩ := trodAll_nil r2
  obtain rfl : args = #[v0, v1, v2] := by cases args; simp_all
  obtain ⟨rfl, rfl⟩ := trodVars_none hV
  obtain ⟨a0, rfl, rfl, rfl, w0⟩ := open_string Try.underlying9 (hval 0 9 v0 rfl rfl) h0
  obtain ⟨a1, rfl, rfl, rfl, w1⟩ := open_int Try.underlying3 (hval 1 3 v1 rfl rfl) h1
  obtain ⟨a2, rfl, rfl, rfl, w2⟩ := open_string Try.underlying9 (hval 2 9 v2 rfl rfl) h2
  clear hA0 hval0
  refine (walk a0 a1 a2 w0 w2 W).mono fun e W' ⟨he, bel⟩ => ?_
  subst he
  exact ⟨_, rfl, _, _, _, [], [], [], hW', trodAll_mk1 (shut_bool Try.underlying4 _), (trodAll_cons_mk (shut_string Try.underlying9 w0) (trodAll_cons_mk (shut_int Try.underlying3 w1) (trodAll_cons_mk (shut_string Try.underlying9 w2) trodAll_mk0))), rfl, bel.frame _, fun h => by cases h⟩

theorem over : Rows.fnBothEndsIgnoresWhatIsPutInTheMiddleRow.holds Try.pinned (OpenSpec.ofChange Rows.fnBothEndsIgnoresWhatIsPutInTheMiddleSpec) :=
  OpenClaim.holds_of_wide 4 Try.f4 rfl rfl rfl rfl rfl rfl rfl ⟨rfl, rfl, rfl, rfl, rfl⟩ rfl rfl rfl rfl rfl (by kernel_rfl) Try.func4 (by kernel_rfl)
    (of_decide_eq_true (by kernel_rfl)) (by unfold Func.isWrapper; first | (rw [if_pos (by decide +kernel)]; kernel_rfl) | (rw [if_neg (by decide +kernel)]; exact ⟨rfl, rfl⟩))
    (fun os started H enc _ => lifted os started H enc)

/-- ████ THE STATEMENT ████ -/
theorem proved : Rows.FnBothEndsIgnoresWhatIsPutInTheMiddleSaid :=
  over
#print axioms proved
end Go.Proofs.Qxb6628653a.fnBothEndsIgnoresWhatIsPutInTheMiddle
