import Derived.Test.Qxb6628735aLawB
import Derived.WalkKit
import Derived.ProofKit
import Derived.OpenShut
import Derived.ShutString
namespace Go.Proofs.Qxb6628735a.fnHexDigitsTextSplitsAtEvenTailAndFoldsCase
open Go.ChangeShapes Go.WideShapes Go.ChangeAt Go.RowKit
open Go.ChangeMaps (open_string shut_string)
set_option linter.unusedVariables false      -- a walk need not use every 'w<i>' (that an integer argument fits its kind)

theorem own : ownKnob Try.prog.godebug = none := by kernel_rfl

/-! ### THE WALK: the Go text returns true; nothing that was there has turned -/
theorem case_k (n k : Nat) (hk : k ≤ n) : ∃ J, J ≤ n ∧ (n - J) % 2 = 0 ∧ (((n - k) % 2 = 0 ∧ J = k) ∨ ((n - k) % 2 = 1 ∧ 0 < k ∧ J = k - 1) ∨ ((n - k) % 2 = 1 ∧ k = 0 ∧ J = 1)) := by
  by_cases h : (n - k) % 2 = 0
  · exact ⟨k, hk, h, .inl ⟨h, rfl⟩⟩
  · by_cases h0 : 0 < k
    · exact ⟨k - 1, by omega, by omega, .inr (.inl ⟨by omega, h0, rfl⟩)⟩
    · exact ⟨1, by omega, by omega, .inr (.inr ⟨by omega, by omega, rfl⟩)⟩

set_option maxHeartbeats 400000 in
theorem walk (a0 : ByteArray) (a1 : Int) (w0 : a0.size ≤ maxLen) (w : World) :
    Calls Try.prog 4 #[.string a0, .int .i64 a1] w fun e w' => e = .returned (.bool true) ∧ Below w.heap.size w w' := by
  by_cases h1 : a0.size ≤ 1048576
  · have hd : decide (a0.size ≤ 1048576) = true := by simpa using h1
    by_cases h2 : a1 < 0
    · go_enter Try.func4, Try.ntmps4
      go_wp2_with fail
      refine (bytes2_any a0 _ _ w0).mono ?_
      rintro e w1 ⟨rfl, rfl⟩
      rw [hd]
      go_wp2
      go_ret
      exact ⟨rfl, Below.refl _ _⟩
    · by_cases h3 : (a0.size : Int) < a1
      · go_enter Try.func4, Try.ntmps4
        go_wp2_with fail
        refine (bytes2_any a0 _ _ w0).mono ?_
        rintro e w1 ⟨rfl, rfl⟩
        rw [hd]
        go_wp2
        go_ret
        exact ⟨rfl, Below.refl _ _⟩
      · obtain ⟨k, rfl⟩ := Int.eq_ofNat_of_zero_le (show 0 ≤ a1 by omega)
        have hk : k ≤ a0.size := by omega
        by_cases hx : Hexs a0
        · obtain ⟨J, j1, j2, j3⟩ := case_k a0.size k hk
          have hl := low_size a0
          have hall : ∀ wx, Calls Try.prog 6 #[.string a0] wx fun e w' => e = .returned (.bool true) ∧ w' = wx := fun wx => allHex_yes a0 wx w0 hx
          exact walkB_main a0 k J (low a0) (low (a0.extract 0 J)) (low (a0.extract J a0.size)) (up a0) w h1 hk j1 hall
            (gives_low a0 h1 hx) (gives_low _ (by rw [ext_size _ _ _ j1]; omega) (ext_hexs a0 _ _ hx)) (gives_low _ (by rw [ext_size _ _ _ (Nat.le_refl _)]; omega) (ext_hexs a0 _ _ hx))
            (by have := gives_low (up a0) (by rw [up_size]; exact h1) (up_hexs a0 hx); rw [low_up a0 hx] at this; exact this)
            (by have := gives_low (low a0) (by omega) (low_hexs a0 hx); rw [low_low a0 hx] at this; exact this)
            (fun wx => upper_any a0 wx h1) hl (low_split a0 J j2) (low_noup a0 hx) j3
        · have h2' : ¬ (k : Int) < 0 := h2
          go_enter Try.func4, Try.ntmps4
          go_wp2_with fail
          refine (bytes2_any a0 _ _ w0).mono ?_
          rintro e w1 ⟨rfl, rfl⟩
          rw [hd]
          go_wp2_with fail
          refine (allHex_any a0 _ w0).mono ?_
          rintro e w2 ⟨b, rfl, hb, _, rfl⟩
          have hbf : b = false := by
            cases b with
            | false => rfl
            | true => exact absurd (hb rfl) hx
          subst hbf
          clear hb hx
          go_wp2
          go_ret
          exact ⟨rfl, Below.refl _ _⟩
  · have hd : decide (a0.size ≤ 1048576) = false := by simpa using h1
    go_enter Try.func4, Try.ntmps4
    go_wp2_with fail
    refine (bytes2_any a0 _ _ w0).mono ?_
    rintro e w1 ⟨rfl, rfl⟩
    rw [hd]
    go_wp2
    go_ret
    exact ⟨rfl, Below.refl _ _⟩

/-! ### THE ROW's STEP: WRITTEN OUT -/
set_option maxRecDepth 100000 in
theorem lifted (os : Os) (started : os.Started) (H : Type) (enc : TypeId × Value → H) :
    ReturnsInHanded {} Try.checked os 4 .any (Rows.fnHexDigitsTextSplitsAtEvenTailAndFoldsCaseSpec.pre6 enc Try.prog Try.f4 Rows.fnHexDigitsTextSplitsAtEvenTailAndFoldsCaseRow.domain false) (Rows.fnHexDigitsTextSplitsAtEvenTailAndFoldsCaseSpec.post enc Try.prog Try.f4 false true false false) := by
  refine returnsInHanded_of_change (C := Try.checked) own started (by kernel_rfl) Try.func4
    (ChangeSpec.witness6 (enc := enc) (C := Try.checked) false ⟨#[], #[.string ByteArray.empty, .int .i64 0], []⟩ 8 (by kernel_rfl) (by kernel_rfl) (by kernel_rfl) (by kernel_rfl)) ?_
  intro W base args ds gs before hval0 hW hcnd _
  have hval : ∀ (j : Nat) t v, Try.f4.params[j]? = some t → args[j]? = some v → Value.okWide Try.prog W .any base t v := hval0
  have hW' := hW
  obtain ⟨p, q, hA0, hV, rfl, hfz, hnd⟩ := hW
  have hA : DataW.TrodAll enc Try.prog W 0 (fun _ => true) true Try.f4.params.toList args.toList ds p := hA0
  rw [Try.params4] at hA hval
  obtain ⟨v0, vs0, d0, ds0, p0, q0, hargs, rfl, rfl, h0, r0⟩ := trodAll_cons hA
  obtain ⟨v1, vs1, d1, ds1, p1, q1, rfl, rfl, rfl, h1, r1⟩ := trodAll_cons r0
  obtain ⟨rfl, rfl, rfl⟩ := trodAll_nil r1
  obtain rfl : args = #[v0, v1] := by cases args; simp_all
  obtain ⟨rfl, rfl⟩ := trodVars_none hV
  obtain ⟨a0, rfl, rfl, rfl, w0⟩ := open_string Try.underlying9 (hval 0 9 v0 rfl rfl) h0
  obtain ⟨a1, rfl, rfl, rfl, w1⟩ := open_int Try.underlying3 (hval 1 3 v1 rfl rfl) h1
  clear hA0 hval0
  refine (walk a0 a1 w0 W).mono fun e W' ⟨he, bel⟩ => ?_
  subst he
  exact ⟨_, rfl, _, _, _, [], [], [], hW', trodAll_mk1 (shut_bool Try.underlying4 _), (trodAll_cons_mk (shut_string Try.underlying9 w0) (trodAll_cons_mk (shut_int Try.underlying3 w1) trodAll_mk0)), rfl, bel.frame _, fun h => by cases h⟩

theorem over : Rows.fnHexDigitsTextSplitsAtEvenTailAndFoldsCaseRow.holds Try.pinned (OpenSpec.ofChange Rows.fnHexDigitsTextSplitsAtEvenTailAndFoldsCaseSpec) :=
  OpenClaim.holds_of_wide 4 Try.f4 rfl rfl rfl rfl rfl rfl rfl ⟨rfl, rfl, rfl, rfl, rfl⟩ rfl rfl rfl rfl rfl (by kernel_rfl) Try.func4 (by kernel_rfl)
    (of_decide_eq_true (by kernel_rfl)) (by unfold Func.isWrapper; first | (rw [if_pos (by decide +kernel)]; kernel_rfl) | (rw [if_neg (by decide +kernel)]; exact ⟨rfl, rfl⟩))
    (fun os started H enc _ => lifted os started H enc)

/-- ████ THE STATEMENT ████ -/
theorem proved : Rows.FnHexDigitsTextSplitsAtEvenTailAndFoldsCaseSaid :=
  over
#print axioms proved
end Go.Proofs.Qxb6628735a.fnHexDigitsTextSplitsAtEvenTailAndFoldsCase
