import Derived.Test.Qxb6628653aRun
import Derived.Deep.RegionWith
namespace Go.Proofs.Qxb6628653a
open Go.ChangeShapes Go.WideShapes Go.ChangeAt Go.RowKit

theorem below_two {w2 w4 w6 : World} (hb3 : Below w2.heap.size w2 w4) (hb5 : Below w4.drew.heap.size w4.drew w6) (n : Nat) : Below w2.heap.size w2 (w6.drewN n) :=
  below_drewN (hb3.drew.trans (hb5.mono hb3.size)) n

set_option maxHeartbeats 1000000 in
theorem walkA_long (m : ByteArray) (k : Int) (K : Nat) (R R1 R2 : ByteArray) (w : World) (hn : 200 < m.size) (hm : m.size ≤ 1048576) (hK1 : 101 ≤ K) (hK2 : K + 100 ≤ m.size)
    (hR : be m = R) (hR1 : be (m.extract 0 K ++ zz 100) = R1) (hR2 : be (zz 101 ++ m.extract K m.size) = R2)
    (hs1 : 103 ≤ R1.size) (hs2 : 103 ≤ R2.size) (hs3 : R1.size ≤ 1000) (hs4 : R2.size ≤ 1000)
    (ht1 : R1.extract (R1.size - 103) R1.size = { data := #[46, 46, 46] } ++ zz 100) (ht2 : R2.extract 0 103 = zz 100 ++ { data := #[46, 46, 46] })
    (ht3 : R1.extract 0 (R1.size - 103) ++ { data := #[46, 46, 46] } ++ R2.extract 103 R2.size = R)
    (hcase : (k < 101 ∧ K = 101) ∨ (101 ≤ k ∧ m.size - 100 < k ∧ K = 101) ∨ (101 ≤ k ∧ k ≤ m.size - 100 ∧ k = K)) :
    Calls Try.prog 3 #[.string m, .int .i64 k] w fun e w' => e = .returned (.bool true) ∧ Below w.heap.size w w' := by
  have hmx : m.size ≤ maxLen := by unfold maxLen; omega
  have c6 : ∀ wx, Calls Try.prog 6 #[.string m] wx fun e w' => e = .returned (.string R) ∧ w' = wx := fun wx => by rw [← hR]; exact be_any m wx hmx
  have c61 : ∀ wx, Calls Try.prog 6 #[.string (m.extract 0 K ++ zz 100)] wx fun e w' => e = .returned (.string R1) ∧ w' = wx := fun wx => by
    rw [← hR1]; exact be_any _ wx (by simp [zz, strOfNums_size]; unfold maxLen; omega)
  have c62 : ∀ wx, Calls Try.prog 6 #[.string (zz 101 ++ m.extract K m.size)] wx fun e w' => e = .returned (.string R2) ∧ w' = wx := fun wx => by
    rw [← hR2]; exact be_any _ wx (by simp [zz, strOfNums_size]; unfold maxLen; omega)
  have C6 : Hid (∀ wx, Calls Try.prog 6 #[.string m] wx fun e w' => e = .returned (.string R) ∧ w' = wx) := c6
  have C61 : Hid (∀ wx, Calls Try.prog 6 #[.string (m.extract 0 K ++ zz 100)] wx fun e w' => e = .returned (.string R1) ∧ w' = wx) := c61
  have C62 : Hid (∀ wx, Calls Try.prog 6 #[.string (zz 101 ++ m.extract K m.size)] wx fun e w' => e = .returned (.string R2) ∧ w' = wx) := c62
  clear c6 c61 c62 hR hR1 hR2
  have hz0 : (zz 100).size ≤ 100 := by simp [zz, strOfNums_size]
  have hz1 : (zz 101).size ≤ 101 := by simp [zz, strOfNums_size]
  have hd : decide (m.size ≤ 1048576) = true := by simpa using hm
  rcases hcase with ⟨h1, rfl⟩ | ⟨h1, h2, rfl⟩ | ⟨h1, h2, rfl⟩
  all_goals
    go_enter Try.func3, Try.ntmps3
    go_wp2_with fail
    refine (bytes1_any m _ _ hmx).mono ?_
    rintro e w1 ⟨rfl, rfl⟩
    rw [hd]
    go_wp2_with fail
    refine (C6.out _).mono ?_
    rintro e w2 ⟨rfl, rfl⟩
    go_wp2_with fail
    refine (run_any 100 _ (by omega)).mono ?_
    rintro e w3 ⟨rfl, hb3⟩
    go_wp2_with fail
    refine (C61.out _).mono ?_
    rintro e w4 ⟨rfl, rfl⟩
    go_wp2_with fail
    go_region_with (first
      | (go_at_call 7; refine (run_any 101 _ (by omega)).mono ?_; rintro e w5 ⟨rfl, hb5⟩)
      | (go_at_call 6; refine (C62.out _).mono ?_; rintro e w6 ⟨rfl, rfl⟩))
    all_goals
      go_wp2
      go_quiet (fail)
      go_wp2
      go_ret
      exact ⟨rfl, below_two hb3 hb5 _⟩
end Go.Proofs.Qxb6628653a
