import Derived.Test.Qxb6628653aShape
namespace Go.Proofs.Qxb6628653a
open Go.ChangeShapes Go.WideShapes Go.ChangeAt Go.RowKit

set_option maxHeartbeats 1000000 in
theorem walkB_long (m : ByteArray) (k : Int) (x : ByteArray) (K : Nat) (R : ByteArray) (w : World) (hn : 200 < m.size) (hm : m.size + x.size ≤ 1048576) (hK1 : 101 ≤ K) (hK2 : K + 100 ≤ m.size)
    (hR : be m = R) (hR1 : be (m.extract 0 K ++ x ++ m.extract K m.size) = R)
    (hsh : ∀ wx, Calls Try.prog 9 #[.string R, .string m] wx fun e w' => e = .returned (.bool true) ∧ Below wx.heap.size wx w')
    (hcase : (k < 101 ∧ K = 101) ∨ (101 ≤ k ∧ m.size - 100 < k ∧ K = 101) ∨ (101 ≤ k ∧ k ≤ m.size - 100 ∧ k = K)) :
    Calls Try.prog 4 #[.string m, .int .i64 k, .string x] w fun e w' => e = .returned (.bool true) ∧ Below w.heap.size w w' := by
  have hmx : m.size ≤ maxLen := by unfold maxLen; omega
  have hxx : x.size ≤ maxLen := by unfold maxLen; omega
  have c6 : ∀ wx, Calls Try.prog 6 #[.string m] wx fun e w' => e = .returned (.string R) ∧ w' = wx := fun wx => by rw [← hR]; exact be_any m wx hmx
  have c61 : ∀ wx, Calls Try.prog 6 #[.string (m.extract 0 K ++ x ++ m.extract K m.size)] wx fun e w' => e = .returned (.string R) ∧ w' = wx := fun wx => by
    rw [← hR1]; exact be_any _ wx (by simp; unfold maxLen; omega)
  have C6 : Hid (∀ wx, Calls Try.prog 6 #[.string m] wx fun e w' => e = .returned (.string R) ∧ w' = wx) := c6
  have C61 : Hid (∀ wx, Calls Try.prog 6 #[.string (m.extract 0 K ++ x ++ m.extract K m.size)] wx fun e w' => e = .returned (.string R) ∧ w' = wx) := c61
  have C9 : Hid (∀ wx, Calls Try.prog 9 #[.string R, .string m] wx fun e w' => e = .returned (.bool true) ∧ Below wx.heap.size wx w') := hsh
  clear c6 c61 hR hR1 hsh
  have hm1 : m.size ≤ 1048576 := by omega
  have hx1 : x.size ≤ 1048576 := by omega
  have hd : decide (m.size + x.size ≤ 1048576) = true := by simpa using hm
  rcases hcase with ⟨h1, rfl⟩ | ⟨h1, h2, rfl⟩ | ⟨h1, h2, rfl⟩
  all_goals
    go_enter Try.func4, Try.ntmps4
    go_wp2_with fail
    refine (bytes2_any m _ x _ hmx hxx).mono ?_
    rintro e w1 ⟨rfl, rfl⟩
    rw [hd]
    go_wp2_with fail
    refine (C6.out _).mono ?_
    rintro e w2 ⟨rfl, rfl⟩
    go_wp2_with fail
    go_quiet ((go_at_call 6; exact Calls.quiet_of_same (C61.out _)))
    go_wp2_with fail
    refine (C9.out _).mono ?_
    rintro e w3 ⟨rfl, hb⟩
    go_wp2
    go_ret
    exact ⟨rfl, (below_drewN (Below.refl _ _) _).trans hb⟩
end Go.Proofs.Qxb6628653a
