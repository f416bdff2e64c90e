import Derived.Test.Qxb6628735aPlain
import Derived.Deep.RegionWith
namespace Go.Proofs.Qxb6628735a
open Go.ChangeShapes Go.WideShapes Go.ChangeAt Go.RowKit

/-- the contract of ZZhexDigitsText at one string -/
def Gives (x y : ByteArray) : Prop := ∀ wx, Calls Try.prog 7 #[.string x] wx fun e w' => e = .returned (.string y) ∧ Below wx.heap.size wx w'

theorem gives_low (x : ByteArray) (hs : x.size ≤ 1048576) (hx : Hexs x) : Gives x (low x) := fun wx => zzhex_any x wx hs hx

set_option maxHeartbeats 2000000 in
theorem walkB_main (s : ByteArray) (k J : Nat) (R Hd Tl U : ByteArray) (w : World) (hs : s.size ≤ 1048576) (hk : k ≤ s.size) (hJ : J ≤ s.size)
    (hall : ∀ wx, Calls Try.prog 6 #[.string s] wx fun e w' => e = .returned (.bool true) ∧ w' = wx)
    (c1 : Gives s R) (c2 : Gives (s.extract 0 J) Hd) (c3 : Gives (s.extract J s.size) Tl) (c4 : Gives U R) (c5 : Gives R R)
    (hU : ∀ wx, Calls Try.prog 10 #[.string s] wx fun e w' => e = .returned (.string U) ∧ Below wx.heap.size wx w')
    (hR : R.size = s.size + s.size % 2) (hRT : Hd ++ Tl = R) (hno : NoUp R)
    (hcase : ((s.size - k) % 2 = 0 ∧ J = k) ∨ ((s.size - k) % 2 = 1 ∧ 0 < k ∧ J = k - 1) ∨ ((s.size - k) % 2 = 1 ∧ k = 0 ∧ J = 1)) :
    Calls Try.prog 4 #[.string s, .int .i64 k] w fun e w' => e = .returned (.bool true) ∧ Below w.heap.size w w' := by
  have hmx : s.size ≤ maxLen := by unfold maxLen; omega
  have hd : decide (s.size ≤ 1048576) = true := by simpa using hs
  have C1 := hide c1
  have C2 := hide c2
  have C3 := hide c3
  have C4 := hide c4
  have C5 := hide c5
  have HA := hide hall
  have HU := hide hU
  have HN := hide hno
  clear c1 c2 c3 c4 c5 hall hU hno
  have hsz : Hd.size + Tl.size = R.size := by rw [← hRT, ByteArray.size_append]
  have hsz1 : Hd.size ≤ 2000000 := by omega
  have hsz2 : Tl.size ≤ 2000000 := by omega
  have qR : ((R.size : Int) != (s.size : Int) + (s.size : Int) % 2) = false := by simp; omega
  have hR1 : R.size ≤ 2000000 := by omega
  clear hR hsz
  have r : (((((s.size : Int) - (k : Int)) % 2) != 0) = false ∧ J = k) ∨ (((((s.size : Int) - (k : Int)) % 2) != 0) = true ∧ 0 < k ∧ J = k - 1) ∨ (((((s.size : Int) - (k : Int)) % 2) != 0) = true ∧ k = 0 ∧ J = 1) := by
    rcases hcase with ⟨h1, h2⟩ | ⟨h1, h2, h3⟩ | ⟨h1, h2, h3⟩
    · left; refine ⟨?_, h2⟩; simp; omega
    · right; left; refine ⟨?_, h2, h3⟩; simp; omega
    · right; right; refine ⟨?_, h2, h3⟩; simp; omega
  clear hcase
  rcases r with ⟨r1, rfl⟩ | ⟨r1, h2, rfl⟩ | ⟨r1, rfl, rfl⟩
  all_goals
    go_enter Try.func4, Try.ntmps4
    go_wp2_with fail
    refine (bytes2_any s _ _ hmx).mono ?_
    rintro e w1 ⟨rfl, rfl⟩
    rw [hd]
    go_wp2_with fail
    refine (HA.out _).mono ?_
    rintro e w2 ⟨rfl, rfl⟩
    go_wp2_with fail
    refine (C1.out _).mono ?_
    rintro e x1 ⟨rfl, k1⟩
    go_wp2_with fail
    refine (C2.out _).mono ?_
    rintro e x2 ⟨rfl, k2⟩
    replace k2 := k1.trans (k2.mono k1.size)
    clear k1
    go_wp2_with fail
    refine (C3.out _).mono ?_
    rintro e x3 ⟨rfl, k3⟩
    replace k3 := k2.trans (k3.mono k2.size)
    clear k2
    go_wp2_with fail
    refine (HU.out _).mono ?_
    rintro e x4 ⟨rfl, k4⟩
    replace k4 := k3.trans (k4.mono k3.size)
    clear k3
    go_wp2_with fail
    refine (C4.out _).mono ?_
    rintro e x5 ⟨rfl, k5⟩
    replace k5 := k4.trans (k5.mono k4.size)
    clear k4
    go_wp2_with fail
    refine (C5.out _).mono ?_
    rintro e x6 ⟨rfl, k6⟩
    replace k6 := k5.trans (k6.mono k5.size)
    clear k5
    have K6 := hide k6
    clear k6
    go_wp2_with fail
    go_loop [11] (fun v => ∃ i : Nat, i ≤ R.size ∧ v = .int .i64 i) (fun v => R.size - (intOf v).toNat)
    case atStart => exact ⟨0, Nat.zero_le _, rfl⟩
    case round =>
      obtain ⟨i, hi, rfl⟩ := hrel
      by_cases hlt : i < R.size
      · have hn := HN.out i hlt
        rw [← at8_eq R i hlt] at hn
        by_cases h65 : (65 : Int) ≤ (R[i].toNat : Int)
        · have h90 : ¬ (R[i].toNat : Int) ≤ 90 := fun h => hn ⟨h65, h⟩
          clear hn
          go_wp2
          go_round
          case rel => exact ⟨i + 1, by omega, by go_num⟩
          case measure => simp [intOf]; omega
        · clear hn
          go_wp2
          go_round
          case rel => exact ⟨i + 1, by omega, by go_num⟩
          case measure => simp [intOf]; omega
      · go_wp2
        go_ret
        exact ⟨rfl, K6.out⟩
end Go.Proofs.Qxb6628735a
