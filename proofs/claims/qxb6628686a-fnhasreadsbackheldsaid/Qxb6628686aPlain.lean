import Derived.Test.Qxb6628686aWalks
namespace Go.Proofs.Qxb6628686a

theorem sh1_lt (c : Nat) (h : c < 64) : sh1 c = ((2 ^ c : Nat) : Int) := by
  unfold sh1
  rw [IntKind.wrap_u64]
  have e := shl_pow_var 64 0 (Nat.zero_le _) (c : Int) (by omega)
  rw [if_neg (by omega)] at e
  simp only [Int.pow_zero, Int.toNat_natCast, Int.one_mul] at e
  simp only [Int.toNat_natCast, Int.one_mul]
  rw [show (18446744073709551616 : Int) = 2 ^ 64 by decide, e]
  simp

theorem sh1_ge (c : Nat) (h : 64 ≤ c) : sh1 c = 0 := by
  unfold sh1
  rw [Int.toNat_natCast, Nat.min_eq_right h]
  decide

theorem and_zero (H : Nat) (hH : H < 18446744073709551616) : bits .and .u64 (H : Int) 0 = 0 := by
  have e := u64_and_nat H 0 hH (by decide)
  simpa using e

theorem bit_ne (H c : Nat) : (((H &&& 2 ^ c : Nat) : Int) != 0) = H.testBit c := by
  rw [nat_bit, Nat.testBit_eq_decide_div_mod_eq]
  have hp : 0 < 2 ^ c := Nat.two_pow_pos _
  have h2 : H / 2 ^ c % 2 = 0 ∨ H / 2 ^ c % 2 = 1 := by omega
  rcases h2 with h2 | h2
  · rw [h2]; simp
  · rw [h2, Nat.one_mul]
    have : (((2 ^ c : Nat) : Int) != 0) = true := by rw [bne_iff_ne]; omega
    rw [this]; rfl

theorem hasB_eq (fr sq : Int) (H : Nat) (hH : H < 18446744073709551616) : hasB fr H sq = (decide (sq ≤ fr) || H.testBit (sq - fr - 1).toNat) := by
  unfold hasB
  split
  · rename_i h; simp [h]
  · rename_i h
    obtain ⟨c, hc⟩ := Int.eq_ofNat_of_zero_le (show 0 ≤ sq - fr - 1 by omega)
    rw [hc, Int.toNat_natCast]
    simp only [h, decide_false, Bool.false_or]
    by_cases h64 : c < 64
    · rw [sh1_lt c h64, u64_and_nat _ _ hH (Nat.lt_of_lt_of_le (Nat.pow_lt_pow_right (by decide) h64) (by decide)), bit_ne]
    · rw [sh1_ge c (by omega), and_zero H hH, Nat.testBit_lt_two_pow (Nat.lt_of_lt_of_le hH (by
        rw [show (18446744073709551616 : Nat) = 2 ^ 64 by decide]; exact Nat.pow_le_pow_right (by decide) (by omega)))]
      rfl

/-- what has been gathered behind k rounds -/
def got (H k : Nat) : Int := ((H % 2 ^ k : Nat) : Int)

theorem got_zero (H : Nat) : got H 0 = 0 := by simp [got, Nat.mod_one]
theorem got_all (H : Nat) (hH : H < 18446744073709551616) : got H 64 = (H : Int) := by
  unfold got; rw [Nat.mod_eq_of_lt]; exact Nat.lt_of_lt_of_le hH (by decide)

theorem got_no (H k : Nat) (h : H.testBit k = false) : got H (k + 1) = got H k := by
  unfold got
  rw [Nat.testBit_eq_decide_div_mod_eq] at h
  have h2 : H / 2 ^ k % 2 = 0 := by simp at h; omega
  rw [Nat.mod_pow_succ, h2]; simp

theorem got_yes (H k : Nat) (hk : k < 64) (h : H.testBit k = true) : bits .or .u64 (got H k) (sh1 k) = got H (k + 1) := by
  have hp : 0 < 2 ^ k := Nat.two_pow_pos _
  have hlt : H % 2 ^ k < 2 ^ k := Nat.mod_lt _ hp
  have h64 : 2 ^ k < 18446744073709551616 := Nat.lt_of_lt_of_le (Nat.pow_lt_pow_right (by decide) hk) (by decide)
  rw [Nat.testBit_eq_decide_div_mod_eq] at h
  have h2 : H / 2 ^ k % 2 = 1 := by simpa using h
  unfold got
  rw [sh1_lt k hk, u64_or_nat _ _ (by omega) h64, Nat.mod_pow_succ, h2, Nat.or_comm, nat_join k _ _ (by simp) hlt]
  congr 1; omega

theorem got_bd (H k : Nat) (hk : k ≤ 64) : 0 ≤ got H k ∧ got H k ≤ 18446744073709551615 := by
  unfold got
  have hp : 0 < 2 ^ k := Nat.two_pow_pos _
  have hlt : H % 2 ^ k < 2 ^ k := Nat.mod_lt _ hp
  have : 2 ^ k ≤ 2 ^ 64 := Nat.pow_le_pow_right (by decide) hk
  omega
end Go.Proofs.Qxb6628686a
