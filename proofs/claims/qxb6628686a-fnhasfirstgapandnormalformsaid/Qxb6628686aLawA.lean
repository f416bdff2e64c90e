import Derived.Test.Qxb6628686aLawB
import Derived.Deep.RegionWith
namespace Go.Proofs.Qxb6628686a
open Go.ChangeShapes Go.WideShapes Go.ChangeAt Go.RowKit

theorem bit_shr (H k : Nat) (hH : H < 18446744073709551616) : (bits .and .u64 ((H : Int) / 2 ^ k) 1 == 1) = H.testBit k := by
  have e1 : ((H : Int) / 2 ^ k) = ((H / 2 ^ k : Nat) : Int) := by simp
  have e2 := u64_and_nat (H / 2 ^ k) 1 (Nat.lt_of_le_of_lt (Nat.div_le_self _ _) hH) (by decide)
  rw [e1, show (1 : Int) = ((1 : Nat) : Int) from rfl, e2, nat_mask1, Nat.testBit_eq_decide_div_mod_eq]
  have h2 : H / 2 ^ k % 2 = 0 ∨ H / 2 ^ k % 2 = 1 := by omega
  rcases h2 with h2 | h2 <;> simp [h2]

/-- WHAT THE WALK IS TOLD behind the loop: k trailing ones; R: the rest -/
theorem plainA (fr sq : Int) (H k R : Nat) (hH : H < 18446744073709551616) (h1 : ∀ j, j < k → H.testBit j = true) (h2 : H.testBit k = false) (hR : ∀ j, R.testBit j = H.testBit (k + j)) (hRl : R < 18446744073709551616) :
    hasB fr H (fr + k) = true ∧ hasB fr H (fr + k + 1) = false ∧ hasB (fr + k) R (fr + k + 1) = false ∧ hasB fr H sq = hasB (fr + k) R sq := by
  refine ⟨?_, ?_, ?_, ?_⟩
  · rw [hasB_eq _ _ _ hH]
    by_cases hk : k = 0
    · subst hk; simp
    · rw [h1 _ (by omega)]; simp
  · rw [hasB_eq _ _ _ hH, show (fr + k + 1 - fr - 1).toNat = k by omega, h2]
    simp; omega
  · rw [hasB_eq _ _ _ hRl, show (fr + k + 1 - (fr + k) - 1).toNat = 0 by omega, hR, Nat.add_zero, h2]
    simp; omega
  · rw [hasB_eq _ _ _ hH, hasB_eq _ _ _ hRl, hR]
    by_cases ha : sq ≤ fr
    · have hb : sq ≤ fr + k := by omega
      simp [ha, hb]
    · by_cases hb : sq ≤ fr + k
      · rw [h1 _ (by omega)]; simp [hb]
      · rw [show k + (sq - (fr + k) - 1).toNat = (sq - fr - 1).toNat by omega]; simp [ha, hb]

theorem plainA_lt (fr sq : Int) (H k : Nat) (hH : H < 18446744073709551616) (h1 : ∀ j, j < k → H.testBit j = true) (h2 : H.testBit k = false) :
    hasB fr H (fr + k) = true ∧ hasB fr H (fr + k + 1) = false ∧ hasB (fr + k) ((H : Int) / 2 ^ k) (fr + k + 1) = false ∧ hasB fr H sq = hasB (fr + k) ((H : Int) / 2 ^ k) sq := by
  have e1 : ((H : Int) / 2 ^ k) = ((H / 2 ^ k : Nat) : Int) := by simp
  rw [e1]
  exact plainA fr sq H k (H / 2 ^ k) hH h1 h2 (fun j => by rw [Nat.testBit_div_two_pow, Nat.add_comm]) (Nat.lt_of_le_of_lt (Nat.div_le_self _ _) hH)

theorem no_bit (H j : Nat) (hH : H < 18446744073709551616) (hj : 64 ≤ j) : H.testBit j = false :=
  Nat.testBit_lt_two_pow (Nat.lt_of_lt_of_le hH (by rw [show (18446744073709551616 : Nat) = 2 ^ 64 by decide]; exact Nat.pow_le_pow_right (by decide) hj))

theorem plainA_all (fr sq : Int) (H : Nat) (hH : H < 18446744073709551616) (h1 : ∀ j, j < 64 → H.testBit j = true) :
    hasB fr H (fr + 64) = true ∧ hasB fr H (fr + 64 + 1) = false ∧ hasB (fr + 64) 0 (fr + 64 + 1) = false ∧ hasB fr H sq = hasB (fr + 64) 0 sq := by
  have e := plainA fr sq H 64 0 hH h1 (no_bit H 64 hH (Nat.le_refl _)) (fun j => by rw [Nat.zero_testBit, no_bit H _ hH (by omega)]) (by decide)
  exact e

theorem two_cells {w wr : World} {so ru fr ke he fr2 he2 : Int} (h : Below (w.heap.size + 2) ((w.alloc (entryObj so ru fr ke he)).alloc (entryObj so ru fr2 ke he2)) wr) :
    (wr.cell? ⟨w.heap.size, 0, none⟩ = some (.int .u16 so) ∧ wr.cell? ⟨w.heap.size, 1, none⟩ = some (.int .u32 ru) ∧ wr.cell? ⟨w.heap.size, 2, none⟩ = some (.int .u32 fr) ∧
    wr.cell? ⟨w.heap.size, 3, none⟩ = some (.int .u32 ke) ∧ wr.cell? ⟨w.heap.size, 4, none⟩ = some (.int .u64 he)) ∧
    (wr.cell? ⟨w.heap.size + 1, 0, none⟩ = some (.int .u16 so) ∧ wr.cell? ⟨w.heap.size + 1, 1, none⟩ = some (.int .u32 ru) ∧ wr.cell? ⟨w.heap.size + 1, 2, none⟩ = some (.int .u32 fr2) ∧
    wr.cell? ⟨w.heap.size + 1, 3, none⟩ = some (.int .u32 ke) ∧ wr.cell? ⟨w.heap.size + 1, 4, none⟩ = some (.int .u64 he2)) := by
  have hz : (w.alloc (entryObj so ru fr ke he)).heap.size = w.heap.size + 1 := by simp
  have k1 : Below (w.heap.size + 1) (w.alloc (entryObj so ru fr ke he)) wr := by
    refine Below.trans ?_ (h.mono (by omega))
    exact (Below.refl _ _).alloc (by omega) _
  have k2 : Below ((w.alloc (entryObj so ru fr ke he)).heap.size + 1) ((w.alloc (entryObj so ru fr ke he)).alloc (entryObj so ru fr2 ke he2)) wr := by rw [hz]; exact h
  have c2 := entry_cells k2
  rw [hz] at c2
  exact ⟨entry_cells k1, c2⟩

/-- two blocks laid, then whatever lies above them -/
theorem two_below {w wr : World} {o1 o2 : Obj} (h : Below (w.heap.size + 2) ((w.alloc o1).alloc o2) wr) : Below w.heap.size w wr := by
  refine Below.trans ?_ (h.mono (by omega))
  exact ((Below.refl _ _).alloc (Nat.le_refl _) _).alloc (by simp) _

theorem two_step {w wr wx : World} {o1 o2 : Obj} (h : Below (w.heap.size + 2) ((w.alloc o1).alloc o2) wr) (k : Below wr.heap.size wr wx) : Below (w.heap.size + 2) ((w.alloc o1).alloc o2) wx :=
  h.trans (k.mono (by have := h.size; simp at this; omega))

/-- the world is that behind the two entries' laying, but for blocks above them -/
def At2 (w : World) (so ru fr ke he fr2 he2 : Int) (wx : World) : Prop := Below (w.heap.size + 2) ((w.alloc (entryObj so ru fr ke he)).alloc (entryObj so ru fr2 ke he2)) wx

theorem has_b {w : World} {fr1 fr2 he1 he2 : Int} (so ru fr ke he sq : Int) (b : Bool) (h0 : 0 ≤ fr) (h1 : fr ≤ 4294967295) (h2 : 0 ≤ sq) (h3 : sq ≤ 4294967295) (hb : hasB fr he sq = b) :
    ∀ wx, At2 w so ru fr1 ke he1 fr2 he2 wx → Calls Try.prog 5 #[.agg #[.int .u16 so, .int .u32 ru, .int .u32 fr, .int .u32 ke, .int .u64 he], .int .u32 sq] wx fun e w' => e = .returned (.bool b) ∧ At2 w so ru fr1 ke he1 fr2 he2 w' ∧
      (w'.cell? ⟨w.heap.size, 0, none⟩ = some (.int .u16 so) ∧ w'.cell? ⟨w.heap.size, 1, none⟩ = some (.int .u32 ru) ∧ w'.cell? ⟨w.heap.size, 2, none⟩ = some (.int .u32 fr1) ∧
      w'.cell? ⟨w.heap.size, 3, none⟩ = some (.int .u32 ke) ∧ w'.cell? ⟨w.heap.size, 4, none⟩ = some (.int .u64 he1)) ∧
      (w'.cell? ⟨w.heap.size + 1, 0, none⟩ = some (.int .u16 so) ∧ w'.cell? ⟨w.heap.size + 1, 1, none⟩ = some (.int .u32 ru) ∧ w'.cell? ⟨w.heap.size + 1, 2, none⟩ = some (.int .u32 fr2) ∧
      w'.cell? ⟨w.heap.size + 1, 3, none⟩ = some (.int .u32 ke) ∧ w'.cell? ⟨w.heap.size + 1, 4, none⟩ = some (.int .u64 he2)) := fun wx hx => by
  refine (has_any so ru fr ke he sq wx h0 h1 h2 h3).mono ?_
  rintro e w' ⟨rfl, hk⟩
  have g : At2 w so ru fr1 ke he1 fr2 he2 w' := two_step hx hk
  exact ⟨ret_bool hb, g, two_cells g⟩

theorem hide {p : Prop} (h : p) : Hid p := h

set_option maxHeartbeats 2000000 in
theorem walkA_in (so ru fr ke : Int) (H : Nat) (sq : Int) (w : World) (h0 : 0 ≤ fr) (h1 : fr ≤ 4294967230) (hH : H < 18446744073709551616) (h2 : 0 ≤ sq) (h3 : sq ≤ 4294967295) :
    Calls Try.prog 3 #[.int .u16 so, .int .u32 ru, .int .u32 fr, .int .u32 ke, .int .u64 H, .int .u32 sq] w fun e w' => e = .returned (.bool true) ∧ Below w.heap.size w w' := by
  have HH : Hid (H < 18446744073709551616) := hH
  clear hH
  go_enter Try.func3, Try.ntmps3
  go_wp2
  go_loop [13] (fun v => ∃ k : Nat, k ≤ 64 ∧ v = .int .u32 k ∧ Hid (∀ j, j < k → H.testBit j = true)) (fun v => 64 - (intOf v).toNat)
  case atStart => exact ⟨0, Nat.zero_le _, rfl, fun j hj => by omega⟩
  case round =>
    obtain ⟨k, hk, rfl, hb⟩ := hrel
    by_cases hlt : k < 64
    · have hbit := bit_shr H k HH.out
      cases hb2 : H.testBit k with
      | true =>
        rw [hb2] at hbit
        have HB : Hid (H.testBit k = true) := hb2
        clear hb2
        go_wp2
        go_round
        case rel =>
          refine ⟨k + 1, by omega, by go_num, fun j hj => ?_⟩
          by_cases hjk : j = k
          · rw [hjk]; exact HB.out
          · exact hb.out j (by omega)
        case measure => simp [intOf]; omega
      | false =>
        rw [hb2] at hbit
        obtain ⟨q1, q2, q3, q4⟩ := plainA_lt fr sq H k HH.out hb.out hb2
        generalize hbb : hasB fr H sq = b at q4
        have CE1 := has_b (w := w) (fr1 := fr) (fr2 := fr + (k : Int)) (he1 := H) (he2 := (H : Int) / 2 ^ k) so ru fr ke H (fr + (k : Int)) true h0 (by omega) (by omega) (by omega) q1
        have CE2 := has_b (w := w) (fr1 := fr) (fr2 := fr + (k : Int)) (he1 := H) (he2 := (H : Int) / 2 ^ k) so ru fr ke H (fr + (k : Int) + 1) false h0 (by omega) (by omega) (by omega) q2
        have CN2 := has_b (w := w) (fr1 := fr) (fr2 := fr + (k : Int)) (he1 := H) (he2 := (H : Int) / 2 ^ k) so ru (fr + (k : Int)) ke ((H : Int) / 2 ^ k) (fr + (k : Int) + 1) false (by omega) (by omega) (by omega) (by omega) q3
        have CE := has_b (w := w) (fr1 := fr) (fr2 := fr + (k : Int)) (he1 := H) (he2 := (H : Int) / 2 ^ k) so ru fr ke H sq b h0 (by omega) h2 h3 hbb
        have CN := has_b (w := w) (fr1 := fr) (fr2 := fr + (k : Int)) (he1 := H) (he2 := (H : Int) / 2 ^ k) so ru (fr + (k : Int)) ke ((H : Int) / 2 ^ k) sq b (by omega) (by omega) h2 h3 q4.symm
        replace CE1 := hide CE1
        replace CE2 := hide CE2
        replace CN2 := hide CN2
        replace CE := hide CE
        replace CN := hide CN
        clear hb2 hb hbb q1 q2 q3 q4
        go_wp2_with fail
        refine (CE1.out _ (Below.refl _ _)).mono ?_
        rintro e w1 ⟨rfl, g1, ⟨c0, c1, c2, c3, c4⟩, d0, d1, d2, d3, d4⟩
        go_wp2_with fail
        refine (CE2.out _ g1).mono ?_
        clear c0 c1 c2 c3 c4 d0 d1 d2 d3 d4
        rintro e w2 ⟨rfl, g2, ⟨c0, c1, c2, c3, c4⟩, d0, d1, d2, d3, d4⟩
        go_wp2_with fail
        refine (CN2.out _ g2).mono ?_
        clear c0 c1 c2 c3 c4 d0 d1 d2 d3 d4
        rintro e w3 ⟨rfl, g3, ⟨c0, c1, c2, c3, c4⟩, d0, d1, d2, d3, d4⟩
        have g4 : At2 w so ru fr ke H (fr + (k : Int)) ((H : Int) / 2 ^ k) w3.drew := g3.drew
        clear g1 g2
        go_wp2_with fail
        go_region_with (first
          | (go_at_call_of 5 (Value.int IntKind.u32 (fr + (k : Int))); refine (CN.out _ ?_).mono ?_; assumption; rintro e w5 ⟨rfl, g5, ⟨x0, x1, x2, x3, x4⟩, y0, y1, y2, y3, y4⟩)
          | (go_at_call_of 5 (Value.int IntKind.u32 fr); refine (CE.out _ ?_).mono ?_; assumption; rintro e w5 ⟨rfl, g5, ⟨x0, x1, x2, x3, x4⟩, y0, y1, y2, y3, y4⟩))
        all_goals
          go_wp2
          go_ret
          exact ⟨ret_bool (by simp), two_below g5⟩
    · have hk2 : k = 64 := by omega
      subst hk2
      obtain ⟨q1, q2, q3, q4⟩ := plainA_all fr sq H HH.out hb.out
      generalize hbb : hasB fr H sq = b at q4
      have CE1 := has_b (w := w) (fr1 := fr) (fr2 := fr + 64) (he1 := H) (he2 := 0) so ru fr ke H (fr + 64) true h0 (by omega) (by omega) (by omega) q1
      have CE2 := has_b (w := w) (fr1 := fr) (fr2 := fr + 64) (he1 := H) (he2 := 0) so ru fr ke H (fr + 64 + 1) false h0 (by omega) (by omega) (by omega) q2
      have CN2 := has_b (w := w) (fr1 := fr) (fr2 := fr + 64) (he1 := H) (he2 := 0) so ru (fr + 64) ke (0) (fr + 64 + 1) false (by omega) (by omega) (by omega) (by omega) q3
      have CE := has_b (w := w) (fr1 := fr) (fr2 := fr + 64) (he1 := H) (he2 := 0) so ru fr ke H sq b h0 (by omega) h2 h3 hbb
      have CN := has_b (w := w) (fr1 := fr) (fr2 := fr + 64) (he1 := H) (he2 := 0) so ru (fr + 64) ke (0) sq b (by omega) (by omega) h2 h3 q4.symm
      replace CE1 := hide CE1
      replace CE2 := hide CE2
      replace CN2 := hide CN2
      replace CE := hide CE
      replace CN := hide CN
      clear hb hbb q1 q2 q3 q4
      go_wp2_with fail
      refine (CE1.out _ (Below.refl _ _)).mono ?_
      rintro e w1 ⟨rfl, g1, ⟨c0, c1, c2, c3, c4⟩, d0, d1, d2, d3, d4⟩
      go_wp2_with fail
      refine (CE2.out _ g1).mono ?_
      clear c0 c1 c2 c3 c4 d0 d1 d2 d3 d4
      rintro e w2 ⟨rfl, g2, ⟨c0, c1, c2, c3, c4⟩, d0, d1, d2, d3, d4⟩
      go_wp2_with fail
      refine (CN2.out _ g2).mono ?_
      clear c0 c1 c2 c3 c4 d0 d1 d2 d3 d4
      rintro e w3 ⟨rfl, g3, ⟨c0, c1, c2, c3, c4⟩, d0, d1, d2, d3, d4⟩
      have g4 : At2 w so ru fr ke H (fr + 64) (0) w3.drew := g3.drew
      clear g1 g2
      go_wp2_with fail
      go_region_with (first
        | (go_at_call_of 5 (Value.int IntKind.u64 0); refine (CN.out _ ?_).mono ?_; assumption; rintro e w5 ⟨rfl, g5, ⟨x0, x1, x2, x3, x4⟩, y0, y1, y2, y3, y4⟩)
        | (go_at_call_of 5 (Value.int IntKind.u32 fr); refine (CE.out _ ?_).mono ?_; assumption; rintro e w5 ⟨rfl, g5, ⟨x0, x1, x2, x3, x4⟩, y0, y1, y2, y3, y4⟩))
      all_goals
        go_wp2
        go_ret
        exact ⟨ret_bool (by simp), two_below g5⟩

set_option maxHeartbeats 400000 in
theorem walkA_out (so ru fr ke he sq : Int) (w : World) (h1 : 4294967230 < fr) :
    Calls Try.prog 3 #[.int .u16 so, .int .u32 ru, .int .u32 fr, .int .u32 ke, .int .u64 he, .int .u32 sq] w fun e w' => e = .returned (.bool true) ∧ Below w.heap.size w w' := by
  go_enter Try.func3, Try.ntmps3
  go_wp2
  go_ret
  exact ⟨rfl, Below.refl _ _⟩
end Go.Proofs.Qxb6628686a
