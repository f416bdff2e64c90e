import Derived.Test.Qxb6628686aPlain
namespace Go.Proofs.Qxb6628686a
open Go.ChangeShapes Go.WideShapes Go.ChangeAt Go.RowKit

theorem sh1_wrap (k : Nat) (h : k < 64) : sh1 k = IntKind.u64.wrap (2 ^ k) := by
  unfold sh1
  rw [Int.toNat_natCast, Nat.min_eq_left (by omega), Int.one_mul]

/-- the block that an entry lies in -/
def entryObj (so ru fr ke he : Int) : Obj := .cells #[.int .u16 so, .int .u32 ru, .int .u32 fr, .int .u32 ke, .int .u64 he] 26

theorem entry_cells {w wr : World} {so ru fr ke he : Int} (h : Below (w.heap.size + 1) (w.alloc (entryObj so ru fr ke he)) wr) :
    wr.cell? ⟨w.heap.size, 0, none⟩ = some (.int .u16 so) ∧ wr.cell? ⟨w.heap.size, 1, none⟩ = some (.int .u32 ru) ∧ wr.cell? ⟨w.heap.size, 2, none⟩ = some (.int .u32 fr) ∧
    wr.cell? ⟨w.heap.size, 3, none⟩ = some (.int .u32 ke) ∧ wr.cell? ⟨w.heap.size, 4, none⟩ = some (.int .u64 he) := by
  have hc : ∀ o, wr.cell? ⟨w.heap.size, o, none⟩ = (w.alloc (entryObj so ru fr ke he)).cell? ⟨w.heap.size, o, none⟩ := fun o => h.cell (p := ⟨w.heap.size, o, none⟩) (Nat.lt_succ_self _)
  refine ⟨?_, ?_, ?_, ?_, ?_⟩ <;> (rw [hc]; simp [entryObj])

set_option maxHeartbeats 1000000 in
theorem walkB_in (so ru fr ke : Int) (H : Nat) (w : World) (h0 : 0 ≤ fr) (h1 : fr ≤ 4294967230) (hH : H < 18446744073709551616) :
    Calls Try.prog 4 #[.int .u16 so, .int .u32 ru, .int .u32 fr, .int .u32 ke, .int .u64 H] w fun e w' => e = .returned (.bool true) ∧ Below w.heap.size w w' := by
  have HH : Hid (H < 18446744073709551616) := hH
  clear hH
  go_enter Try.func4, Try.ntmps4
  go_wp2
  go_loopw [12, 13] (fun g v wr => ∃ k : Nat, k ≤ 64 ∧ v = .int .u32 k ∧ g = .int .u64 (got H k) ∧ Hid (Below (w.heap.size + 1) (w.alloc (entryObj so ru fr ke H)) wr)) (fun _ v _ => 64 - (intOf v).toNat)
  case atStart => exact ⟨0, Nat.zero_le _, rfl, by rw [got_zero], Below.refl _ _⟩
  case round =>
    obtain ⟨k, hk, rfl, rfl, hb⟩ := hrel
    obtain ⟨c0, c1, c2, c3, c4⟩ := entry_cells hb.out
    by_cases hlt : k < 64
    · have hbit : hasB fr (H : Int) (fr + 1 + (k : Int)) = H.testBit k := by
        rw [hasB_eq _ _ _ HH.out, show (fr + 1 + (k : Int) - fr - 1).toNat = k by omega]
        simp; intro h; omega
      cases hb2 : H.testBit k with
      | true =>
        rw [hb2] at hbit
        have HG : Hid (bits .or .u64 (got H k) (IntKind.u64.wrap (2 ^ k)) = got H (k + 1)) := by
          have e := got_yes H k hlt hb2
          rw [sh1_wrap k hlt] at e; exact e
        clear hb2
        go_wp2_with (go_at_call 5; refine (has_any so ru fr ke (H : Int) _ _ h0 (by omega) (by omega) (by omega)).mono ?_; rintro e w1 ⟨rfl, hb1⟩)
        go_roundw
        case rel => exact ⟨k + 1, by omega, by go_num, by rw [HG.out], hb.out.trans (hb1.mono (by have := hb.out.size; simpa using this))⟩
        case measure => simp [intOf]; omega
      | false =>
        rw [hb2] at hbit
        have HG : Hid (got H (k + 1) = got H k) := got_no H k hb2
        clear hb2
        go_wp2_with (go_at_call 5; refine (has_any so ru fr ke (H : Int) _ _ h0 (by omega) (by omega) (by omega)).mono ?_; rintro e w1 ⟨rfl, hb1⟩)
        go_roundw
        case rel => exact ⟨k + 1, by omega, by go_num, by rw [HG.out], hb.out.trans (hb1.mono (by have := hb.out.size; simpa using this))⟩
        case measure => simp [intOf]; omega
    · have hk2 : k = 64 := by omega
      subst hk2
      have hg : got H 64 = (H : Int) := got_all H HH.out
      have q1 : hasB fr (H : Int) fr = true := by rw [hasB_eq _ _ _ HH.out]; simp
      have q2 : hasB fr (H : Int) (fr + 65) = false := by
        rw [hasB_eq _ _ _ HH.out, show (fr + 65 - fr - 1).toNat = 64 by omega, Nat.testBit_lt_two_pow (Nat.lt_of_lt_of_le HH.out (by decide))]
        simp; omega
      go_wp2_with fail
      refine (has_any so ru fr ke (H : Int) _ _ h0 (by omega) (by omega) (by omega)).mono ?_
      rintro e w1 ⟨rfl, hb1⟩
      rw [q1]
      have hb3 : Hid (Below (w.heap.size + 1) (w.alloc (entryObj so ru fr ke H)) w1) := hb.out.trans (hb1.mono (by have := hb.out.size; simpa using this))
      clear hb hb1 c0 c1 c2 c3 c4
      obtain ⟨c0, c1, c2, c3, c4⟩ := entry_cells hb3.out
      go_wp2_with fail
      refine (has_any so ru fr ke (H : Int) _ _ h0 (by omega) (by omega) (by omega)).mono ?_
      rintro e w2 ⟨rfl, hb2⟩
      rw [q2]
      have hb4 : Hid (Below (w.heap.size + 1) (w.alloc (entryObj so ru fr ke H)) w2) := hb3.out.trans (hb2.mono (by have := hb3.out.size; simpa using this))
      go_wp2
      go_ret
      exact ⟨rfl, ((Below.refl _ _).alloc (Nat.le_refl _) _).trans (hb4.out.mono (by omega))⟩

set_option maxHeartbeats 400000 in
theorem walkB_out (so ru fr ke he : Int) (w : World) (h1 : 4294967230 < fr) :
    Calls Try.prog 4 #[.int .u16 so, .int .u32 ru, .int .u32 fr, .int .u32 ke, .int .u64 he] w fun e w' => e = .returned (.bool true) ∧ Below w.heap.size w w' := by
  go_enter Try.func4, Try.ntmps4
  go_wp2
  go_ret
  exact ⟨rfl, Below.refl _ _⟩
end Go.Proofs.Qxb6628686a
