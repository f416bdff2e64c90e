import Derived.Test.Qxb6628653aWalks
namespace Go.Proofs.Qxb6628653a
open Go.ChangeShapes Go.WideShapes Go.ChangeAt Go.RowKit

set_option maxHeartbeats 400000 in
theorem bytes2_any (s : ByteArray) (k : Int) (x : ByteArray) (w : World) (hs : s.size ≤ maxLen) (hx : x.size ≤ maxLen) : Calls Try.prog 8 #[.string s, .int .i64 k, .string x] w fun e w' => e = .returned (.bool (decide (s.size + x.size ≤ 1048576))) ∧ w' = w := by
  unfold maxLen at hs hx
  by_cases h : s.size ≤ 1048576
  · by_cases h1 : x.size ≤ 1048576
    · by_cases h2 : s.size + x.size ≤ 1048576
      · go_enter Try.func8, Try.ntmps8
        go_wp2
        go_ret
        exact ⟨by simp [h2], rfl⟩
      · go_enter Try.func8, Try.ntmps8
        go_wp2
        go_ret
        exact ⟨by simp [h2], rfl⟩
    · have h2 : ¬ s.size + x.size ≤ 1048576 := by omega
      go_enter Try.func8, Try.ntmps8
      go_wp2
      go_ret
      exact ⟨by simp [h2], rfl⟩
  · have h2 : ¬ s.size + x.size ≤ 1048576 := by omega
    go_enter Try.func8, Try.ntmps8
    go_wp2
    go_ret
    exact ⟨by simp [h2], rfl⟩

set_option maxHeartbeats 1000000 in
theorem shape_any (r m : ByteArray) (h t : Nat) (w : World) (hm : 200 < m.size) (hmx : m.size ≤ 1048576) (hh : h ≤ 100) (ht : t ≤ 100) (hr : r.size = h + 3 + t)
    (e1 : (r.extract 0 h).toList = (m.extract 0 h).toList) (e2 : (r.extract h (h + 3)).toList = [46, 46, 46]) (e3 : (r.extract (h + 3) r.size).toList = (m.extract (m.size - t) m.size).toList) :
    Calls Try.prog 9 #[.string r, .string m] w fun e w' => e = .returned (.bool true) ∧ Below w.heap.size w w' := by
  have HR : Hid (r.size = h + 3 + t) := hr
  have hr1 : r.size ≤ h + 3 + t := by omega
  have hr2 : h + 3 + t ≤ r.size := by omega
  have E1 : Hid ((r.extract 0 h).toList = (m.extract 0 h).toList) := e1
  have E2 : Hid ((r.extract h (h + 3)).toList = [46, 46, 46]) := e2
  have E3 : Hid ((r.extract (h + 3) r.size).toList = (m.extract (m.size - t) m.size).toList) := e3
  clear hr e1 e2 e3
  go_enter Try.func9, Try.ntmps9
  go_wp2
  go_loopw [5] (fun v wr => ∃ i : Nat, i ≤ h ∧ v = .int .i64 i ∧ Hid (Below w.heap.size w wr)) (fun v _ => 101 - (intOf v).toNat)
  case atStart => exact ⟨0, Nat.zero_le _, rfl, Below.refl _ _⟩
  case round =>
    obtain ⟨i, hi, rfl, hb⟩ := hrel
    by_cases hih : i = h
    · have HI : Hid (i = h) := hih
      have q1 : ((r.extract 0 i).toList == (m.extract 0 i).toList) = true := by rw [hih, E1.out]; simp
      have q2 : ((r.extract i (i + 3)).toList == [46, 46, 46]) = true := by rw [hih, E2.out]; rfl
      have q3 : ((r.extract (i + 3) r.size).toList == (m.extract (m.size - (r.size - i - 3)) m.size).toList) = true := by
        rw [hih, E3.out, show r.size - h - 3 = t by omega]; simp
      have hi1 : h ≤ i := by omega
      clear hih
      go_wp2
      go_quiet (fail)
      go_wp2
      go_ret
      exact ⟨rfl, below_drewN hb.out _⟩
    · have hlt : i < h := by omega
      clear hih
      by_cases ht2 : (100 : Int) < (r.size : Int) - i - 3
      · go_wp2
        go_roundw
        case rel => exact ⟨i + 1, by omega, by go_num, hb.out⟩
        case measure => simp [intOf]; omega
      · cases q1 : ((r.extract 0 i).toList == (m.extract 0 i).toList) with
        | false =>
          go_wp2
          go_quiet (fail)
          go_wp2
          go_roundw
          case rel => exact ⟨i + 1, by omega, by go_num, below_drewN hb.out _⟩
          case measure => simp [intOf]; omega
        | true =>
          cases q2 : ((r.extract i (i + 3)).toList == [46, 46, 46]) with
          | false =>
            go_wp2
            go_quiet (fail)
            go_wp2
            go_roundw
            case rel => exact ⟨i + 1, by omega, by go_num, below_drewN hb.out _⟩
            case measure => simp [intOf]; omega
          | true =>
            cases q3 : ((r.extract (i + 3) r.size).toList == (m.extract (m.size - (r.size - i - 3)) m.size).toList) with
            | false =>
              go_wp2
              go_quiet (fail)
              go_wp2
              go_roundw
              case rel => exact ⟨i + 1, by omega, by go_num, below_drewN hb.out _⟩
              case measure => simp [intOf]; omega
            | true =>
              go_wp2
              go_quiet (fail)
              go_wp2
              go_ret
              exact ⟨rfl, below_drewN hb.out _⟩
end Go.Proofs.Qxb6628653a
