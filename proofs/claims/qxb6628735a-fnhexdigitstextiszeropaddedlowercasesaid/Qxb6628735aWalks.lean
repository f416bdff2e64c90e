import Derived.Test.Qxb6628735aRows
import Derived.WalkKit
import Derived.WalkSpells
import Derived.WalkLawsBesides
import Derived.ProofKit
import Derived.Deep.QuietTactic
import Derived.BigQuiet
namespace Go.Proofs.Qxb6628735a
open Go.ChangeShapes Go.WideShapes Go.ChangeAt Go.RowKit

theorem ret_bool {a b : Bool} (h : a = b) : Ending.returned (.bool a) = .returned (.bool b) := by rw [h]
theorem ret_int {k : IntKind} {a b : Int} (h : a = b) : Ending.returned (.int k a) = .returned (.int k b) := by rw [h]
theorem ret_str {a b : ByteArray} (h : a = b) : Ending.returned (.string a) = .returned (.string b) := by rw [h]
theorem hide {p : Prop} (h : p) : Hid p := h

/-- the byte of s at place i, as a number -/
def at8 (s : ByteArray) (i : Nat) : Int := ((s.data.toList[i]?.getD 0).toNat : Int)

theorem data_len (T : ByteArray) : T.data.toList.length = T.size := by simp

theorem at8_eq (s : ByteArray) (k : Nat) (h : k < s.size) : (s[k].toNat : Int) = at8 s k := by
  unfold at8
  have h2 : k < s.data.toList.length := by simpa using h
  rw [List.getElem?_eq_getElem h2]; rfl

theorem at8_bd (s : ByteArray) (k : Nat) : 0 ≤ at8 s k ∧ at8 s k ≤ 255 := by
  unfold at8
  have := (s.data.toList[k]?.getD 0).toNat_lt
  omega

/-- the value of a hexadecimal digit, or -1 -/
def hv (c : Int) : Int := if 48 ≤ c ∧ c ≤ 57 then c - 48 else if 97 ≤ c ∧ c ≤ 102 then c - 87 else if 65 ≤ c ∧ c ≤ 70 then c - 55 else -1
/-- is it a lower-case digit? -/
def lowB (c : Int) : Bool := decide ((48 ≤ c ∧ c ≤ 57) ∨ (97 ≤ c ∧ c ≤ 102))

set_option maxHeartbeats 400000 in
theorem bytes1_any (s : ByteArray) (w : World) (hs : s.size ≤ maxLen) : Calls Try.prog 5 #[.string s] w fun e w' => e = .returned (.bool (decide (s.size ≤ 1048576))) ∧ w' = w := by
  unfold maxLen at hs
  by_cases h : s.size ≤ 1048576
  · go_enter Try.func5, Try.ntmps5
    go_wp2
    go_ret
    exact ⟨by simp [h], rfl⟩
  · go_enter Try.func5, Try.ntmps5
    go_wp2
    go_ret
    exact ⟨by simp [h], rfl⟩

set_option maxHeartbeats 400000 in
theorem bytes2_any (s : ByteArray) (k : Int) (w : World) (hs : s.size ≤ maxLen) : Calls Try.prog 9 #[.string s, .int .i64 k] w fun e w' => e = .returned (.bool (decide (s.size ≤ 1048576))) ∧ w' = w := by
  unfold maxLen at hs
  by_cases h : s.size ≤ 1048576
  · go_enter Try.func9, Try.ntmps9
    go_wp2
    go_ret
    exact ⟨by simp [h], rfl⟩
  · go_enter Try.func9, Try.ntmps9
    go_wp2
    go_ret
    exact ⟨by simp [h], rfl⟩

set_option maxHeartbeats 400000 in
theorem hv_any (c : Int) (w : World) (h0 : 0 ≤ c) (h1 : c ≤ 255) : Calls Try.prog 11 #[.int .u8 c] w fun e w' => e = .returned (.int .i64 (hv c)) ∧ w' = w := by
  by_cases a1 : 48 ≤ c ∧ c ≤ 57
  · obtain ⟨a, b⟩ := a1
    have HV : Hid (c - 48 = hv c) := by unfold hv; rw [if_pos ⟨a, b⟩]; rfl
    go_enter Try.func11, Try.ntmps11
    go_wp2
    go_ret
    exact ⟨ret_int HV.out, rfl⟩
  · by_cases a2 : 97 ≤ c ∧ c ≤ 102
    · have HV : Hid (c - 97 + 10 = hv c) := by
        unfold hv; rw [if_neg a1, if_pos a2]; show c - 97 + 10 = c - 87; omega
      obtain ⟨a, b⟩ := a2
      clear a1
      go_enter Try.func11, Try.ntmps11
      go_wp2
      go_ret
      exact ⟨ret_int HV.out, rfl⟩
    · by_cases a3 : 65 ≤ c ∧ c ≤ 70
      · have HV : Hid (c - 65 + 10 = hv c) := by
          unfold hv; rw [if_neg a1, if_neg a2, if_pos a3]; show c - 65 + 10 = c - 55; omega
        obtain ⟨a, b⟩ := a3
        clear a1 a2
        go_enter Try.func11, Try.ntmps11
        go_wp2
        go_ret
        exact ⟨ret_int HV.out, rfl⟩
      · have HV : Hid ((-1 : Int) = hv c) := by
          unfold hv; rw [if_neg a1, if_neg a2, if_neg a3]; rfl
        go_enter Try.func11, Try.ntmps11
        go_wp2
        all_goals (go_ret; exact ⟨ret_int HV.out, rfl⟩)

theorem lowB_ways (b : Bool) (c : Int) (h : b = true ↔ ((48 ≤ c ∧ c ≤ 57) ∨ (97 ≤ c ∧ c ≤ 102))) : b = lowB c := by
  unfold lowB; rw [Bool.eq_iff_iff, decide_eq_true_eq]; exact h

set_option maxHeartbeats 400000 in
theorem lowB_any (c : Int) (w : World) : Calls Try.prog 13 #[.int .u8 c] w fun e w' => e = .returned (.bool (lowB c)) ∧ w' = w := by
  go_enter Try.func13, Try.ntmps13
  go_wp2
  all_goals (go_ret; refine ⟨ret_bool (lowB_ways _ _ ?_), rfl⟩)
  all_goals (first | (simp only [Bool.or_eq_true, decide_eq_true_eq]; omega) | (simp; omega))

/-- are all bytes hexadecimal digits? -/
def Hexs (s : ByteArray) : Prop := ∀ i, i < s.size → 0 ≤ hv (at8 s i)
/-- is there no upper-case letter? -/
def NoUp (s : ByteArray) : Prop := ∀ i, i < s.size → ¬ (65 ≤ at8 s i ∧ at8 s i ≤ 90)

def AllPost (s : ByteArray) (w : World) (e : Ending) (w' : World) : Prop := ∃ b, e = .returned (.bool b) ∧ (b = true → Hexs s) ∧ (Hexs s → b = true) ∧ w' = w
def UpPost (s : ByteArray) (w : World) (e : Ending) (w' : World) : Prop := ∃ b, e = .returned (.bool b) ∧ (b = false → NoUp s) ∧ (NoUp s → b = false) ∧ w' = w

set_option maxHeartbeats 400000 in
theorem allHex_any (s : ByteArray) (w : World) (hs : s.size ≤ maxLen) : Calls Try.prog 6 #[.string s] w fun e w' => AllPost s w e w' := by
  unfold maxLen at hs
  go_enter Try.func6, Try.ntmps6
  go_wp2
  go_loop [3] (fun v => ∃ k : Nat, k ≤ s.size ∧ v = .int .i64 k ∧ Hid (∀ i, i < k → 0 ≤ hv (at8 s i))) (fun v => s.size - (intOf v).toNat)
  case atStart => exact ⟨0, Nat.zero_le _, rfl, fun i hi => by omega⟩
  case round =>
    obtain ⟨k, hk, rfl, hh⟩ := hrel
    by_cases hlt : k < s.size
    · have e8 := at8_eq s k hlt
      have b8 := at8_bd s k
      by_cases hn : hv (at8 s k) < 0
      · have hn2 : hv (s[k].toNat : Int) < 0 := by rw [e8]; exact hn
        have HN : Hid (hv (at8 s k) < 0) := hn
        clear e8 b8 hn
        go_wp2_with (go_at_call 11; refine (hv_any _ _ (by omega) (by have := s[k].toNat_lt; omega)).mono ?_; rintro e w' ⟨rfl, rfl⟩)
        go_ret
        exact ⟨false, rfl, (fun h => nomatch h), (fun hx => absurd (hx k hlt) (by have := HN.out; omega)), rfl⟩
      · have hn2 : ¬ hv (s[k].toNat : Int) < 0 := by rw [e8]; exact hn
        have HN : Hid (0 ≤ hv (at8 s k)) := by show 0 ≤ hv (at8 s k); omega
        clear e8 b8 hn
        go_wp2_with (go_at_call 11; refine (hv_any _ _ (by omega) (by have := s[k].toNat_lt; omega)).mono ?_; rintro e w' ⟨rfl, rfl⟩)
        go_round
        case rel =>
          refine ⟨k + 1, by omega, by go_num, fun i hi => ?_⟩
          by_cases hik : i = k
          · rw [hik]; exact HN.out
          · exact hh.out i (by omega)
        case measure => simp [intOf]; omega
    · go_wp2
      go_ret
      exact ⟨true, rfl, fun _ i hi => hh.out i (by omega), fun _ => rfl, rfl⟩

theorem allHex_yes (s : ByteArray) (w : World) (hs : s.size ≤ maxLen) (hx : Hexs s) : Calls Try.prog 6 #[.string s] w fun e w' => e = .returned (.bool true) ∧ w' = w := by
  refine (allHex_any s w hs).mono ?_
  rintro e w' ⟨b, rfl, _, hb, rfl⟩
  rw [hb hx]
  exact ⟨rfl, rfl⟩

set_option maxHeartbeats 400000 in
theorem hasUpper_any (s : ByteArray) (w : World) (hs : s.size ≤ maxLen) : Calls Try.prog 14 #[.string s] w fun e w' => UpPost s w e w' := by
  unfold maxLen at hs
  go_enter Try.func14, Try.ntmps14
  go_wp2
  go_loop [3] (fun v => ∃ k : Nat, k ≤ s.size ∧ v = .int .i64 k ∧ Hid (∀ i, i < k → ¬ (65 ≤ at8 s i ∧ at8 s i ≤ 90))) (fun v => s.size - (intOf v).toNat)
  case atStart => exact ⟨0, Nat.zero_le _, rfl, fun i hi => by omega⟩
  case round =>
    obtain ⟨k, hk, rfl, hh⟩ := hrel
    by_cases hlt : k < s.size
    · have e8 := at8_eq s k hlt
      have E8 : Hid ((s[k].toNat : Int) = at8 s k) := e8
      clear e8
      by_cases h1 : (65 : Int) ≤ (s[k].toNat : Int)
      · by_cases h2 : (s[k].toNat : Int) ≤ 90
        · go_wp2
          go_ret
          refine ⟨true, rfl, (fun h => nomatch h), fun hno => ?_, rfl⟩
          have := hno k hlt
          rw [← E8.out] at this
          exact absurd ⟨h1, h2⟩ this
        · go_wp2
          go_round
          case rel =>
            refine ⟨k + 1, by omega, by go_num, fun i hi => ?_⟩
            by_cases hik : i = k
            · rw [hik, ← E8.out]; omega
            · exact hh.out i (by omega)
          case measure => simp [intOf]; omega
      · go_wp2
        go_round
        case rel =>
          refine ⟨k + 1, by omega, by go_num, fun i hi => ?_⟩
          by_cases hik : i = k
          · rw [hik, ← E8.out]; omega
          · exact hh.out i (by omega)
        case measure => simp [intOf]; omega
    · go_wp2
      go_ret
      exact ⟨false, rfl, fun _ i hi => hh.out i (by omega), fun _ => rfl, rfl⟩

/-- what isCanonicalB1 looks at -/
def Canon (s t : ByteArray) : Prop := t.size = s.size + s.size % 2 ∧ (s.size % 2 = 1 → at8 t 0 = 48) ∧ ∀ i, i < s.size → lowB (at8 t (i + s.size % 2)) = true ∧ hv (at8 t (i + s.size % 2)) = hv (at8 s i)

set_option maxHeartbeats 1000000 in
theorem canon_any (s t : ByteArray) (w : World) (hs : s.size ≤ 1048576) (hc : Canon s t) : Calls Try.prog 8 #[.string s, .string t] w fun e w' => e = .returned (.bool true) ∧ Below w.heap.size w w' := by
  obtain ⟨c1, c2, c3⟩ := hc
  have C3 := hide c3
  clear c3
  have m2 : s.size % 2 = 0 ∨ s.size % 2 = 1 := by omega
  rcases m2 with m2 | m2
  · rw [m2] at C3
    have q1 : ((t.size : Int) != (s.size : Int)) = false := by simp; omega
    have t1 : t.size ≤ s.size := by omega
    have t2 : s.size ≤ t.size := by omega
    have q0 : ((s.size : Int) % 2) = 0 := by omega
    clear c1 c2 m2
    go_enter Try.func8, Try.ntmps8
    go_wp2
    simp only [q0]
    go_loopw [6] (fun v wr => ∃ k : Nat, k ≤ s.size ∧ v = .int .i64 k ∧ Hid (Below w.heap.size w wr)) (fun v _ => s.size - (intOf v).toNat)
    case atStart => exact ⟨0, Nat.zero_le _, rfl, Below.refl _ _⟩
    case round =>
      obtain ⟨k, hk, rfl, hb⟩ := hrel
      by_cases hlt : k < s.size
      · have hkt : k < t.size := by omega
        obtain ⟨l1, l2⟩ := C3.out k hlt
        rw [Nat.add_zero, ← at8_eq t k hkt] at l1 l2
        rw [← at8_eq s k hlt] at l2
        go_wp2_with (go_at_call 13; refine (lowB_any _ _).mono ?_; rintro e w' ⟨rfl, rfl⟩)
        go_quiet ((go_at_call 11; exact Calls.quiet_of_same (hv_any _ _ (by omega) (by first | (have := t[k].toNat_lt; omega) | (have := s[k].toNat_lt; omega)))))
        go_wp2
        go_roundw
        case rel => exact ⟨k + 1, by omega, by go_num, below_drewN hb.out _⟩
        case measure => simp [intOf]; omega
      · go_wp2
        go_ret
        exact ⟨rfl, hb.out⟩
  · rw [m2] at C3
    have q1 : ((t.size : Int) != (s.size : Int) + 1) = false := by simp; omega
    have t1 : t.size ≤ s.size + 1 := by omega
    have t2 : s.size + 1 ≤ t.size := by omega
    have q0 : ((s.size : Int) % 2) = 1 := by omega
    have ht0 : 0 < t.size := by omega
    have q2 : (t[0].toNat : Int) = 48 := by rw [at8_eq t 0 ht0]; exact c2 m2
    clear c1 c2 m2
    go_enter Try.func8, Try.ntmps8
    go_wp2
    simp only [q0]
    go_loopw [6] (fun v wr => ∃ k : Nat, k ≤ s.size ∧ v = .int .i64 k ∧ Hid (Below w.heap.size w wr)) (fun v _ => s.size - (intOf v).toNat)
    case atStart => exact ⟨0, Nat.zero_le _, rfl, Below.refl _ _⟩
    case round =>
      obtain ⟨k, hk, rfl, hb⟩ := hrel
      by_cases hlt : k < s.size
      · have hkt : k + 1 < t.size := by omega
        obtain ⟨l1, l2⟩ := C3.out k hlt
        rw [← at8_eq t (k + 1) hkt] at l1 l2
        rw [← at8_eq s k hlt] at l2
        go_wp2_with (go_at_call 13; refine (lowB_any _ _).mono ?_; rintro e w' ⟨rfl, rfl⟩)
        go_quiet ((go_at_call 11; exact Calls.quiet_of_same (hv_any _ _ (by omega) (by first | (have := t[k + 1].toNat_lt; omega) | (have := s[k].toNat_lt; omega)))))
        go_wp2
        go_roundw
        case rel => exact ⟨k + 1, by omega, by go_num, below_drewN hb.out _⟩
        case measure => simp [intOf]; omega
      · go_wp2
        go_ret
        exact ⟨rfl, hb.out⟩
end Go.Proofs.Qxb6628735a
