import Derived.Test.Qxb6628653aRows
import Derived.WalkKit
import Derived.WalkSpells
import Derived.WalkLawsBesides
import Derived.ProofKit
import Derived.Deep.QuietTactic
import Derived.BigQuiet
namespace Go.Proofs.Qxb6628653a
open Go.ChangeShapes Go.WideShapes Go.ChangeAt Go.RowKit

/-- can the byte be the first of a character? -/
def rs (c : Int) : Bool := bits .and .u8 c 192 != 128

theorem rs_any (c : Int) (w : World) : Calls Try.prog 11 #[.int .u8 c] w fun e w' => e = .returned (.bool (rs c)) ∧ w' = w := by
  go_enter Try.func11, Try.ntmps11
  go_wp2
  go_ret
  exact ⟨rfl, rfl⟩

set_option maxHeartbeats 400000 in
theorem bytes1_any (s : ByteArray) (k : Int) (w : World) (hs : s.size ≤ maxLen) : Calls Try.prog 5 #[.string s, .int .i64 k] w fun e w' => e = .returned (.bool (decide (s.size ≤ 1048576))) ∧ w' = w := by
  unfold maxLen at hs
  by_cases h : s.size ≤ 1048576
  · go_enter Try.func5, Try.ntmps5
    go_wp2
    go_ret
    exact ⟨by simp [h], rfl⟩
  · go_enter Try.func5, Try.ntmps5
    go_wp2
    go_ret
    exact ⟨by simp [h], rfl⟩

/-- the byte of s at place i, as a number -/
def at8 (s : ByteArray) (i : Nat) : Int := ((s.data.toList[i]?.getD 0).toNat : Int)

/-- the greatest number at or below i at which f says yes; 0 where there is none -/
def hd (f : Nat → Bool) : Nat → Nat
  | 0 => 0
  | i + 1 => if f (i + 1) then i + 1 else hd f i

def hdOf (s : ByteArray) : Nat → Nat := hd fun i => rs (at8 s i)
def tlOf (s : ByteArray) : Nat → Nat := hd fun r => rs (at8 s (s.size - r))

theorem at8_eq (s : ByteArray) (k : Nat) (h : k < s.size) : (s[k].toNat : Int) = at8 s k := by
  unfold at8
  have h2 : k < s.data.toList.length := by simpa using h
  rw [List.getElem?_eq_getElem h2]; rfl

theorem hd_le (f : Nat → Bool) (i : Nat) : hd f i ≤ i := by
  induction i with
  | zero => exact Nat.le_refl _
  | succ i ih => unfold hd; split <;> omega

theorem hd_yes (f : Nat → Bool) (i : Nat) (h : f i = true) : hd f i = i := by
  cases i with
  | zero => rfl
  | succ i => unfold hd; simp [h]

theorem hd_no (f : Nat → Bool) (i : Nat) (h0 : 0 < i) (h : f i = false) : hd f (i - 1) = hd f i := by
  cases i with
  | zero => omega
  | succ i => rw [hd]; simp [h]

theorem ret_int {k : IntKind} {a b : Int} (h : a = b) : Ending.returned (.int k a) = .returned (.int k b) := by rw [h]
theorem ret_str {a b : ByteArray} (h : a = b) : Ending.returned (.string a) = .returned (.string b) := by rw [h]

set_option maxHeartbeats 400000 in
theorem runeStart_any (s : ByteArray) (i : Nat) (w : World) (hs : s.size ≤ maxLen) (hi : i < s.size) :
    Calls Try.prog 10 #[.string s, .int .i64 i] w fun e w' => e = .returned (.int .i64 (hdOf s i)) ∧ w' = w := by
  unfold maxLen at hs
  go_enter Try.func10, Try.ntmps10
  go_wp2
  go_loop [1] (fun t => ∃ k : Nat, k ≤ i ∧ t = .int .i64 k ∧ hdOf s k = hdOf s i) (fun t => (intOf t).toNat)
  case atStart => exact ⟨i, Nat.le_refl _, rfl, rfl⟩
  case round =>
    obtain ⟨k, hk, rfl, he⟩ := hrel
    have HE : Hid (hdOf s k = hdOf s i) := he
    clear he
    by_cases h0 : 0 < k
    · have hks : k < s.size := by omega
      cases hr : rs (s[k].toNat : Int) with
      | true =>
        go_wp2_with (go_at_call 11; refine (rs_any _ _).mono ?_; rintro e w' ⟨rfl, rfl⟩)
        go_ret
        refine ⟨ret_int ?_, rfl⟩
        rw [← HE.out, hdOf, hd_yes _ _ (by rw [← at8_eq s k hks]; exact hr)]
      | false =>
        go_wp2_with (go_at_call 11; refine (rs_any _ _).mono ?_; rintro e w' ⟨rfl, rfl⟩)
        go_round
        case rel =>
          refine ⟨k - 1, by omega, by go_num, ?_⟩
          rw [← HE.out]; exact hd_no _ _ h0 (by rw [← at8_eq s k hks]; exact hr)
        case measure => simp [intOf]; omega
    · have hk0 : k = 0 := by omega
      subst hk0
      go_wp2
      go_ret
      exact ⟨ret_int (by rw [← HE.out]; rfl), rfl⟩

def dots : ByteArray := { data := #[46, 46, 46] }

/-- what BothEnds answers -/
def be (s : ByteArray) : ByteArray :=
  if s.size ≤ 200 then s else s.extract 0 (hdOf s 100) ++ dots ++ s.extract (s.size - tlOf s 100) s.size

set_option maxHeartbeats 400000 in
theorem be_short (s : ByteArray) (w : World) (hs : s.size ≤ 200) :
    Calls Try.prog 6 #[.string s] w fun e w' => e = .returned (.string (be s)) ∧ w' = w := by
  go_enter Try.func6, Try.ntmps6
  go_wp2
  go_ret
  exact ⟨ret_str (by simp [be, hs]), rfl⟩

theorem at8_extract (s : ByteArray) (a b i : Nat) (h : a + i < b) (hb : b ≤ s.size) : at8 (s.extract a b) i = at8 s (a + i) := by
  have h1 : i < (s.extract a b).size := by simp only [ByteArray.size_extract]; omega
  rw [← at8_eq _ _ h1, ← at8_eq _ _ (by omega)]
  rw [ByteArray.getElem_extract]

theorem data_len (T : ByteArray) : T.data.toList.length = T.size := by simp

theorem isEmpty_of (T : ByteArray) (h : 0 < T.size) : T.toList.isEmpty = false := by
  rw [Go.ByteArray.toList_eq]
  have hl := data_len T
  cases hT : T.data.toList with
  | nil => rw [hT] at hl; simp only [List.length_nil] at hl; omega
  | cons a l => rfl

theorem isEmpty_at (T : ByteArray) (h : T.size = 0) : T.toList.isEmpty = true := by
  rw [Go.ByteArray.toList_eq]
  have hl := data_len T
  rw [h] at hl
  rw [List.length_eq_zero_iff.1 hl]; rfl

def sizeOf' (v : Value) : Nat := match v with | .string b => b.size | _ => 0

set_option maxHeartbeats 400000 in
theorem be_long (s : ByteArray) (w : World) (h2 : 200 < s.size) (hs : s.size ≤ maxLen) :
    Calls Try.prog 6 #[.string s] w fun e w' => e = .returned (.string (be s)) ∧ w' = w := by
  have hl := hd_le (fun i => rs (at8 s i)) 100
  have hm : s.size ≤ maxLen := hs
  unfold maxLen at hs
  have hhd : hdOf s 100 ≤ 100 := hl
  clear hl
  go_enter Try.func6, Try.ntmps6
  go_wp2_with (go_at_call 10; refine (runeStart_any s 100 _ hm (by omega)).mono ?_; rintro e w' ⟨rfl, rfl⟩)
  go_loop [4] (fun t => ∃ r : Nat, r ≤ 100 ∧ t = .string (s.extract (s.size - r) s.size) ∧ tlOf s r = tlOf s 100) (fun t => sizeOf' t)
  case atStart => exact ⟨100, Nat.le_refl _, rfl, rfl⟩
  case round =>
    obtain ⟨k, hk, rfl, he⟩ := hrel
    have HE : Hid (tlOf s k = tlOf s 100) := he
    clear he
    have hsz : (s.extract (s.size - k) s.size).size = k := by simp only [ByteArray.size_extract]; omega
    have h8 : 0 < k → at8 (s.extract (s.size - k) s.size) 0 = at8 s (s.size - k) := fun h => by
      rw [at8_extract _ _ _ _ (by omega) (Nat.le_refl _)]; rfl
    have hex : 0 < k → (s.extract (s.size - k) s.size).extract 1 k = s.extract (s.size - (k - 1)) s.size := fun h => by
      rw [ByteArray.extract_extract]
      rw [show s.size - k + 1 = s.size - (k - 1) by omega, show min (s.size - k + k) s.size = s.size by omega]
    have hfin : k = tlOf s 100 → s.extract 0 (hdOf s 100) ++ { data := #[46, 46, 46] } ++ s.extract (s.size - k) s.size = be s := by
      rintro rfl
      unfold be
      rw [if_neg (by omega)]; rfl
    generalize hT : s.extract (s.size - k) s.size = T at *
    have HT : Hid (s.extract (s.size - k) s.size = T) := hT
    have H8 : Hid (0 < k → at8 T 0 = at8 s (s.size - k)) := h8
    have HX : Hid (0 < k → T.extract 1 k = s.extract (s.size - (k - 1)) s.size) := hex
    have HF : Hid (k = tlOf s 100 → s.extract 0 (hdOf s 100) ++ { data := #[46, 46, 46] } ++ T = be s) := hfin
    clear hT h8 hex hfin
    have hsz1 : T.size ≤ k := by omega
    have hsz2 : k ≤ T.size := by omega
    have HZ : Hid (T.size = k) := hsz
    clear hsz
    by_cases h0 : 0 < k
    · have hne : T.toList.isEmpty = false := isEmpty_of T (by omega)
      have hpos : 0 < T.size := by omega
      cases hr : rs (T[0].toNat : Int) with
      | true =>
        go_wp2_with (go_at_call 11; refine (rs_any _ _).mono ?_; rintro e w' ⟨rfl, rfl⟩)
        go_ret
        refine ⟨ret_str (HF.out ?_), rfl⟩
        rw [← HE.out, tlOf, hd_yes _ _ (by rw [← H8.out h0, ← at8_eq T 0 hpos]; exact hr)]
      | false =>
        go_wp2_with (go_at_call 11; refine (rs_any _ _).mono ?_; rintro e w' ⟨rfl, rfl⟩)
        go_round
        case rel =>
          refine ⟨k - 1, by omega, ?_, ?_⟩
          · rw [HZ.out, HX.out h0]
          · rw [← HE.out]; exact hd_no _ _ h0 (by rw [← H8.out h0, ← at8_eq T 0 hpos]; exact hr)
        case measure => simp [sizeOf']; omega
    · have hne : T.toList.isEmpty = true := isEmpty_at T (by omega)
      go_wp2
      go_ret
      refine ⟨ret_str (HF.out ?_), rfl⟩
      have hk0 : k = 0 := by omega
      rw [← HE.out, hk0]; rfl

theorem be_any (s : ByteArray) (w : World) (hs : s.size ≤ maxLen) :
    Calls Try.prog 6 #[.string s] w fun e w' => e = .returned (.string (be s)) ∧ w' = w := by
  by_cases h : s.size ≤ 200
  · exact be_short s w h
  · exact be_long s w (by omega) hs
end Go.Proofs.Qxb6628653a
