import Derived.Test.Qxb6628735aWalks
import Derived.Deep.OwnRows
import Derived.Laws.BytesArg
namespace Go.Proofs.Qxb6628735a
open Go.ChangeShapes Go.WideShapes Go.ChangeAt Go.RowKit

theorem Try.info5 : (Try.prog.info? 5).map (fun i => (i.zero, i.size, i.bytes)) = some (some (.int .u8 0), 1, 1) := by kernel_rfl

/-- the letters a to f in upper case -/
def upc (c : Int) : Int := if 97 ≤ c ∧ c ≤ 102 then c - 32 else c
def upNums (s : ByteArray) : List Int := (List.range s.size).map fun i => upc (at8 s i)
def up (s : ByteArray) : ByteArray := strOfNums (upNums s)

theorem upNums_len (s : ByteArray) : (upNums s).length = s.size := by simp [upNums]
theorem upNums_at (s : ByteArray) (i : Nat) (h : i < s.size) : (upNums s).getD i 0 = upc (at8 s i) := by
  simp [upNums, List.getD, h]

set_option maxHeartbeats 400000 in
theorem upper_any (s : ByteArray) (w : World) (hs : s.size ≤ 1048576) :
    Calls Try.prog 10 #[.string s] w fun e w' => e = .returned (.string (up s)) ∧ Below w.heap.size w w' := by
  have hmk : ∀ w : World, (Instr.makeSlice 28 (.int .i64 (s.size : Int)) (.int .i64 (s.size : Int))).run Try.prog w = .ok (.slice (some ⟨w.heap.size, 0, none⟩) s.size s.size) (w.alloc (.cells (madeCells #[.int .u8 0] s.size) 5)) := fun w => by
    have h := run_make_row' (P := Try.prog) 28 5 (.int .u8 0) 1 Try.underlying28 Try.info5 rfl .i64 .i64 s.size (by omega) (by omega) w
    exact h
  go_enter Try.func10, Try.ntmps10
  go_wp2
  go_loopw [4] (fun vi wr => ∃ k : Nat, k ≤ s.size ∧ vi = .int .i64 k ∧ Hid (wr.rowIs w.heap.size 5 s.size (fun j => if j < k then .int .u8 (upc (at8 s j)) else .int .u8 0)) ∧ Hid (Below w.heap.size w wr)) (fun vi _ => s.size - (intOf vi).toNat)
  case atStart => exact ⟨0, Nat.zero_le _, rfl, (World.rowIs_made w _ _ _).congr (fun j _ => by simp), (Below.refl _ _).alloc (Nat.le_refl _) _⟩
  case round =>
    obtain ⟨k, hk, rfl, hrw, hb⟩ := hrel
    have hf1 : wr.frozen? ⟨w.heap.size, k, none⟩ = false := hrw.out.frozen _
    by_cases hlt : k < s.size
    · have hc1 : wr.cell? ⟨w.heap.size, k, none⟩ = some (.int .u8 0) := by rw [hrw.out.cell hlt]; simp
      have E8 : Hid ((s[k].toNat : Int) = at8 s k) := at8_eq s k hlt
      have step : ∀ v : Value, v = .int .u8 (upc (at8 s k)) → (wr.setCell ⟨w.heap.size, k, none⟩ v).rowIs w.heap.size 5 s.size (fun j => if j < k + 1 then .int .u8 (upc (at8 s j)) else .int .u8 0) := fun v hv => by
        refine (hrw.out.set _ _).congr (fun j _ => ?_)
        by_cases h : j = k
        · subst h; simp [hv]
        · by_cases h' : j < k
          · simp [h, h', show j < k + 1 by omega]
          · simp [h, h', show ¬ j < k + 1 by omega]
      have STEP := hide step
      clear step
      by_cases h1 : (97 : Int) ≤ (s[k].toNat : Int)
      · by_cases h2 : (s[k].toNat : Int) ≤ 102
        · go_wp2
          go_roundw
          case rel => exact ⟨k + 1, by omega, by go_num, STEP.out _ (by rw [← E8.out]; unfold upc; rw [if_pos ⟨h1, h2⟩]), hb.out.setCell (Nat.le_refl _) _⟩
          case measure => simp [intOf]; omega
        · go_wp2
          go_roundw
          case rel => exact ⟨k + 1, by omega, by go_num, STEP.out _ (by rw [← E8.out]; unfold upc; rw [if_neg (by omega)]), hb.out.setCell (Nat.le_refl _) _⟩
          case measure => simp [intOf]; omega
      · go_wp2
        go_roundw
        case rel => exact ⟨k + 1, by omega, by go_num, STEP.out _ (by rw [← E8.out]; unfold upc; rw [if_neg (by omega)]), hb.out.setCell (Nat.le_refl _) _⟩
        case measure => simp [intOf]; omega
    · have g := run_convert_bytes_arg (P := Try.prog) wr 28 5 Try.underlying28 Try.underlying5 w.heap.size 0 s.size s.size (upNums s) (upNums_len s) (fun i hi => by rw [Nat.zero_add, hrw.out.cell hi, upNums_at s i hi, if_pos (by omega)]) 9 Try.underlying9
      go_wp2
      go_ret
      exact ⟨rfl, hb.out⟩
end Go.Proofs.Qxb6628735a
