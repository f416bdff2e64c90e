import Derived.Test.Qxb6628653aWalks
import Derived.Deep.OwnRows
import Derived.Laws.BytesArg
namespace Go.Proofs.Qxb6628653a
open Go.ChangeShapes Go.WideShapes Go.ChangeAt Go.RowKit

theorem Try.info5 : (Try.prog.info? 5).map (fun i => (i.zero, i.size, i.bytes)) = some (some (.int .u8 0), 1, 1) := by kernel_rfl

/-- n times the byte z -/
def zz (n : Nat) : ByteArray := strOfNums (List.replicate n 122)

set_option maxHeartbeats 400000 in
theorem run_any (n : Nat) (w : World) (hn : n ≤ 1000) :
    Calls Try.prog 7 #[.int .i64 n] w fun e w' => e = .returned (.string (zz n)) ∧ Below w.heap.size w w' := by
  have hmk : ∀ w : World, (Instr.makeSlice 29 (.int .i64 (n : Int)) (.int .i64 (n : Int))).run Try.prog w = .ok (.slice (some ⟨w.heap.size, 0, none⟩) n n) (w.alloc (.cells (madeCells #[.int .u8 0] n) 5)) := fun w => by
    have h := run_make_row' (P := Try.prog) 29 5 (.int .u8 0) 1 Try.underlying29 Try.info5 rfl .i64 .i64 n (by omega) (by omega) w
    exact h
  go_enter Try.func7, Try.ntmps7
  go_wp2
  go_loopw [4] (fun vi wr => ∃ k : Nat, k ≤ n ∧ vi = .int .i64 k ∧ Hid (wr.rowIs w.heap.size 5 n (fun j => if j < k then .int .u8 122 else .int .u8 0)) ∧ Hid (Below w.heap.size w wr)) (fun vi _ => n - (intOf vi).toNat)
  case atStart => exact ⟨0, Nat.zero_le _, rfl, (World.rowIs_made w _ _ _).congr (fun j _ => by simp), (Below.refl _ _).alloc (Nat.le_refl _) _⟩
  case round =>
    obtain ⟨k, hk, rfl, hrw, hb⟩ := hrel
    have hf1 : wr.frozen? ⟨w.heap.size, k, none⟩ = false := hrw.out.frozen _
    by_cases hlt : k < n
    · have hc1 : wr.cell? ⟨w.heap.size, k, none⟩ = some (.int .u8 0) := by rw [hrw.out.cell hlt]; simp
      go_wp2
      go_roundw
      case rel =>
        refine ⟨k + 1, by omega, by go_num, (hrw.out.set _ _).congr (fun j _ => ?_), hb.out.setCell (Nat.le_refl _) _⟩
        by_cases h : j = k
        · subst h; simp
        · by_cases h' : j < k
          · simp [h, h', show j < k + 1 by omega]
          · simp [h, h', show ¬ j < k + 1 by omega]
      case measure => simp [intOf]; omega
    · have hk2 : k = n := by omega
      subst hk2
      have g := run_convert_bytes_arg (P := Try.prog) wr 29 5 Try.underlying29 Try.underlying5 w.heap.size 0 k k (List.replicate k 122) (by simp) (fun i hi => by rw [Nat.zero_add, hrw.out.cell hi]; simp [hi]) 9 Try.underlying9
      go_wp2
      go_ret
      exact ⟨rfl, hb.out⟩
end Go.Proofs.Qxb6628653a
