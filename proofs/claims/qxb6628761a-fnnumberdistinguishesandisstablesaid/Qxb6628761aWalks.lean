import Derived.Test.Qxb6628761aRows
import Derived.Test.Qxb6628761aShelf
import Derived.WalkKit
import Derived.WalkSpells
import Derived.WalkLawsBesides
import Derived.ProofKit
import Derived.Deep.QuietTactic
import Derived.BigQuiet
namespace Go.Proofs.Qxb6628761a
open Go.ChangeShapes Go.WideShapes Go.ChangeAt Go.RowKit

theorem ret_bool {a b : Bool} (h : a = b) : Ending.returned (.bool a) = .returned (.bool b) := by rw [h]
theorem ret_int {k : IntKind} {a b : Int} (h : a = b) : Ending.returned (.int k a) = .returned (.int k b) := by rw [h]
theorem hide {p : Prop} (h : p) : Hid p := h

/-- a key: its symbol, its block, its place -/
def keyV (s : ByteArray) (b p : Int) : Value := .agg #[.string s, .int .i16 b, .int .i16 p]

/-- is the key in the domain? -/
def domB (b p : Int) : Bool := decide (b = 0 ∨ (1 ≤ b ∧ b ≤ 3000 ∧ 0 ≤ p ∧ p ≤ 999))

theorem domB_ways (x : Bool) (b p : Int) (h : x = true ↔ (b = 0 ∨ (1 ≤ b ∧ b ≤ 3000 ∧ 0 ≤ p ∧ p ≤ 999))) : x = domB b p := by
  unfold domB; rw [Bool.eq_iff_iff, decide_eq_true_eq]; exact h

set_option maxHeartbeats 400000 in
theorem dom_any (s : ByteArray) (b p : Int) (w : World) : Calls Try.prog 6 #[.agg #[.string s, .int .i16 b, .int .i16 p]] w fun e w' => e = .returned (.bool (domB b p)) ∧ Below w.heap.size w w' := by
  by_cases h0 : b = 0
  · subst h0
    go_enter Try.func6, Try.ntmps6
    go_wp2
    go_ret
    exact ⟨ret_bool (domB_ways _ _ _ (by simp)), (Below.refl _ _).alloc (Nat.le_refl _) _⟩
  · have q0 : (b == 0) = false := by simp [h0]
    have H0 := hide h0
    clear h0
    by_cases h1 : 1 ≤ b
    · by_cases h2 : b ≤ 3000
      · by_cases h3 : 0 ≤ p
        · go_enter Try.func6, Try.ntmps6
          go_wp2
          all_goals (go_ret; refine ⟨ret_bool (domB_ways _ _ _ ?_), (Below.refl _ _).alloc (Nat.le_refl _) _⟩)
          all_goals (have := H0.out; simp; omega)
        · go_enter Try.func6, Try.ntmps6
          go_wp2
          all_goals (go_ret; refine ⟨ret_bool (domB_ways _ _ _ ?_), (Below.refl _ _).alloc (Nat.le_refl _) _⟩)
          all_goals (have := H0.out; simp; omega)
      · go_enter Try.func6, Try.ntmps6
        go_wp2
        all_goals (go_ret; refine ⟨ret_bool (domB_ways _ _ _ ?_), (Below.refl _ _).alloc (Nat.le_refl _) _⟩)
        all_goals (have := H0.out; simp; omega)
    · go_enter Try.func6, Try.ntmps6
      go_wp2
      all_goals (go_ret; refine ⟨ret_bool (domB_ways _ _ _ ?_), (Below.refl _ _).alloc (Nat.le_refl _) _⟩)
      all_goals (have := H0.out; simp; omega)

/-- an identity -/
def idS (s : ByteArray) (b : Int) : ByteArray := if b = 0 then s else ByteArray.empty
def idB (b : Int) : Int := b
def idP (b p : Int) : Int := if b = 0 then 0 else p

set_option maxHeartbeats 400000 in
theorem ident_any (s : ByteArray) (b p : Int) (w : World) : Calls Try.prog 7 #[.agg #[.string s, .int .i16 b, .int .i16 p]] w fun e w' => e = .returned (.agg #[.string (idS s b), .int .i16 (idB b), .int .i16 (idP b p)]) ∧ Below w.heap.size w w' := by
  by_cases h0 : b = 0
  · subst h0
    go_enter Try.func7, Try.ntmps7
    go_wp2
    refine bodyPost_ret (v := .agg #[.string s, .int .i16 0, .int .i16 0]) (by simp [results, Try.results7, go_sem]) rfl ⟨?_, ?_⟩
    · simp [idS, idB, idP]
    · exact ((Below.refl _ _).alloc (Nat.le_refl _) _).alloc (by simp) _
  · have q0 : (b == 0) = false := by simp [h0]
    have H0 := hide h0
    clear h0
    go_enter Try.func7, Try.ntmps7
    go_wp2
    refine bodyPost_ret (v := .agg #[.string ByteArray.empty, .int .i16 b, .int .i16 p]) (by simp [results, Try.results7, go_sem]; rfl) rfl ⟨?_, ?_⟩
    · simp [idS, idB, idP, H0.out]
    · exact ((Below.refl _ _).alloc (Nat.le_refl _) _).alloc (by simp) _

set_option maxHeartbeats 400000 in
theorem newKey_any (s : ByteArray) (b p : Int) (w : World) : Calls Try.prog 12 #[.string s, .int .i16 b, .int .i16 p] w fun e w' => e = .returned (.agg #[.string s, .int .i16 b, .int .i16 p]) ∧ Below w.heap.size w w' := by
  go_enter Try.func12, Try.ntmps12
  go_wp2
  exact bodyPost_ret (v := .agg #[.string s, .int .i16 b, .int .i16 p]) (by simp [results, Try.results12, go_sem]) rfl ⟨rfl, (Below.refl _ _).alloc (Nat.le_refl _) _⟩

theorem later_cell {W w1 : World} (hb : Below W.heap.size W w1) : (∀ b o, b < W.heap.size → w1.cell? ⟨b, o, none⟩ = W.cell? ⟨b, o, none⟩) ∧ (∀ b o, b < W.heap.size → w1.frozen? ⟨b, o, none⟩ = W.frozen? ⟨b, o, none⟩) :=
  ⟨fun b o h => hb.cell (p := ⟨b, o, none⟩) h, fun b o h => hb.frozen (p := ⟨b, o, none⟩) h⟩

set_option maxHeartbeats 400000 in
theorem toKey_any (s : ByteArray) (b p : Int) (w : World) : Calls Try.prog 8 #[.agg #[.string s, .int .i16 b, .int .i16 p]] w fun e w' => e = .returned (.agg #[.string s, .int .i16 b, .int .i16 p]) ∧ Below w.heap.size w w' := by
  go_enter Try.func8, Try.ntmps8
  go_wp2_with fail
  refine (newKey_any s b p _).mono ?_
  rintro e w1 ⟨rfl, hb⟩
  obtain ⟨hc, hf⟩ := later_cell hb
  have hz : w.heap.size + 1 < w1.heap.size := by have := hb.size; simp at this; omega
  go_wp2
  refine bodyPost_ret (v := .agg #[.string s, .int .i16 b, .int .i16 p]) (by simp [results, Try.results8, go_sem, hc]) rfl ⟨rfl, ?_⟩
  have g : Below w.heap.size w w1 := (((Below.refl _ _).alloc (Nat.le_refl _) _).alloc (by simp) _).trans (hb.mono (by simp; omega))
  exact ((g.setCell (p := ⟨w.heap.size + 1, 0, none⟩) (Nat.le_succ _) _).setCell (p := ⟨w.heap.size + 1, 1, none⟩) (Nat.le_succ _) _).setCell (p := ⟨w.heap.size + 1, 2, none⟩) (Nat.le_succ _) _

set_option maxHeartbeats 400000 in
theorem clone_any (s : ByteArray) (w : World) (hs : s.size ≤ 1048576) : Calls Try.prog 13 #[.string s] w fun e w' => e = .returned (.string s) ∧ Below w.heap.size w w' := by
  go_enter Try.func13, Try.ntmps13
  go_wp2_with fail
  refine (Try.stringslite_Clone s _ (by omega)).mono ?_
  rintro e w1 ⟨rfl, hb⟩
  go_wp2
  go_ret
  exact ⟨rfl, hb⟩
end Go.Proofs.Qxb6628761a
