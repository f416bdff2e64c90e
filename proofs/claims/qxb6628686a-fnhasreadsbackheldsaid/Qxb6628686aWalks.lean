import Derived.Test.Qxb6628686aRows
import Derived.WalkKit
import Derived.WalkSpells
import Derived.WalkLawsBesides
import Derived.ProofKit
import Derived.Deep.QuietTactic
import Derived.BigQuiet
import Derived.Laws.Shifts
import Derived.Laws.ShiftsVarLaws
namespace Go.Proofs.Qxb6628686a
open Go.ChangeShapes Go.WideShapes Go.ChangeAt Go.RowKit

/-- the word with bit c alone (c from 64 on: no bit) -/
def sh1 (c : Int) : Int := IntKind.u64.wrap (1 * 2 ^ min c.toNat 64)

/-- what Has answers: is the message at or below the frontier, or is its bit set? -/
def hasB (fr he sq : Int) : Bool := if sq ≤ fr then true else bits .and .u64 he (sh1 (sq - fr - 1)) != 0

theorem ret_bool {a b : Bool} (h : a = b) : Ending.returned (.bool a) = .returned (.bool b) := by rw [h]

set_option maxHeartbeats 400000 in
theorem has_any (so ru fr ke he sq : Int) (w : World) (h0 : 0 ≤ fr) (h1 : fr ≤ 4294967295) (h2 : 0 ≤ sq) (h3 : sq ≤ 4294967295) :
    Calls Try.prog 5 #[.agg #[.int .u16 so, .int .u32 ru, .int .u32 fr, .int .u32 ke, .int .u64 he], .int .u32 sq] w fun e w' => e = .returned (.bool (hasB fr he sq)) ∧ Below w.heap.size w w' := by
  by_cases hl : sq ≤ fr
  · go_enter Try.func5, Try.ntmps5
    go_wp2
    go_ret
    exact ⟨ret_bool (by unfold hasB; rw [if_pos hl]), (Below.refl _ _).alloc (Nat.le_refl _) _⟩
  · have hsh : Op.shift .shl .u64 1 .u32 (sq - fr - 1) = pure (.int .u64 (sh1 (sq - fr - 1))) := shift_shl_any _ _ _ _ (by omega)
    have hfin : (bits .and .u64 he (sh1 (sq - fr - 1)) != 0) = hasB fr he sq := by unfold hasB; rw [if_neg hl]
    have HF : Hid ((bits .and .u64 he (sh1 (sq - fr - 1)) != 0) = hasB fr he sq) := hfin
    clear hfin
    go_enter Try.func5, Try.ntmps5
    go_wp2
    go_ret
    exact ⟨ret_bool HF.out, (Below.refl _ _).alloc (Nat.le_refl _) _⟩
end Go.Proofs.Qxb6628686a
