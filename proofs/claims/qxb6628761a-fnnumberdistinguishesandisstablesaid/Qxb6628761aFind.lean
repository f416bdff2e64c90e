import Derived.Test.Qxb6628761aKeys
import Derived.Maps.OwnSet
namespace Go.Proofs.Qxb6628761a
open Go.ChangeShapes Go.WideShapes Go.ChangeAt Go.RowKit

set_option maxHeartbeats 1000000 in
theorem find_oth (b : Nat) (s : ByteArray) (p : Int) (mo : Option Nat) (v : Int) (ok : Bool) (w : World) (hb : b < w.heap.size) (c3 : w.cell? ⟨b, 3, none⟩ = some (.map mo))
    (hlk : ∀ nq o, (Instr.lookup 31 (.map mo) (.string s) true).run Try.prog ((w.alloc o).drewN nq) = .ok (.tuple #[.int .i32 v, .bool ok]) ((w.alloc o).drewN nq)) :
    Calls Try.prog 9 #[.pointer (some ⟨b, 0, none⟩), .agg #[.string s, .int .i16 0, .int .i16 p]] w fun e w' => e = .returned (.tuple #[.int .i32 v, .bool ok]) ∧ Below w.heap.size w w' := by
  go_enter Try.func9, Try.ntmps9
  go_wp2
  go_quiet (fail)
  go_wp2
  go_ret2
  exact ⟨rfl, below_drewN ((Below.refl _ _).alloc (Nat.le_refl _) _) _⟩

theorem eql29 (w : World) (a : Option Addr) (n c : Nat) : (binOp .eql 29 (.slice a n c) (.slice none 0 0)).run Try.prog w = .ok (.bool a.isNone) w := Lib.run_eql_slice_nil w 29 21 a n c 0 0 Try.underlying29

set_option maxHeartbeats 1000000 in
theorem find_nil (b : Nat) (s : ByteArray) (bk p : Int) (w : World) (hb : b < w.heap.size) (hbk : 1 ≤ bk) (hbk2 : bk ≤ 3000) (c1 : w.cell? ⟨b, 1, none⟩ = some (.slice none 0 0)) :
    Calls Try.prog 9 #[.pointer (some ⟨b, 0, none⟩), .agg #[.string s, .int .i16 bk, .int .i16 p]] w fun e w' => e = .returned (.tuple #[.int .i32 0, .bool false]) ∧ Below w.heap.size w w' := by
  have q0 : (bk == 0) = false := by simp; omega
  have qs := eql29
  go_enter Try.func9, Try.ntmps9
  go_wp2
  go_ret2
  exact ⟨rfl, (Below.refl _ _).alloc (Nat.le_refl _) _⟩

set_option maxHeartbeats 1000000 in
theorem find_zero (b : Nat) (s : ByteArray) (bk : Nat) (p : Int) (g : Nat) (w : World) (hb : b < w.heap.size) (hg : g < w.heap.size) (hbk2 : bk < 3000) (c1 : w.cell? ⟨b, 1, none⟩ = some (.slice (some ⟨g, 0, none⟩) 3000 3000))
    (d : w.cell? ⟨g, bk, none⟩ = some (.int .i32 0)) :
    Calls Try.prog 9 #[.pointer (some ⟨b, 0, none⟩), .agg #[.string s, .int .i16 (bk + 1), .int .i16 p]] w fun e w' => e = .returned (.tuple #[.int .i32 0, .bool false]) ∧ Below w.heap.size w w' := by
  have q0 : (((bk : Int) + 1) == 0) = false := by simp; omega
  have qs := eql29
  go_enter Try.func9, Try.ntmps9
  go_wp2
  go_quiet (fail)
  go_wp2
  go_ret2
  exact ⟨rfl, below_drewN ((Below.refl _ _).alloc (Nat.le_refl _) _) _⟩

set_option maxHeartbeats 1000000 in
theorem find_blk (b : Nat) (s : ByteArray) (bk p : Nat) (g h j nb cap q : Nat) (w : World) (hb : b < w.heap.size) (hg : g < w.heap.size) (hh : h < w.heap.size) (hbk2 : bk < 3000) (hp : p < 1000) (hj : j < nb) (hnb : nb ≤ 1000000) (hq : q ≤ 2000000)
    (c1 : w.cell? ⟨b, 1, none⟩ = some (.slice (some ⟨g, 0, none⟩) 3000 3000)) (c2 : w.cell? ⟨b, 2, none⟩ = some (.slice (some ⟨h, 0, none⟩) nb cap))
    (d : w.cell? ⟨g, bk, none⟩ = some (.int .i32 ((j : Int) + 1))) (d2 : w.cell? ⟨h, j * 1000 + p, none⟩ = some (.int .i32 q)) :
    Calls Try.prog 9 #[.pointer (some ⟨b, 0, none⟩), .agg #[.string s, .int .i16 (bk + 1), .int .i16 p]] w fun e w' => e = .returned (.tuple #[.int .i32 ((q : Int) - 1), .bool ((q : Int) != 0)]) ∧ Below w.heap.size w w' := by
  have q0 : (((bk : Int) + 1) == 0) = false := by simp; omega
  have qs := eql29
  have q1 : (((j : Int) + 1) == 0) = false := by simp; omega
  go_enter Try.func9, Try.ntmps9
  go_wp2
  go_quiet (fail)
  go_wp2
  go_quiet (fail)
  go_wp2
  go_ret2
  exact ⟨rfl, below_drewN ((Below.refl _ _).alloc (Nat.le_refl _) _) _⟩
end Go.Proofs.Qxb6628761a
