import Derived.Test.Qxb6628761aWalks
namespace Go.Proofs.Qxb6628761a
open Go.ChangeShapes Go.WideShapes Go.ChangeAt Go.RowKit

/-- the slice of keys that came in: S, Bk, Pl: the symbols, blocks, places -/
def KeysAt (w : World) (a : Option Addr) (len cap : Nat) (S : Nat → ByteArray) (Bk Pl : Nat → Int) : Prop :=
  len ≤ cap ∧ cap ≤ maxLen ∧ ∃ kb ko, (0 < len → a = some ⟨kb, ko, none⟩ ∧ kb < w.heap.size) ∧ ∀ i, i < len →
    w.cell? ⟨kb, ko + i * 3, none⟩ = some (.string (S i)) ∧ w.cell? ⟨kb, ko + i * 3 + 1, none⟩ = some (.int .i16 (Bk i)) ∧ w.cell? ⟨kb, ko + i * 3 + 2, none⟩ = some (.int .i16 (Pl i)) ∧
    (S i).size ≤ maxLen ∧ (Lit.int .i16 (Bk i)).wf = true ∧ (Lit.int .i16 (Pl i)).wf = true

theorem Try.cells26 : Try.prog.cellsOf 26 = 3 := by kernel_rfl

/-- what a round is told of its key: at the address q -/
theorem KeysAt.at {w wr : World} {a : Option Addr} {len cap : Nat} {S : Nat → ByteArray} {Bk Pl : Nat → Int} (h : KeysAt w a len cap S Bk Pl) (hb : Below w.heap.size w wr) {i : Nat} (hi : i < len) :
    ∃ kb o, (∀ wx, (Instr.indexAt 22 (.slice a len cap) (.int .i64 (i : Int))).run Try.prog wx = .ok (.pointer (some ⟨kb, o, none⟩)) wx) ∧ kb < w.heap.size ∧
      wr.cell? ⟨kb, o, none⟩ = some (.string (S i)) ∧ wr.cell? ⟨kb, o + 1, none⟩ = some (.int .i16 (Bk i)) ∧ wr.cell? ⟨kb, o + 2, none⟩ = some (.int .i16 (Pl i)) ∧
      (S i).size ≤ maxLen ∧ (Lit.int .i16 (Bk i)).wf = true ∧ (Lit.int .i16 (Pl i)).wf = true := by
  obtain ⟨hl, hm, kb, ko, h1, h2⟩ := h
  obtain ⟨rfl, hlt⟩ := h1 (by omega)
  obtain ⟨c0, c1, c2, r⟩ := h2 i hi
  refine ⟨kb, ko + i * 3, fun wx => ?_, hlt, ?_, ?_, ?_, r⟩
  · rw [run_indexAt_slice wx 22 ⟨kb, ko, none⟩ len cap .i64 (i : Int) (by simp only [Program.elem, Try.underlying22]), if_pos ⟨by omega, by omega⟩]
    simp [go_sem]
  · rw [hb.cell hlt]; exact c0
  · rw [hb.cell hlt]; exact c1
  · rw [hb.cell hlt]; exact c2

/-- it answers one way or the other; a yes says P; nothing is written -/
def SomeBool (P : Prop) (w : World) (e : Ending) (w' : World) : Prop := ∃ b, e = .returned (.bool b) ∧ (b = true → P) ∧ Below w.heap.size w w'
def Small (S : Nat → ByteArray) (n : Nat) : Prop := ∀ j, j < n → (S j).size ≤ 1048576
def SmallB (S : Nat → ByteArray) (n : Nat) (ps : ByteArray) : Prop := Small S n ∧ ps.size ≤ 1048576
theorem Small.step {S : Nat → ByteArray} {k : Nat} (h : Small S k) (hk : (S k).size ≤ 1048576) : Small S (k + 1) := fun j hj => by
  by_cases e : j = k
  · rw [e]; exact hk
  · exact h j (by omega)

set_option maxHeartbeats 1000000 in
theorem bytesA_any (a : Option Addr) (len cap : Nat) (S : Nat → ByteArray) (Bk Pl : Nat → Int) (w : World) (h : KeysAt w a len cap S Bk Pl) :
    Calls Try.prog 5 #[.slice a len cap] w fun e w' => SomeBool (Small S len) w e w' := by
  have HK := hide h
  have hlc : len ≤ 9223372036854775807 := by have := h.1; have := h.2.1; unfold maxLen at *; omega
  clear h
  by_cases h1 : len ≤ 1048576
  · go_enter Try.func5, Try.ntmps5
    go_wp2
    go_loop [3, 4] (fun z v => ∃ k : Nat, k ≤ len ∧ v = .int .i64 k ∧ Hid (Small S k) ∧ ∃ n : Nat, n ≤ 1048576 ∧ z = .int .i64 n) (fun _ v => len - (intOf v).toNat)
    case atStart => exact ⟨0, Nat.zero_le _, rfl, fun j hj => by omega, len, h1, rfl⟩
    case round =>
      obtain ⟨k, hk, rfl, hS, n, hn, rfl⟩ := hrel
      by_cases hlt : k < len
      · obtain ⟨kb, o, hix, hkb, c0, _, _, hsz, _⟩ := HK.out.at (Below.refl _ _) hlt
        obtain ⟨s, hs⟩ : ∃ s, S k = s := ⟨_, rfl⟩
        rw [hs] at c0 hsz
        have HS := hide hs
        clear hs
        unfold maxLen at hsz
        by_cases h2 : s.size ≤ 1048576
        · by_cases h3 : n + s.size ≤ 1048576
          · go_wp2
            go_round
            case rel => exact ⟨k + 1, by omega, by go_num, hS.out.step (by rw [HS.out]; exact h2), n + s.size, h3, by go_num⟩
            case measure => simp [intOf]; omega
          · go_wp2
            go_ret
            exact ⟨false, rfl, (fun h => nomatch h), Below.refl _ _⟩
        · go_wp2
          go_ret
          exact ⟨false, rfl, (fun h => nomatch h), Below.refl _ _⟩
      · go_wp2
        go_ret
        exact ⟨true, rfl, (fun _ j hj => hS.out j (by omega)), Below.refl _ _⟩
  · go_enter Try.func5, Try.ntmps5
    go_wp2
    go_ret
    exact ⟨false, rfl, (fun h => nomatch h), Below.refl _ _⟩

set_option maxHeartbeats 1000000 in
theorem bytesB_any (a : Option Addr) (len cap : Nat) (S : Nat → ByteArray) (Bk Pl : Nat → Int) (ps : ByteArray) (pb pp : Int) (w : World) (h : KeysAt w a len cap S Bk Pl) (hps : ps.size ≤ maxLen) :
    Calls Try.prog 11 #[.slice a len cap, .agg #[.string ps, .int .i16 pb, .int .i16 pp]] w fun e w' => SomeBool (SmallB S len ps) w e w' := by
  have HK := hide h
  have hlc : len ≤ 9223372036854775807 := by have := h.1; have := h.2.1; unfold maxLen at *; omega
  clear h
  unfold maxLen at hps
  have B1 : ∀ o, Below w.heap.size w (w.alloc o) := fun o => (Below.refl _ _).alloc (Nat.le_refl _) _
  have HB := hide B1
  clear B1
  by_cases h1 : len ≤ 1048576
  · go_enter Try.func11, Try.ntmps11
    go_wp2
    go_loop [5, 6] (fun z v => ∃ k : Nat, k ≤ len ∧ v = .int .i64 k ∧ Hid (Small S k) ∧ ∃ n : Nat, n ≤ 1048576 ∧ z = .int .i64 n) (fun _ v => len - (intOf v).toNat)
    case atStart => exact ⟨0, Nat.zero_le _, rfl, fun j hj => by omega, len, h1, rfl⟩
    case round =>
      obtain ⟨k, hk, rfl, hS, n, hn, rfl⟩ := hrel
      by_cases hlt : k < len
      · obtain ⟨kb, o, hix, hkb, c0, _, _, hsz, _⟩ := HK.out.at (Below.refl _ _) hlt
        obtain ⟨s, hs⟩ : ∃ s, S k = s := ⟨_, rfl⟩
        rw [hs] at c0 hsz
        have HS := hide hs
        clear hs
        unfold maxLen at hsz
        by_cases h2 : s.size ≤ 1048576
        · by_cases h3 : n + s.size ≤ 1048576
          · go_wp2
            go_round
            case rel => exact ⟨k + 1, by omega, by go_num, hS.out.step (by rw [HS.out]; exact h2), n + s.size, h3, by go_num⟩
            case measure => simp [intOf]; omega
          · go_wp2
            go_ret
            exact ⟨false, rfl, (fun h => nomatch h), HB.out _⟩
        · go_wp2
          go_ret
          exact ⟨false, rfl, (fun h => nomatch h), HB.out _⟩
      · by_cases h2 : ps.size ≤ 1048576
        · by_cases h3 : n + ps.size ≤ 1048576
          · go_wp2
            go_ret
            exact ⟨true, rfl, (fun _ => ⟨fun j hj => hS.out j (by omega), h2⟩), HB.out _⟩
          · go_wp2
            go_ret
            exact ⟨false, rfl, (fun h => nomatch h), HB.out _⟩
        · go_wp2
          go_ret
          exact ⟨false, rfl, (fun h => nomatch h), HB.out _⟩
  · go_enter Try.func11, Try.ntmps11
    go_wp2
    go_ret
    exact ⟨false, rfl, (fun h => nomatch h), HB.out _⟩
end Go.Proofs.Qxb6628761a
