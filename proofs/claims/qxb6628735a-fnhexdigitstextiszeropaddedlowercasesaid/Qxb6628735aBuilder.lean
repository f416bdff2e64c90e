import Derived.Test.Qxb6628735aUpper
import Derived.Test.Qxb6628735aShelf
import Derived.Lib.Builder
import Derived.Lib.OthersKept
namespace Go.Proofs.Qxb6628735a
open Go.ChangeShapes Go.WideShapes Go.ChangeAt Go.RowKit

/-- a builder in block b that has been written, holding the bytes bs -/
def Used (B b : Nat) (bs : List Value) (w : World) : Prop := Lib.BuilderAt 31 5 B b (.pointer (some ⟨b, 0, none⟩)) bs w

theorem Used.alloc {B b : Nat} {bs : List Value} {w : World} (h : Used B b bs w) (o : Obj) : Used B b bs (w.alloc o) := by
  have hlt := Lib.BuilderAt.lt h
  obtain ⟨hB, v, hb, hown, hne⟩ := h
  exact ⟨hB, v, by rw [Lib.alloc_old w o b hlt]; exact hb, hown.alloc o, hne⟩

theorem Used.drew {B b : Nat} {bs : List Value} {w : World} (h : Used B b bs w) : Used B b bs w.drew := h

/-- a store into a block that is neither the builder's nor a row of bytes -/
theorem Used.setCell {B b : Nat} {bs : List Value} {w : World} (h : Used B b bs w) {c n : Nat} {f : Nat → Value} (hrow : w.rowIs c 36 n f) (i : Nat) (u : Value) : Used B b bs (w.setCell ⟨c, i, none⟩ u) := by
  obtain ⟨hB, v, hb, hown, hne⟩ := h
  obtain ⟨cs, hc, _⟩ := hrow
  have hcb : b ≠ c := by
    intro e; subst e; rw [hb] at hc
    simp only [Option.some.injEq, Obj.cells.injEq] at hc
    exact absurd hc.2.1 (by decide)
  have hcv : v.ownBlock ≠ some c := Lib.ownBlock_ne hown hc (by decide)
  refine ⟨hB, v, by rw [Below.heap_setCell _ _ _ _ hcb]; exact hb, ?_, hne⟩
  exact hown.kept (row := some c) ⟨rfl, rfl, rfl, by simp [World.setCell], fun k _ hk => Below.heap_setCell _ _ _ _ (fun e => hk (by simp [e]))⟩ (Or.inr hcv)

set_option maxHeartbeats 1000000 in
theorem copyCheck_used (b : Nat) (w : World) (h0 : w.cell? ⟨b, 0, none⟩ = some (.pointer (some ⟨b, 0, none⟩))) :
    Calls Try.prog 19 #[.pointer (some ⟨b, 0, none⟩)] w fun e w' => e = .returned (.tuple #[]) ∧ w' = w := by
  obtain ⟨j, hj, _⟩ := Option.map_eq_some_iff.1 Try.Builder_Extra_165.sizeBuilder
  go_enter Try.func19, Try.ntmps19
  go_wp2
  rw [Lib.run_neq_ptr_same w _ Try.underlying29 hj]
  go_wp2
  go_end0
  exact ⟨rfl, rfl⟩

set_option maxHeartbeats 2000000 in
theorem writeByte_used (B b : Nat) (bs : List Value) (c : Int) (w : World) (h : Used B b bs w) (hlen : bs.length + 1 ≤ 140737488355328) (hBw : B ≤ w.heap.size) :
    Calls Try.prog 16 #[.pointer (some ⟨b, 0, none⟩), .int .u8 c] w fun e w' => e = .returned .nilIface ∧ Used B b (bs ++ [.int .u8 c]) w' ∧ Below B w w' := by
  obtain ⟨i0, hi, hz0, hz1, hz2⟩ := info_parts Try.info5
  have hc0 := Lib.BuilderAt.cell0 h
  have hlt := Lib.BuilderAt.lt h
  obtain ⟨hB, v, hbk, hown, hne⟩ := h
  have c1 : w.cell? ⟨b, 1, none⟩ = some v := by rw [Lib.cell_of_heap hbk]; rfl
  go_enter Try.func16, Try.ntmps16
  go_wp2_with (go_at_call 19; refine (copyCheck_used b _ hc0).mono ?_)
  rintro e w1 ⟨rfl, rfl⟩
  go_wp2_with (at_builtin; refine wpList_append_own _ rfl _ _ 28 rfl B 5 i0 (.int .u8 0) 1 1 Try.underlying28 hi hz0 hz1 hz2 rfl (by decide) _ _ _ rfl (hown.alloc _) ⟨w1.heap.size, 0, none⟩ 1 1 [.int .u8 c] rfl rfl ?c1 ?c2 ?c3 ?c4 ?c5 ?_)
  case c1 =>
    intro j u hj
    match j, hj with
    | 0, hj => simp at hj; subst hj; simp [Addr.add]
  case c2 => intro u hu; simp at hu; subst hu; rfl
  case c3 => unfold maxLen; omega
  case c4 => omega
  case c5 => simp; omega
  intro v' w2 hown' hgrow _
  have hb2 : w2.heap[b]? = some (.cells #[.pointer (some ⟨b, 0, none⟩), v] 31 (0, 0)) := by
    rw [hgrow.block b (by simp; omega) (fun e => hne e.symm), Lib.alloc_old w1 _ b hlt]
    exact hbk
  have d0 : w2.cell? ⟨b, 0, none⟩ = some (.pointer (some ⟨b, 0, none⟩)) := by rw [Lib.cell_of_heap hb2]; rfl
  have d1 : w2.cell? ⟨b, 1, none⟩ = some v := by rw [Lib.cell_of_heap hb2]; rfl
  have f1 : w2.frozen? ⟨b, 1, none⟩ = false := Lib.frozen_of_heap hb2 1
  obtain ⟨g, cap, rfl⟩ : ∃ g cap, v' = .slice (some ⟨g, 0, none⟩) (bs.length + 1) cap := by
    rcases hown'.2 with ⟨_, h0⟩ | ⟨g, cap, cur, hv, _⟩
    · omega
    · exact ⟨g, cap, hv⟩
  go_wp2
  go_ret
  refine ⟨rfl, ?_, ?_⟩
  · exact Lib.BuilderAt.put (T := 31) (e := 5) hB hb2 (bs' := bs ++ [.int .u8 c]) (by simpa using hown') (by decide)
  · exact (((Below.refl B w1).alloc hBw _).grown hgrow (by simp; omega) (fun k hk => (hown.lt k hk).1)).setCell (p := ⟨b, 1, none⟩) hB _

set_option maxHeartbeats 2000000 in
/-- Write of the first m cells of the array in block c -/
theorem write_used (B b : Nat) (bs : List Value) (c m : Nat) (f : Nat → Value) (news : List Value) (w : World) (h : Used B b bs w) (hrow : w.rowIs c 36 64 f)
    (hl : news.length = m) (hm : m ≤ 64) (hnews : ∀ j, j < m → news[j]? = some (f j)) (h1 : ∀ u ∈ news, u.oneCell' = true) (hlen : bs.length + m ≤ 140737488355328) (hBw : B ≤ w.heap.size) :
    Calls Try.prog 17 #[.pointer (some ⟨b, 0, none⟩), .slice (some ⟨c, 0, none⟩) m 64] w fun e w' => e = .returned (.tuple #[.int .i64 m, .nilIface]) ∧ Used B b (bs ++ news) w' ∧ Below B w w' ∧ w'.rowIs c 36 64 f := by
  obtain ⟨i0, hi, hz0, hz1, hz2⟩ := info_parts Try.info5
  have hc0 := Lib.BuilderAt.cell0 h
  have hlt := Lib.BuilderAt.lt h
  have hclt := hrow.lt
  obtain ⟨hB, v, hbk, hown, hne⟩ := h
  have hcc : ∀ j u, news[j]? = some u → w.cell? ((⟨c, 0, none⟩ : Addr).add j) = some u := fun j u hj => by
    have hjm : j < m := by
      rcases Nat.lt_or_ge j m with h | h
      · exact h
      · rw [List.getElem?_eq_none (by omega)] at hj; cases hj
    have e1 : (⟨c, 0, none⟩ : Addr).add j = ⟨c, j, none⟩ := by unfold Addr.add; split <;> simp_all
    rw [e1, hrow.cell (by omega), ← hnews j hjm, hj]
  have HC := hide hcc
  have HN := hide hnews
  have HR := hide hrow
  obtain ⟨cs, hcb, _⟩ := hrow
  have hcv : v.ownBlock ≠ some c := Lib.ownBlock_ne hown hcb (by decide)
  have hbc : c ≠ b := by
    intro e; subst e; rw [hbk] at hcb
    simp only [Option.some.injEq, Obj.cells.injEq] at hcb
    exact absurd hcb.2.1 (by decide)
  have c1 : w.cell? ⟨b, 1, none⟩ = some v := by rw [Lib.cell_of_heap hbk]; rfl
  clear hcb hcc hnews
  go_enter Try.func17, Try.ntmps17
  go_wp2_with (go_at_call 19; refine (copyCheck_used b _ hc0).mono ?_)
  rintro e w1 ⟨rfl, rfl⟩
  go_wp2_with (at_builtin; refine wpList_append_own _ rfl _ _ 28 rfl B 5 i0 (.int .u8 0) 1 1 Try.underlying28 hi hz0 hz1 hz2 rfl (by decide) _ _ _ rfl hown ⟨c, 0, none⟩ m 64 news rfl (by omega) HC.out h1 ?c3 ?c4 ?c5 ?_)
  case c3 => unfold maxLen; omega
  case c4 => omega
  case c5 => omega
  intro v' w2 hown' hgrow _
  have hb2 : w2.heap[b]? = some (.cells #[.pointer (some ⟨b, 0, none⟩), v] 31 (0, 0)) := by
    rw [hgrow.block b hlt (fun e => hne e.symm)]
    exact hbk
  have HR2 : Hid (w2.rowIs c 36 64 f) := HR.out.of_block (hgrow.block c hclt (fun e => hcv e.symm))
  have d0 : w2.cell? ⟨b, 0, none⟩ = some (.pointer (some ⟨b, 0, none⟩)) := by rw [Lib.cell_of_heap hb2]; rfl
  have d1 : w2.cell? ⟨b, 1, none⟩ = some v := by rw [Lib.cell_of_heap hb2]; rfl
  have f1 : w2.frozen? ⟨b, 1, none⟩ = false := Lib.frozen_of_heap hb2 1
  obtain ⟨ao, n', cap, rfl⟩ : ∃ ao n' cap, v' = .slice ao n' cap := by
    rcases hown'.2 with ⟨hv, _⟩ | ⟨g, cap, cur, hv, _⟩
    · exact ⟨_, _, _, hv⟩
    · exact ⟨_, _, _, hv⟩
  go_wp2
  go_ret2
  refine ⟨rfl, ?_, ?_, ?_⟩
  · exact Lib.BuilderAt.put (T := 31) (e := 5) hB hb2 (bs' := bs ++ news) (by simpa [hl] using hown') (by decide)
  · exact ((Below.refl B w1).grown hgrow hBw (fun k hk => (hown.lt k hk).1)).setCell (p := ⟨b, 1, none⟩) hB _
  · exact HR2.out.setOther hbc _
end Go.Proofs.Qxb6628735a
