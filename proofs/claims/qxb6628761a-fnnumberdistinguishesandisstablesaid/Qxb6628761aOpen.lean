import Derived.Test.Qxb6628761aKeys
import Derived.Deep.Strs
import Derived.Lib.SmallJoins
namespace Go.Proofs.Qxb6628761a
open Go.ChangeShapes Go.WideShapes Go.ChangeAt Go.RowKit Go.Deep

/-- the two kinds of a key's fields -/
theorem cells9 : Try.prog.cellsOf 9 = 1 := by kernel_rfl
theorem cells24 : Try.prog.cellsOf 24 = 1 := by kernel_rfl

theorem cell_spot {w : World} {a : Addr} {v : Value} (h : w.cell? a = some v) : a = ⟨a.block, a.off, none⟩ ∧ a.block < w.heap.size := by
  obtain ⟨b, o, sp⟩ := a
  unfold World.cell? at h
  cases hh : w.heap[b]? with
  | none => simp [hh] at h
  | some ob =>
    refine ⟨?_, (Array.getElem?_eq_some_iff.1 hh).1⟩
    cases sp with
    | none => rfl
    | some x => cases ob <;> simp [hh] at h

theorem open_keys {H : Type} {enc : TypeId × Value → H} {W : World} {fuel : Nat} {a : Option Addr} {len cap : Nat} {x : DataW H × List MemPlace}
    (h : DataW.trod enc Try.prog W 0 (fun _ => true) true fuel 22 [.slice a len cap] = some x) : ∃ S Bk Pl, KeysAt W a len cap S Bk Pl := by
  rcases open_slice Try.underlying22 h with ⟨hcs, _⟩ | ⟨q, l, c, m, n, D, Ps, hcs, _, hl, hm, hmm, _, hx⟩
  · simp only [List.cons.injEq, Value.slice.injEq, and_true] at hcs
    obtain ⟨rfl, rfl, rfl⟩ := hcs
    exact ⟨fun _ => ByteArray.empty, fun _ => 0, fun _ => 0, Nat.le_refl _, Nat.zero_le _, 0, 0, fun h => absurd h (Nat.lt_irrefl _), fun i hi => absurd hi (Nat.not_lt_zero _)⟩
  · simp only [List.cons.injEq, Value.slice.injEq, and_true] at hcs
    obtain ⟨rfl, rfl, rfl⟩ := hcs
    have hmc : m = cap := by simpa using hmm
    subst hmc
    rw [Try.cells26] at hx
    have hall : ∀ i, i < len → ∃ y : ByteArray × Int × Int, W.cell? (q.add (i * 3)) = some (.string y.1) ∧ W.cell? ((q.add (i * 3)).add 1) = some (.int .i16 y.2.1) ∧ W.cell? ((q.add (i * 3)).add 2) = some (.int .i16 y.2.2) ∧
        y.1.size ≤ maxLen ∧ (Lit.int .i16 y.2.1).wf = true ∧ (Lit.int .i16 y.2.2).wf = true := by
      intro i hi
      obtain ⟨cs', h1, h2⟩ := hx i (by omega)
      obtain ⟨_, hlen, hcell⟩ := World.cells?_some h1
      match cs', hlen with
      | [v0, v1, v2], _ =>
        obtain ⟨y0, y1, y2, n', _, _, t0, t1, t2⟩ := trod_struct3 Try.underlying26 h2
        obtain ⟨s, e0, _, hs⟩ := DataW.trod_string Try.underlying9 t0
        obtain ⟨b, e1, _, hb⟩ := DataW.trod_int Try.underlying24 t1
        obtain ⟨p, e2, _, hp⟩ := DataW.trod_int Try.underlying24 t2
        simp [cells9] at e0
        simp [cells24] at e1
        simp [cells24] at e2
        have k0 := hcell 0 (by omega)
        have k1 := hcell 1 (by omega)
        have k2 := hcell 2 (by omega)
        rw [show ((q.add (i * 3)).add 0) = q.add (i * 3) from by simp [Addr.add]] at k0
        exact ⟨(s, b, p), by rw [k0, e0]; rfl, by rw [k1, e1]; rfl, by rw [k2, e2]; rfl, hs, hb, hp⟩
    obtain ⟨Y, hY⟩ := choose_lt hall
    refine ⟨fun i => (Y i).1, fun i => (Y i).2.1, fun i => (Y i).2.2, hl, hm, q.block, q.off, fun h0 => ?_, fun i hi => ?_⟩
    · have := (hY 0 h0).1
      simp only [Nat.zero_mul] at this
      rw [show q.add 0 = q from by simp [Addr.add]] at this
      obtain ⟨e, hlt⟩ := cell_spot this
      exact ⟨by rw [← e], hlt⟩
    · have hq : q = ⟨q.block, q.off, none⟩ := by
        have := (hY 0 (by omega)).1
        simp only [Nat.zero_mul] at this
        rw [show q.add 0 = q from by simp [Addr.add]] at this
        exact (cell_spot this).1
      have ha : ∀ k, q.add k = ⟨q.block, q.off + k, none⟩ := by
        intro k
        rw [hq]
        unfold Addr.add
        split
        · rename_i h; subst h; rfl
        · rfl
      have ha2 : ∀ (o k : Nat), (Addr.mk q.block o none).add k = ⟨q.block, o + k, none⟩ := by
        intro o k
        unfold Addr.add
        split
        · rename_i h; subst h; rfl
        · rfl
      have := hY i hi
      rw [ha, ha2, ha2] at this
      exact this
end Go.Proofs.Qxb6628761a
