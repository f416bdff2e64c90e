import Derived.Test.Qxb6628761aNumO
namespace Go.Proofs.Qxb6628761a
open Go.ChangeShapes Go.WideShapes Go.ChangeAt Go.RowKit

theorem set_rep (n i : Nat) (z : Value) : (Array.replicate n z).setIfInBounds i z = Array.replicate n z := by
  apply Array.ext
  · simp
  · intro k h1 h2
    simp

theorem fold_rep (n off : Nat) (z : Value) : ∀ l : List (Value × Nat), (∀ x ∈ l, x.1 = z) → l.foldl (fun cs x => cs.setIfInBounds (off + x.2) x.1) (Array.replicate n z) = Array.replicate n z
  | [], _ => rfl
  | x :: l, h => by
    rw [List.foldl_cons, h x (by simp), set_rep]
    exact fold_rep n off z l (fun y hy => h y (by simp [hy]))

theorem range_rep (n : Nat) (z : Value) (hn : 0 < n) : (Array.range n).map (fun i => (Array.replicate n z)[i % (Array.replicate n z).size]!) = Array.replicate n z := by
  apply Array.ext
  · simp
  · intro k h1 h2
    simp only [Array.getElem_map, Array.getElem_range, Array.size_replicate, Array.getElem_replicate]
    have hk : k % n < n := Nat.mod_lt _ hn
    rw [getElem!_pos _ _ (by simpa using hk)]
    simp

theorem fill_rep (n : Nat) (z : Value) : Instr.fill (fun i => some (i * n, n)) (Array.replicate n z) [(0, .agg (Array.replicate n z))] = some (Array.replicate n z) := by
  have hc : (Value.agg (Array.replicate n z)).cells = Array.replicate n z := rfl
  unfold Instr.fill
  simp only [hc, Array.size_replicate, Nat.zero_mul, Nat.zero_add]
  rw [if_neg (by simp)]
  unfold Instr.fill
  congr 1
  rw [← Array.foldl_toList]
  have h := fold_rep n 0 z (Array.replicate n z).zipIdx.toList (fun x hx => by
    rw [Array.toList_zipIdx] at hx
    have h1 := List.fst_mem_of_mem_zipIdx hx
    simp at h1
    exact h1.2)
  simp only [Nat.zero_add] at h
  exact h

theorem run_bs_gen {P : Program} (t e n : Nat) (z : Value) (w : World) (hu : P.underlying t = some (.slice e)) (hs : (sizeOf e).run P w = .ok n w) (hz : (zeroValue e).run P w = .ok (.agg (Array.replicate n z)) w) (hn : 0 < n) (hn2 : n ≤ 16777216) :
    (Instr.buildSlice t 1 #[(0, .agg (Array.replicate n z))]).run P w = .ok (.slice (some ⟨w.heap.size, 0, none⟩) 1 1) (w.alloc (.cells (Array.replicate n z) e)) := by
  have hc : (Value.agg (Array.replicate n z)).cells = Array.replicate n z := rfl
  have h1 : (underlying t).run P w = .ok (.slice e) w := run_underlying hu w
  have h2 : ¬ 1 * n > 2 ^ 24 := by omega
  have h3 : ¬ 1 * n = 0 := by omega
  simp only [Instr.buildSlice, Sem.run_bind, h1, Result.andThen, hs, if_neg h2, if_neg h3, hz, hc, Sem.run_pure]
  rw [Nat.one_mul, range_rep n z hn, fill_rep]
  simp [newRow]

theorem wpList_bs_gen {P : Program} (t e n : Nat) (z : Value) (w : World) (hu : P.underlying t = some (.slice e)) (hs : (sizeOf e).run P w = .ok n w) (hz : (zeroValue e).run P w = .ok (.agg (Array.replicate n z)) w) (hn : 0 < n) (hn2 : n ≤ 16777216)
    {ops : Array Oper} {rest : List Oper} {o : Oper} {a : Act} {Q : Exit → Act → World → Prop} (hg : o.guard = none) (x : Operand) (hop : o.op = Op.buildSlice t 1 #[(0, x)]) (hx : a.eval x = .agg (Array.replicate n z))
    (hK : wpList P ops Q rest (a.put o.dst (.slice (some ⟨w.heap.size, 0, none⟩) 1 1)) (w.alloc (.cells (Array.replicate n z) e))) : wpList P ops Q (o :: rest) a w := by
  refine wpList_plain hg fun K' hK' => ?_
  unfold Oper.wp
  have he : execOp a.eval o = (do pure (.value (← Instr.buildSlice t 1 #[(0, .agg (Array.replicate n z))]))) := by
    unfold execOp
    rw [hop]
    simp [hx]
  rw [he]
  simp only [Sem.run_bind, run_bs_gen t e n z w hu hs hz hn hn2, Result.andThen, Sem.run_pure]
  exact hK' _ _ hK

/-- a thousand zeros -/
def Z : Array Value := Array.replicate 1000 (.int .i32 0)
theorem Z_def : Z = Array.replicate 1000 (.int .i32 0) := rfl
theorem Z_size : Z.size = 1000 := by rw [Z_def, Array.size_replicate]
theorem Z_at (i : Nat) (h : i < 1000) : Z[i]? = some (.int .i32 0) := by rw [Z_def, Array.getElem?_replicate, if_pos h]

theorem zero47 (w : World) : (zeroValue 47).run Try.prog w = .ok (.agg Z) w := by kernel_rfl
theorem size47 (w : World) : (sizeOf 47).run Try.prog w = .ok 1000 w := by kernel_rfl

theorem run_bz_gen {P : Program} (t l e n : Nat) (Y : Array Value) (w : World) (hu : P.underlying t = some (.array l e)) (hs : (sizeOf e).run P w = .ok n w) (hz : (zeroValue t).run P w = .ok (.agg Y) w) :
    (Instr.build t #[]).run P w = .ok (.agg Y) w := by
  have hc : (Value.agg Y).cells = Y := rfl
  have h1 : (underlying t).run P w = .ok (.array l e) w := run_underlying hu w
  simp only [Instr.build, Sem.run_bind, h1, Result.andThen, hs, hz, hc, Instr.fill, Sem.run_pure]

theorem wpList_bz (w : World) {ops : Array Oper} {rest : List Oper} {o : Oper} {a : Act} {Q : Exit → Act → World → Prop} (hg : o.guard = none) (hop : o.op = Op.build 47 #[])
    (hK : wpList Try.prog ops Q rest (a.put o.dst (.agg Z)) w) : wpList Try.prog ops Q (o :: rest) a w := by
  refine wpList_plain hg fun K' hK' => ?_
  unfold Oper.wp
  have he : execOp a.eval o = (do pure (.value (← Instr.build 47 #[]))) := by
    unfold execOp
    rw [hop]
    simp
  rw [he]
  simp only [Sem.run_bind, run_bz_gen 47 1000 21 1 Z w Try.underlying47 (Try.sizeOf21 w) (zero47 w), Result.andThen, Sem.run_pure]
  exact hK' _ _ hK

theorem wpList_bs (w : World) {ops : Array Oper} {rest : List Oper} {o : Oper} {a : Act} {Q : Exit → Act → World → Prop} (hg : o.guard = none) (x : Operand) (hop : o.op = Op.buildSlice 30 1 #[(0, x)]) (hx : a.eval x = .agg Z)
    (hK : wpList Try.prog ops Q rest (a.put o.dst (.slice (some ⟨w.heap.size, 0, none⟩) 1 1)) (w.alloc (.cells Z 47))) : wpList Try.prog ops Q (o :: rest) a w := by
  rw [Z_def] at hx hK
  exact wpList_bs_gen 30 47 1000 (.int .i32 0) w Try.underlying30 (size47 w) (by rw [← Z_def]; exact zero47 w) (by omega) (by omega) hg x hop hx hK
end Go.Proofs.Qxb6628761a
