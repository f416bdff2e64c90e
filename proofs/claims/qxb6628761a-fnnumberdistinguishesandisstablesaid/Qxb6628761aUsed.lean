import Derived.Test.Qxb6628761aLawA
namespace Go.Proofs.Qxb6628761a
open Go.ChangeShapes Go.WideShapes Go.ChangeAt Go.RowKit Go.Maps

theorem law21 : Keyed Try.prog 21 := int_keyed Try.underlying21
theorem zero4 (w : World) : (zeroValue 4).run Try.prog w = .ok (.bool false) w := by kernel_rfl
theorem key21 (v : Nat) (hv : v ≤ 1000000) : keyOf Try.prog 21 (.int .i32 (v : Int)) = some (.int .i32 (v : Int)) := by
  simp [keyOf, Try.underlying21, mapKey]
  exact WalkArith.wf_i32 (by omega)

/-- the map of the numbers given: none from c on -/
def UsedAt (ub n c : Nat) (w : World) : Prop := ∃ D : DataW Unit, w.ownsMap Try.prog 21 (plainElem Try.prog 4) ub n D ∧ ∀ v : Nat, c ≤ v → Maps.has D (.int .i32 (v : Int)) = false
theorem UsedAt.lt {ub n c : Nat} {w : World} (h : UsedAt ub n c w) : ub < w.heap.size := by obtain ⟨D, h, _⟩ := h; exact h.lt
theorem UsedAt.of_block {ub n c : Nat} {w w' : World} (h : UsedAt ub n c w) (e : w'.heap[ub]? = w.heap[ub]?) : UsedAt ub n c w' := by
  obtain ⟨D, ⟨es, clock, hb, r⟩, t⟩ := h
  exact ⟨D, ⟨es, clock, e.trans hb, r⟩, t⟩
theorem UsedAt.made (w : World) : UsedAt w.heap.size 0 0 (w.alloc (.map #[] 0)) :=
  ⟨.map [], World.ownsMap_made _ _ _ _, fun _ _ => rfl⟩
theorem UsedAt.mono {ub n n' c : Nat} {w : World} (h : UsedAt ub n c w) (hn : n ≤ n') : UsedAt ub n' c w := by
  obtain ⟨D, h, t⟩ := h; exact ⟨D, h.mono hn, t⟩

section
variable (w : World) {ops : Array Oper} {rest : List Oper} {o : Oper} {a : Act} {Q : Exit → Act → World → Prop}

theorem wpList_used (hg : o.guard = none) (m x : Operand) (hop : o.op = Op.lookup 44 m x false) (ub n c : Nat) (hc : c ≤ 1000000) (hm : a.eval m = .map (some ub)) (hs : UsedAt ub n c w)
    (hx : a.eval x = .int .i32 c) (hK : wpList Try.prog ops Q rest (a.put o.dst (.bool false)) w) : wpList Try.prog ops Q (o :: rest) a w := by
  obtain ⟨D, hown, ht⟩ := hs
  refine wpList_plain hg fun K' hK' => ?_
  obtain ⟨v, ps, hrun, hv⟩ := hown.lookup law21 Try.underlying44 (zero4 w) (plainElem_bool Try.underlying4 false) (key21 c hc)
  rw [atKey_of_not_has (ht c (Nat.le_refl _))] at hv
  have : v = .bool false := by
    unfold plainElem at hv
    rw [Try.underlying4] at hv
    cases v <;> simp at hv
    obtain ⟨rfl, _⟩ := hv
    rfl
  subst this
  unfold Oper.wp
  simp [execOp, hop, hm, hx, hrun, Result.andThen]
  exact hK' _ _ hK

theorem wpList_used_put (hg : o.guard = none) (m x v : Operand) (hop : o.op = Op.mapUpdate 44 m x v) (ub n c : Nat) (hc : c ≤ 1000000) (hn : n ≤ 1000000) (hm : a.eval m = .map (some ub)) (hs : UsedAt ub n c w)
    (hx : a.eval x = .int .i32 c) (hv : a.eval v = .bool true)
    (hK : ∀ w', UsedAt ub (n + 1) (c + 1) w' → w.grownBy w' (some ub) → wpList Try.prog ops Q rest (a.put o.dst undef) w') : wpList Try.prog ops Q (o :: rest) a w := by
  obtain ⟨D, hown, ht⟩ := hs
  refine wpList_mapUpdate_own w hg m x v 44 hop 21 4 law21 Try.underlying44 (plainElem Try.prog 4) ub n D hm hown (by unfold maxLen; omega) _ _ _ hx hv (key21 c hc) (.lit (.bool true)) [] (plainElem_bool Try.underlying4 true) (fun w' h1 h2 => ?_)
  refine hK w' ⟨_, h1, fun u hu => ?_⟩ h2
  rw [has_put_other (by intro e; injection e with _ e; omega)]
  exact ht u (by omega)
end

/-- the slice of the numbers given -/
def RowAt (fb len : Nat) (V : Nat → Nat) (w : World) : Prop := w.rowIs fb 21 len (fun j => .int .i32 (V j : Int))

theorem SeenAt.bound {sb n c v : Nat} {f : ByteArray → Int → Int → Option Nat} {w : World} (h : SeenAt sb n f c w) {s : ByteArray} {b p : Int} (hi : IdOk s b p) (hv : f s b p = some v) : v < c := by
  obtain ⟨D, _, t⟩ := h
  rcases t s b p hi with ⟨h0, _⟩ | ⟨u, hu, h1, _⟩
  · rw [hv] at h0; cases h0
  · rw [hv] at h1; cases h1; exact hu

theorem KeysAt.later {w w' : World} {a : Option Addr} {len cap : Nat} {S : Nat → ByteArray} {Bk Pl : Nat → Int} (h : KeysAt w a len cap S Bk Pl) (hb : Below w.heap.size w w') : KeysAt w' a len cap S Bk Pl := by
  obtain ⟨hl, hm, kb, ko, h1, h2⟩ := h
  refine ⟨hl, hm, kb, ko, fun h => ⟨(h1 h).1, Nat.lt_of_lt_of_le (h1 h).2 hb.size⟩, fun i hi => ?_⟩
  have hlt := (h1 (by omega)).2
  obtain ⟨c0, c1, c2, r⟩ := h2 i hi
  exact ⟨by rw [hb.cell hlt]; exact c0, by rw [hb.cell hlt]; exact c1, by rw [hb.cell hlt]; exact c2, r⟩

/-- the first k have their numbers -/
def Given (S : Nat → ByteArray) (Bk Pl : Nat → Int) (f : ByteArray → Int → Int → Option Nat) (V : Nat → Nat) (k : Nat) : Prop := ∀ j, j < k → f (idS (S j) (Bk j)) (Bk j) (idP (Bk j) (Pl j)) = some (V j)

def updV (V : Nat → Nat) (i v : Nat) : Nat → Nat := fun j => if j = i then v else V j
theorem RowAt.set {fb len : Nat} {V : Nat → Nat} {w : World} (h : RowAt fb len V w) (i v : Nat) : RowAt fb len (updV V i v) (w.setCell ⟨fb, i, none⟩ (.int .i32 (v : Int))) := by
  refine (World.rowIs.set h i (.int .i32 (v : Int))).congr (fun j _ => ?_)
  unfold updV
  split <;> rfl
theorem Given.step {S : Nat → ByteArray} {Bk Pl : Nat → Int} {f g : ByteArray → Int → Int → Option Nat} {V : Nat → Nat} {k v : Nat} (h : Given S Bk Pl f V k) (hfg : ∀ s b p u, f s b p = some u → g s b p = some u) (hv : g (idS (S k) (Bk k)) (Bk k) (idP (Bk k) (Pl k)) = some v) :
    Given S Bk Pl g (updV V k v) (k + 1) := fun j hj => by
  unfold updV
  by_cases e : j = k
  · subst e; rw [if_pos rfl]; exact hv
  · rw [if_neg e]; exact hfg _ _ _ _ (h j (by omega))
theorem upd_keeps {f : ByteArray → Int → Int → Option Nat} {s : ByteArray} {b p : Int} {c : Nat} (hn : f s b p = none) : ∀ s' b' p' u, f s' b' p' = some u → upd f s b p c s' b' p' = some u := fun s' b' p' u hu => by
  rw [upd_other]
  · exact hu
  · rintro ⟨rfl, rfl, rfl⟩; rw [hn] at hu; cases hu
theorem RowAt.of_block {fb len : Nat} {V : Nat → Nat} {w w' : World} (h : RowAt fb len V w) (e : w'.heap[fb]? = w.heap[fb]?) : RowAt fb len V w' := World.rowIs.of_block h e
theorem RowAt.lt {fb len : Nat} {V : Nat → Nat} {w : World} (h : RowAt fb len V w) : fb < w.heap.size := World.rowIs.lt h
theorem RowAt.cell {fb len : Nat} {V : Nat → Nat} {w : World} (h : RowAt fb len V w) {i : Nat} (hi : i < len) : w.cell? ⟨fb, i, none⟩ = some (.int .i32 (V i : Int)) := World.rowIs.cell h hi
theorem RowAt.frozen {fb len : Nat} {V : Nat → Nat} {w : World} (h : RowAt fb len V w) (i : Nat) : w.frozen? ⟨fb, i, none⟩ = false := World.rowIs.frozen h i

/-- the four things of law B: the Numbering, the slice of the numbers given, the map of the numbers, the map of those used -/
structure Four (w : World) (b fb sb ub len : Nat) (f1 : ByteArray → Int → Int → Option Nat) (c1 : Nat) (V : Nat → Nat) (f2 : ByteArray → Int → Int → Option Nat) (k2 c2 k3 c3 : Nat) (wr : World) : Prop where
  num : NumAt (ub + 1) b f1 c1 wr
  row : RowAt fb len V wr
  seen : SeenAt sb k2 f2 c2 wr
  used : UsedAt ub k3 c3 wr
  bel : Below w.heap.size w wr
  ord : w.heap.size ≤ b ∧ b < fb ∧ fb < sb ∧ sb < ub

section
variable {w wr wr' : World} {b fb sb ub len : Nat} {f1 f2 : ByteArray → Int → Int → Option Nat} {c1 : Nat} {V : Nat → Nat} {k2 c2 k3 c3 : Nat}

theorem Four.below (h : Four w b fb sb ub len f1 c1 V f2 k2 c2 k3 c3 wr) (hb : Below wr.heap.size wr wr') : Four w b fb sb ub len f1 c1 V f2 k2 c2 k3 c3 wr' :=
  ⟨h.num.below hb, h.row.of_block (hb.block _ h.row.lt), h.seen.of_block (hb.block _ h.seen.lt), h.used.of_block (hb.block _ h.used.lt), h.bel.trans (hb.mono h.bel.size), h.ord⟩
theorem Four.alloc (h : Four w b fb sb ub len f1 c1 V f2 k2 c2 k3 c3 wr) (o : Obj) : Four w b fb sb ub len f1 c1 V f2 k2 c2 k3 c3 (wr.alloc o) := h.below ((Below.refl _ _).alloc (Nat.le_refl _) o)
theorem Four.mono {k2' k3' : Nat} (h : Four w b fb sb ub len f1 c1 V f2 k2 c2 k3 c3 wr) (e2 : k2 ≤ k2') (e3 : k3 ≤ k3') : Four w b fb sb ub len f1 c1 V f2 k2' c2 k3' c3 wr :=
  ⟨h.num, h.row, h.seen.mono e2, h.used.mono e3, h.bel, h.ord⟩
theorem Four.turned {f1' : ByteArray → Int → Int → Option Nat} {c1' : Nat} (h : Four w b fb sb ub len f1 c1 V f2 k2 c2 k3 c3 wr) (hn : NumAt (ub + 1) b f1' c1' wr') (ht : Turn (FN (ub + 1) b wr) wr wr') : Four w b fb sb ub len f1' c1' V f2 k2 c2 k3 c3 wr' := by
  obtain ⟨o0, o1, o2, o3⟩ := h.ord
  refine ⟨hn, h.row.of_block (ht.block _ h.row.lt ?_), h.seen.of_block (ht.block _ h.seen.lt ?_), h.used.of_block (ht.block _ h.used.lt ?_), ht.below h.bel ?_, h.ord⟩
  · rintro (e | ⟨e, _⟩) <;> omega
  · rintro (e | ⟨e, _⟩) <;> omega
  · rintro (e | ⟨e, _⟩) <;> omega
  · rintro k (e | ⟨e, _⟩) <;> omega
theorem Four.set (h : Four w b fb sb ub len f1 c1 V f2 k2 c2 k3 c3 wr) (i v : Nat) : Four w b fb sb ub len f1 c1 (updV V i v) f2 k2 c2 k3 c3 (wr.setCell ⟨fb, i, none⟩ (.int .i32 (v : Int))) := by
  obtain ⟨o0, o1, o2, o3⟩ := h.ord
  have hk : ∀ k, k ≠ fb → (wr.setCell ⟨fb, i, none⟩ (.int .i32 (v : Int))).heap[k]? = wr.heap[k]? := fun k hk => Below.heap_setCell _ _ _ _ hk
  have ht : Turn (fun k => k = fb) wr (wr.setCell ⟨fb, i, none⟩ (.int .i32 (v : Int))) := (Turn.refl (fun k => k = fb) wr).setCell (p := ⟨fb, i, none⟩) rfl _
  exact ⟨h.num.kept ht.size (fun k _ hb => hk k (by omega)), h.row.set i v, h.seen.of_block (hk _ (by omega)), h.used.of_block (hk _ (by omega)), ht.below h.bel (fun k e => by omega), h.ord⟩
theorem Four.usedPut {k3' c3' : Nat} (h : Four w b fb sb ub len f1 c1 V f2 k2 c2 k3 c3 wr) (hu : UsedAt ub k3' c3' wr') (hg : wr.grownBy wr' (some ub)) : Four w b fb sb ub len f1 c1 V f2 k2 c2 k3' c3' wr' := by
  obtain ⟨o0, o1, o2, o3⟩ := h.ord
  have ht : Turn (fun k => k = ub) wr wr' := (Turn.refl _ _).grown hg (fun k e _ => by cases e; rfl)
  exact ⟨h.num.kept ht.size (fun k hk hb => ht.block k hk (by omega)), h.row.of_block (ht.block _ h.row.lt (by omega)), h.seen.of_block (ht.block _ h.seen.lt (by omega)), hu, ht.below h.bel (fun k e => by omega), h.ord⟩
theorem Four.seenPut {f2' : ByteArray → Int → Int → Option Nat} {k2' c2' : Nat} (h : Four w b fb sb ub len f1 c1 V f2 k2 c2 k3 c3 wr) (hu : SeenAt sb k2' f2' c2' wr') (hg : wr.grownBy wr' (some sb)) : Four w b fb sb ub len f1 c1 V f2' k2' c2' k3 c3 wr' := by
  obtain ⟨o0, o1, o2, o3⟩ := h.ord
  have ht : Turn (fun k => k = sb) wr wr' := (Turn.refl _ _).grown hg (fun k e _ => by cases e; rfl)
  exact ⟨h.num.kept ht.size (fun k hk hb => ht.block k hk (by omega)), h.row.of_block (ht.block _ h.row.lt (by omega)), hu, h.used.of_block (ht.block _ h.used.lt (by omega)), ht.below h.bel (fun k e => by omega), h.ord⟩

theorem Four.made {wd : World} {len : Nat} (hB : Below w.heap.size w wd) (z : w.heap.size ≤ wd.heap.size) : Four w wd.heap.size (wd.heap.size + 1) (wd.heap.size + 1 + 1) (wd.heap.size + 1 + 1 + 1) len (fun _ _ _ => none) 0 (fun _ => 0) (fun _ _ _ => none) 0 0 0 0
    ((((wd.alloc (.cells #[.int .i32 0, .slice none 0 0, .slice none 0 0, .map none] 33)).alloc (.cells (madeCells #[.int .i32 0] len) 21)).alloc (.map #[] 0)).alloc (.map #[] 0)) := by
  have s1 : (wd.alloc (.cells #[.int .i32 0, .slice none 0 0, .slice none 0 0, .map none] 33)).heap.size = wd.heap.size + 1 := by simp
  generalize hw1 : wd.alloc (.cells #[.int .i32 0, .slice none 0 0, .slice none 0 0, .map none] 33) = w1 at *
  have s2 : (w1.alloc (.cells (madeCells #[.int .i32 0] len) 21)).heap.size = wd.heap.size + 1 + 1 := by simp [s1]
  have r2 : RowAt (wd.heap.size + 1) len (fun _ => 0) (w1.alloc (.cells (madeCells #[.int .i32 0] len) 21)) := by rw [← s1]; exact World.rowIs_made w1 (.int .i32 0) len 21
  have b1 : Below w1.heap.size w1 (w1.alloc (.cells (madeCells #[.int .i32 0] len) 21)) := (Below.refl _ _).alloc (Nat.le_refl _) _
  generalize w1.alloc (.cells (madeCells #[.int .i32 0] len) 21) = w2 at *
  have s3 : (w2.alloc (.map #[] 0)).heap.size = wd.heap.size + 1 + 1 + 1 := by simp [s2]
  have r3 : SeenAt (wd.heap.size + 1 + 1) 0 (fun _ _ _ => none) 0 (w2.alloc (.map #[] 0)) := by rw [← s2]; exact SeenAt.made w2
  have b2 : Below w2.heap.size w2 (w2.alloc (.map #[] 0)) := (Below.refl _ _).alloc (Nat.le_refl _) _
  generalize w2.alloc (.map #[] 0) = w3 at *
  have r4 : UsedAt (wd.heap.size + 1 + 1 + 1) 0 0 (w3.alloc (.map #[] 0)) := by rw [← s3]; exact UsedAt.made w3
  have b3 : Below w3.heap.size w3 (w3.alloc (.map #[] 0)) := (Below.refl _ _).alloc (Nat.le_refl _) _
  have b13 : Below w1.heap.size w1 (w3.alloc (.map #[] 0)) := b1.trans ((b2.mono b1.size).trans (b3.mono (Nat.le_trans b1.size b2.size)))
  have bd : Below wd.heap.size wd w1 := by rw [← hw1]; exact (Below.refl _ _).alloc (Nat.le_refl _) _
  refine ⟨NumAt.fresh (by omega) (by simp [s3]) ?_, (r2.of_block (b2.block _ r2.lt)).of_block (b3.block _ (by omega)), r3.of_block (b3.block _ r3.lt), r4, hB.trans ((bd.mono z).trans (b13.mono (by omega))), z, by omega, by omega, by omega⟩
  rw [b13.block _ (by omega), ← hw1]
  exact heap_alloc_new _ _
end

/-- what the main loop of law B carries -/
def RelB (S : Nat → ByteArray) (Bk Pl : Nat → Int) (w : World) (b fb sb ub len k c : Nat) (wr : World) : Prop :=
  ∃ f V, Four w b fb sb ub len f c V f k c k c wr ∧ Given S Bk Pl f V k ∧ c ≤ k

/-- the cells of an identity's variable -/
theorem id_cells {w : World} {k : Nat} {s : ByteArray} {b p : Int} (h : w.heap[k]? = some (.cells #[.string s, .int .i16 b, .int .i16 p] 35 (0, 0))) :
    w.cell? ⟨k, 0, none⟩ = some (.string s) ∧ w.cell? ⟨k, 1, none⟩ = some (.int .i16 b) ∧ w.cell? ⟨k, 2, none⟩ = some (.int .i16 p) := by
  refine ⟨?_, ?_, ?_⟩ <;> (rw [Lib.cell_of_heap h]; rfl)
end Go.Proofs.Qxb6628761a
