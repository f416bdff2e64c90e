import Derived.Test.Qxb6628761aZero
import Derived.Deep.OwnRows
import Derived.RegionTactic
import Derived.BigRegion
import Derived.Lib.Builder
namespace Go.Proofs.Qxb6628761a
open Go.ChangeShapes Go.WideShapes Go.ChangeAt Go.RowKit Go.Maps

/-- behind Find (which has laid blocks alone), in Number: what the walk is told -/
theorem behind_find {w w2 : World} {o : Obj} {b : Nat} {c : Int} {vb vl : Value} {mo : Option Nat} (ho : Own b c vb vl mo w) (h2 : Below (w.alloc o).heap.size (w.alloc o) w2) :
    Below w.heap.size w w2 ∧ Own b c vb vl mo w2 ∧ w.heap.size + 1 ≤ w2.heap.size ∧ ∀ j, w2.cell? ⟨w.heap.size, j, none⟩ = (w.alloc o).cell? ⟨w.heap.size, j, none⟩ := by
  have h2' : Below w.heap.size w w2 := ((Below.refl _ _).alloc (Nat.le_refl _) _).trans (h2.mono (by simp))
  exact ⟨h2', ho.of_block (h2'.block b ho.lt), by have := h2.size; simpa using this, fun j => h2.cell (p := ⟨w.heap.size, j, none⟩) (by simp)⟩

set_option maxHeartbeats 2000000 in
/-- the block is there: the number goes into its place -/
theorem num_old (b : Nat) (s : ByteArray) (bk p c g h j nb cap : Nat) (x : Int) (u : Value) (mo : Option Nat) (w : World) (hbk : bk < 3000) (hp : p < 1000) (hc : c ≤ 1000000) (hj : j < nb) (hnb : nb ≤ 1000000)
    (ho : Own b c (.slice (some ⟨g, 0, none⟩) 3000 3000) (.slice (some ⟨h, 0, none⟩) nb cap) mo w) (hgb : g ≠ b) (hhb : h ≠ b) (hgl : g < w.heap.size) (hhl : h < w.heap.size)
    (d : w.cell? ⟨g, bk, none⟩ = some (.int .i32 ((j : Int) + 1))) (d2 : w.cell? ⟨h, j * 1000 + p, none⟩ = some u) (f2 : w.frozen? ⟨h, j * 1000 + p, none⟩ = false)
    (hf : ∀ o, Calls Try.prog 9 #[.pointer (some ⟨b, 0, none⟩), .agg #[.string s, .int .i16 ((bk : Int) + 1), .int .i16 p]] (w.alloc o) fun e w' => e = .returned (.tuple #[.int .i32 x, .bool false]) ∧ Below (w.alloc o).heap.size (w.alloc o) w') :
    Calls Try.prog 10 #[.pointer (some ⟨b, 0, none⟩), .agg #[.string s, .int .i16 ((bk : Int) + 1), .int .i16 p]] w fun e w' => e = .returned (.int .i32 c) ∧
      ∃ w2 k, Below w.heap.size w w2 ∧ w' = ((w2.setCell ⟨b, 0, none⟩ (.int .i32 ((c : Int) + 1))).setCell ⟨h, j * 1000 + p, none⟩ (.int .i32 ((c : Int) + 1))).drewN k := by
  have HF := hide hf
  clear hf
  have hbb := ho.lt
  have q0 : (((bk : Int) + 1) == 0) = false := by simp; omega
  have q1 : (((j : Int) + 1) == 0) = false := by simp; omega
  have qs := eql29
  go_enter Try.func10, Try.ntmps10
  go_wp2_with fail
  refine (HF.out _).mono ?_
  rintro e w2 ⟨rfl, h2⟩
  obtain ⟨h2', ho2, hz, hk⟩ := behind_find ho h2
  obtain ⟨c0, c1, c2, c3, cf⟩ := ho2.cells
  have k0 := hk 0
  have k1 := hk 1
  have k2 := hk 2
  simp at k0 k1 k2
  have e1 : w2.cell? ⟨g, bk, none⟩ = some (.int .i32 ((j : Int) + 1)) := by rw [h2'.cell (p := ⟨g, bk, none⟩) hgl]; exact d
  have e2 : w2.cell? ⟨h, j * 1000 + p, none⟩ = some u := by rw [h2'.cell (p := ⟨h, j * 1000 + p, none⟩) hhl]; exact d2
  have e3 : w2.frozen? ⟨h, j * 1000 + p, none⟩ = false := by rw [h2'.frozen (p := ⟨h, j * 1000 + p, none⟩) hhl]; exact f2
  have HH2 := hide h2'
  clear h2 h2' ho ho2 hk d d2 f2
  go_wp2_with fail
  go_quiet (fail)
  go_wp2_with fail
  go_region
  all_goals
    go_wp2
    go_ret
    exact ⟨rfl, w2, _, HH2.out, rfl⟩

theorem info21 : (Try.prog.info? 21).map (fun i => (i.zero, i.size, i.bytes)) = some (some (.int .i32 0), 1, 4) := by kernel_rfl

theorem info47 : (Try.prog.info? 47).map (fun i => (i.zero, i.size, i.bytes)) = some (some (.agg Z), 1000, 4000) := by kernel_rfl

theorem Z_len : Z.toList.length = 1 * 1000 := by rw [Array.length_toList, Z_size]
theorem Z_one : ∀ u ∈ Z.toList, u.oneCell' = true := by
  intro u hu
  rw [Z_def, Array.toList_replicate] at hu
  rw [(List.mem_replicate.1 hu).2]; rfl
theorem Z_cells (w : World) : ∀ j u, Z.toList[j]? = some u → (w.alloc (.cells Z 47)).cell? ((⟨w.heap.size, 0, none⟩ : Addr).add j) = some u := by
  intro j u hj
  have e1 : (⟨w.heap.size, 0, none⟩ : Addr).add j = ⟨w.heap.size, j, none⟩ := by unfold Addr.add; split <;> simp_all
  rw [e1]
  simp only [Array.getElem?_toList] at hj
  rw [← hj]
  have : (w.alloc (.cells Z 47)).heap[w.heap.size]? = some (.cells Z 47) := heap_alloc_new w _
  unfold World.cell?
  rw [this]
  simp

theorem own_ne {w : World} {B nb b : Nat} {v : Value} {xs : List Value} {cs : Array Value} {T : TypeId} {fr : Nat × Nat} (hown : w.ownsRow B 47 1000 v nb xs) (hb : w.heap[b]? = some (.cells cs T fr)) (hT : T ≠ 47) : v.ownBlock ≠ some b := by
  rcases hown.2 with ⟨rfl, _⟩ | ⟨g, cap, cur, rfl, _, hg, _⟩
  · simp [Value.ownBlock]
  · intro h
    simp only [Value.ownBlock, Option.some.injEq] at h
    subst h
    rw [hg] at hb
    simp only [Option.some.injEq, Obj.cells.injEq] at hb
    exact hT hb.2.1.symm

/-- a store into another block -/
theorem own_set {w : World} {B nb : Nat} {v : Value} {xs : List Value} (hown : w.ownsRow B 47 1000 v nb xs) {a : Addr} (ha : v.ownBlock ≠ some a.block) (u : Value) : (w.setCell a u).ownsRow B 47 1000 v nb xs :=
  hown.kept (row := some a.block) ⟨rfl, rfl, rfl, by simp [World.setCell], fun k _ hk => Below.heap_setCell _ _ _ _ (fun e => hk (by simp [e]))⟩ (Or.inr ha)

theorem own_below {w w2 : World} {B nb : Nat} {v : Value} {xs : List Value} (hown : w.ownsRow B 47 1000 v nb xs) (h : Below w.heap.size w w2) : w2.ownsRow B 47 1000 v nb xs := by
  refine hown.kept (row := none) ⟨h.os, h.tape, h.output, h.size, fun k hk _ => h.block k hk⟩ ?_
  by_cases hv : v.ownBlock = none
  · exact Or.inl hv
  · exact Or.inr hv

/-- what the walk is told behind the append -/
theorem behind_append {W w3 : World} {B b g k nb : Nat} {c : Int} {vl : Value} {mo : Option Nat} {xs : List Value} {f : Nat → Value} {bx : Array Value} (ho : Own b c (.slice (some ⟨g, 0, none⟩) 3000 3000) vl mo W) (hrow : W.rowIs g 21 3000 f)
    (hown : W.ownsRow B 47 1000 vl nb xs) (hbx : W.heap[k]? = some (.cells bx 39 (0, 0))) (hg : W.grownBy w3 vl.ownBlock) :
    Own b c (.slice (some ⟨g, 0, none⟩) 3000 3000) vl mo w3 ∧ w3.rowIs g 21 3000 f ∧ w3.heap[k]? = some (.cells bx 39 (0, 0)) := by
  have n1 := own_ne hown ho (by decide)
  obtain ⟨cs, hc, hr⟩ := hrow
  have n2 := own_ne hown hc (by decide)
  have n3 := own_ne hown hbx (by decide)
  refine ⟨ho.of_block (hg.block b ho.lt (fun e => n1 e.symm)), ⟨cs, by rw [hg.block g (Array.getElem?_eq_some_iff.1 hc).1 (fun e => n2 e.symm)]; exact hc, hr⟩, ?_⟩
  rw [hg.block k (Array.getElem?_eq_some_iff.1 hbx).1 (fun e => n3 e.symm)]; exact hbx

/-- the place of the new number, among the cells -/
theorem new_cell {w3 : World} {B h nb cap p : Nat} {xs : List Value} (hown : w3.ownsRow B 47 1000 (.slice (some ⟨h, 0, none⟩) (nb + 1) cap) (nb + 1) (xs ++ Z.toList)) (hx : xs.length = nb * 1000) (hp : p < 1000) :
    w3.cell? ⟨h, nb * 1000 + p, none⟩ = some (.int .i32 0) ∧ w3.frozen? ⟨h, nb * 1000 + p, none⟩ = false := by
  refine ⟨?_, hown.frozenAt _⟩
  rw [hown.cellAt _ (by omega), List.getElem?_append_right (by omega), hx, Nat.add_sub_cancel_left, Array.getElem?_toList, Z_at p hp]

theorem own_block {w : World} {B h n cap : Nat} {xs : List Value} (hown : w.ownsRow B 47 1000 (.slice (some ⟨h, 0, none⟩) n cap) n xs) : B ≤ h ∧ h < w.heap.size := hown.lt h rfl

/-- what num_new leaves -/
def NewPost (B b g bk p c nb : Nat) (vl : Value) (mo : Option Nat) (f : Nat → Value) (xs : List Value) (w w' : World) : Prop :=
  ∃ h cap, Own b ((c : Int) + 1) (.slice (some ⟨g, 0, none⟩) 3000 3000) (.slice (some ⟨h, 0, none⟩) (nb + 1) cap) mo w' ∧ w'.rowIs g 21 3000 (fun i => if i = bk then .int .i32 ((nb : Int) + 1) else f i) ∧
    w'.ownsRow B 47 1000 (.slice (some ⟨h, 0, none⟩) (nb + 1) cap) (nb + 1) ((xs ++ Z.toList).set (nb * 1000 + p) (.int .i32 ((c : Int) + 1))) ∧ Turn (fun k => k = b ∨ k = g ∨ vl.ownBlock = some k) w w'

theorem end_new {w w3 : World} {B b g bk p c nb h cap : Nat} {vl : Value} {mo : Option Nat} {f : Nat → Value} {xs : List Value} (ho : Own b ((c : Int) + 1) (.slice (some ⟨g, 0, none⟩) 3000 3000) vl mo w3) (hr : w3.rowIs g 21 3000 f)
    (hw : w3.ownsRow B 47 1000 (.slice (some ⟨h, 0, none⟩) (nb + 1) cap) (nb + 1) (xs ++ Z.toList)) (hhb : h ≠ b) (hhg : h ≠ g) (hgb : g ≠ b) (hh : w.heap.size ≤ h ∨ vl.ownBlock = some h) (ht : Turn (fun k => k = b ∨ k = g ∨ vl.ownBlock = some k) w w3) (k : Nat) :
    NewPost B b g bk p c nb vl mo f xs w ((((w3.setCell ⟨b, 2, none⟩ (.slice (some ⟨h, 0, none⟩) (nb + 1) cap)).setCell ⟨g, bk, none⟩ (.int .i32 ((nb : Int) + 1))).setCell ⟨h, nb * 1000 + p, none⟩ (.int .i32 ((c : Int) + 1))).drewN k) := by
  refine ⟨h, cap, ?_, ?_, ?_, ?_⟩
  · refine Own.of_block (ho.set2 (.slice (some ⟨h, 0, none⟩) (nb + 1) cap)) ?_
    exact (Below.heap_setCell _ _ _ _ (fun e => hhb e.symm)).trans (Below.heap_setCell _ _ _ _ (fun e => hgb e.symm))
  · exact ((hr.setOther hgb _).set bk (.int .i32 ((nb : Int) + 1))).setOther (fun e => hhg e.symm) _
  · exact ((own_set (own_set hw (by simpa [Value.ownBlock] using hhb) _) (by simpa [Value.ownBlock] using hhg) _).stored _ _).1
  · have t1 := (ht.setCell (p := ⟨b, 2, none⟩) (Or.inl rfl) (.slice (some ⟨h, 0, none⟩) (nb + 1) cap)).setCell (p := ⟨g, bk, none⟩) (Or.inr (Or.inl rfl)) (.int .i32 ((nb : Int) + 1))
    have t2 : Turn (fun k => k = b ∨ k = g ∨ vl.ownBlock = some k) w (((w3.setCell ⟨b, 2, none⟩ (.slice (some ⟨h, 0, none⟩) (nb + 1) cap)).setCell ⟨g, bk, none⟩ (.int .i32 ((nb : Int) + 1))).setCell ⟨h, nb * 1000 + p, none⟩ (.int .i32 ((c : Int) + 1))) := by
      rcases hh with hh | hh
      · exact t1.setNew hh _
      · exact t1.setCell (p := ⟨h, nb * 1000 + p, none⟩) (Or.inr (Or.inr hh)) _
    exact t2.trans (.of_below (below_drewN (Below.refl _ _) _))

set_option maxHeartbeats 4000000 in
/-- the block is new: a row of a thousand zeros is appended -/
theorem num_new (B b : Nat) (s : ByteArray) (bk p c g nb : Nat) (x : Int) (vl : Value) (xs : List Value) (mo : Option Nat) (f : Nat → Value) (w : World) (hbk : bk < 3000) (hp : p < 1000) (hc : c ≤ 1000000) (hnb : nb ≤ 1000000)
    (ho : Own b c (.slice (some ⟨g, 0, none⟩) 3000 3000) vl mo w) (hrow : w.rowIs g 21 3000 f) (hB : B ≤ w.heap.size) (hown : w.ownsRow B 47 1000 vl nb xs) (d : f bk = .int .i32 0)
    (hf : ∀ o, Calls Try.prog 9 #[.pointer (some ⟨b, 0, none⟩), .agg #[.string s, .int .i16 ((bk : Int) + 1), .int .i16 p]] (w.alloc o) fun e w' => e = .returned (.tuple #[.int .i32 x, .bool false]) ∧ Below (w.alloc o).heap.size (w.alloc o) w') :
    Calls Try.prog 10 #[.pointer (some ⟨b, 0, none⟩), .agg #[.string s, .int .i16 ((bk : Int) + 1), .int .i16 p]] w fun e w' => e = .returned (.int .i32 c) ∧ NewPost B b g bk p c nb vl mo f xs w w' := by
  have HF := hide hf
  clear hf
  have hbb := ho.lt
  have hgl := hrow.lt
  have hgb : g ≠ b := by
    intro e; subst e
    obtain ⟨cs, hc', _⟩ := hrow
    unfold Own at ho; rw [hc'] at ho
    simp only [Option.some.injEq, Obj.cells.injEq] at ho
    exact absurd ho.2.1 (by decide)
  have q0 : (((bk : Int) + 1) == 0) = false := by simp; omega
  have q1 : (((nb : Int) + 1) == 0) = false := by simp; omega
  have qs := eql29
  obtain ⟨i0, hi, hz0, hz1, hz2⟩ := info_parts info47
  go_enter Try.func10, Try.ntmps10
  go_wp2_with fail
  refine (HF.out _).mono ?_
  rintro e w2 ⟨rfl, h2⟩
  obtain ⟨h2', ho2, hz, hk⟩ := behind_find ho h2
  have hbx : w2.heap[w.heap.size]? = some (.cells #[.string s, .int .i16 ((bk : Int) + 1), .int .i16 p] 39 (0, 0)) := by
    rw [h2.block w.heap.size (by simp)]; exact heap_alloc_new _ _
  have hrow2 : w2.rowIs g 21 3000 f := hrow.of_block (h2'.block g hgl)
  have hown2 : w2.ownsRow B 47 1000 vl nb xs := own_below hown h2'
  have nb1 := own_ne hown2 ho2 (by decide)
  obtain ⟨c0, c1, c2, c3, cf⟩ := ho2.cells
  have k0 := hk 0
  have k1 := hk 1
  have k2 := hk 2
  simp at k0 k1 k2
  have e1 : w2.cell? ⟨g, bk, none⟩ = some (.int .i32 0) := by rw [hrow2.cell hbk, d]
  have e3 : w2.frozen? ⟨g, bk, none⟩ = false := hrow2.frozen _
  have HH2 := hide h2'
  have HO3 : Hid (∀ nq, Own b ((c : Int) + 1) (.slice (some ⟨g, 0, none⟩) 3000 3000) vl mo ((w2.setCell ⟨b, 0, none⟩ (.int .i32 ((c : Int) + 1))).drewN nq)) := fun nq => ho2.set0 _
  have HR3 : Hid (∀ nq, ((w2.setCell ⟨b, 0, none⟩ (.int .i32 ((c : Int) + 1))).drewN nq).rowIs g 21 3000 f) := fun nq => hrow2.setOther hgb _
  have HW3 : Hid (∀ nq, ((w2.setCell ⟨b, 0, none⟩ (.int .i32 ((c : Int) + 1))).drewN nq).ownsRow B 47 1000 vl nb xs) := fun nq => own_set hown2 nb1 _
  have HX3 : Hid (∀ nq, ((w2.setCell ⟨b, 0, none⟩ (.int .i32 ((c : Int) + 1))).drewN nq).heap[w.heap.size]? = some (.cells #[.string s, .int .i16 ((bk : Int) + 1), .int .i16 p] 39 (0, 0))) := fun nq => by
    show (w2.setCell ⟨b, 0, none⟩ (.int .i32 ((c : Int) + 1))).heap[w.heap.size]? = _
    rw [Below.heap_setCell _ _ _ _ (by show w.heap.size ≠ b; omega)]; exact hbx
  clear h2 h2' ho ho2 hk d hrow hrow2 hown hown2 hbx nb1
  go_wp2_with fail
  go_quiet (fail)
  go_wp2_with (first | (refine wpList_bz _ rfl rfl ?_) | (refine wpList_bs _ rfl _ rfl rfl ?_) | (at_builtin; refine wpList_append_own_at _ rfl _ _ 30 rfl B 47 i0 (.agg Z) 1000 4000 Try.underlying30 hi hz0 hz1 hz2 Z_size (by decide) _ _ _ rfl ((HW3.out _).alloc _) ⟨_, 0, none⟩ 1 1 Z.toList rfl Z_len (Z_cells _) Z_one ?c3 ?c4 ?c5 ?_))
  case c3 => unfold maxLen; omega
  case c4 => omega
  case c5 => simp; omega
  intro v' w3 hown' hgrow _ hloc
  obtain ⟨h, cap, rfl⟩ : ∃ h cap, v' = .slice (some ⟨h, 0, none⟩) (nb + 1) cap := by
    rcases hown'.2 with ⟨_, h0⟩ | ⟨g', cap, cur, hv, _⟩
    · omega
    · exact ⟨g', cap, hv⟩
  obtain ⟨ho3, hr3, hx3⟩ := behind_append (W := ((w2.setCell ⟨b, 0, none⟩ (.int .i32 ((c : Int) + 1))).drewN _).alloc (.cells Z 47)) ((HO3.out _).of_block (Below.heap_alloc _ _ _ (HO3.out _).lt)) ((HR3.out _).alloc _) ((HW3.out _).alloc _)
    (show _ = some (.cells #[.string s, .int .i16 ((bk : Int) + 1), .int .i16 p] 39 (0, 0)) from (Below.heap_alloc _ _ _ (Array.getElem?_eq_some_iff.1 (HX3.out _)).1).trans (HX3.out _)) hgrow
  have hxl : xs.length = nb * 1000 := (HW3.out 0).1
  obtain ⟨e5, e6⟩ := new_cell hown' hxl hp
  have hhb : h ≠ b := by
    intro e; have := own_ne hown' ho3 (by decide); exact this (by simp [Value.ownBlock, e])
  have hhg : h ≠ g := by
    intro e; obtain ⟨cs, hc', _⟩ := hr3; have := own_ne hown' hc' (by decide); exact this (by simp [Value.ownBlock, e])
  have hhx : h ≠ w.heap.size := by
    intro e; have := own_ne hown' hx3 (by decide); exact this (by simp [Value.ownBlock, e])
  have HLOC : Hid (w.heap.size ≤ h ∨ vl.ownBlock = some h) := by
    rcases hloc with e | e
    · exact Or.inr (by rw [← e]; rfl)
    · refine Or.inl ?_
      simp [Value.ownBlock] at e
      omega
  have T3 : Hid (Turn (fun k => k = b ∨ k = g ∨ vl.ownBlock = some k) w w3) := by
    refine Turn.grown ?_ hgrow (fun k hk _ => Or.inr (Or.inr hk))
    exact (((Turn.of_below HH2.out).setCell (p := ⟨b, 0, none⟩) (Or.inl rfl) _).trans (.of_below (below_drewN (Below.refl _ _) _))).alloc _
  obtain ⟨c0', c1', c2', c3', cf'⟩ := ho3.cells
  have k1' : w3.cell? ⟨w.heap.size, 1, none⟩ = some (.int .i16 ((bk : Int) + 1)) := by rw [Lib.cell_of_heap hx3]; rfl
  have k2' : w3.cell? ⟨w.heap.size, 2, none⟩ = some (.int .i16 p) := by rw [Lib.cell_of_heap hx3]; rfl
  have e1' : w3.cell? ⟨g, bk, none⟩ = some (f bk) := hr3.cell hbk
  have e3' : w3.frozen? ⟨g, bk, none⟩ = false := hr3.frozen _
  have HO4 := hide ho3
  have HR4 := hide hr3
  have HW4 := hide hown'
  clear ho3 hr3 hown' hgrow hloc hx3 HO3 HR3 HX3 HW3 c0 c1 c2 c3 cf k0 k1 k2 e1 e3 HH2 hxl
  go_wp2_with fail
  go_region
  all_goals
    go_wp2_with fail
    go_region
    all_goals
      go_wp2
      go_ret
      exact ⟨rfl, end_new (bk := bk) (p := p) HO4.out HR4.out HW4.out hhb hhg hgb HLOC.out T3.out 2⟩
set_option maxHeartbeats 4000000 in
/-- the table is made first -/
theorem num_first (B b : Nat) (s : ByteArray) (bk p c nb : Nat) (x : Int) (vl : Value) (xs : List Value) (mo : Option Nat) (w : World) (hbk : bk < 3000) (hp : p < 1000) (hc : c ≤ 1000000) (hnb : nb ≤ 1000000)
    (ho : Own b c (.slice none 0 0) vl mo w) (hB : B ≤ w.heap.size) (hown : w.ownsRow B 47 1000 vl nb xs)
    (hf : ∀ o, Calls Try.prog 9 #[.pointer (some ⟨b, 0, none⟩), .agg #[.string s, .int .i16 ((bk : Int) + 1), .int .i16 p]] (w.alloc o) fun e w' => e = .returned (.tuple #[.int .i32 x, .bool false]) ∧ Below (w.alloc o).heap.size (w.alloc o) w') :
    Calls Try.prog 10 #[.pointer (some ⟨b, 0, none⟩), .agg #[.string s, .int .i16 ((bk : Int) + 1), .int .i16 p]] w fun e w' => e = .returned (.int .i32 c) ∧ ∃ g, w.heap.size ≤ g ∧ NewPost B b g bk p c nb vl mo (fun _ => .int .i32 0) xs w w' := by
  have HF := hide hf
  clear hf
  have hbb := ho.lt
  have hmk : ∀ wx : World, (Instr.makeSlice 29 (.int .i64 3000) (.int .i64 3000)).run Try.prog wx = .ok (.slice (some ⟨wx.heap.size, 0, none⟩) 3000 3000) (wx.alloc (.cells (madeCells #[.int .i32 0] 3000) 21)) := fun wx =>
    run_make_row' (P := Try.prog) 29 21 (.int .i32 0) 4 Try.underlying29 info21 rfl .i64 .i64 3000 (by omega) (by omega) wx
  have q0 : (((bk : Int) + 1) == 0) = false := by simp; omega
  have q1 : (((nb : Int) + 1) == 0) = false := by simp; omega
  have qs := eql29
  obtain ⟨i0, hi, hz0, hz1, hz2⟩ := info_parts info47
  go_enter Try.func10, Try.ntmps10
  go_wp2_with fail
  refine (HF.out _).mono ?_
  rintro e w2 ⟨rfl, h2⟩
  obtain ⟨h2', ho2, hz, hk⟩ := behind_find ho h2
  have hbx : w2.heap[w.heap.size]? = some (.cells #[.string s, .int .i16 ((bk : Int) + 1), .int .i16 p] 39 (0, 0)) := by
    rw [h2.block w.heap.size (by simp)]; exact heap_alloc_new _ _
  have hown2 : w2.ownsRow B 47 1000 vl nb xs := own_below hown h2'
  have nb1 := own_ne hown2 ho2 (by decide)
  obtain ⟨c0, c1, c2, c3, cf⟩ := ho2.cells
  have k0 := hk 0
  have k1 := hk 1
  have k2 := hk 2
  simp at k0 k1 k2
  have hb2 : b < w2.heap.size := ho2.lt
  obtain ⟨g, hg⟩ : ∃ g, w2.heap.size = g := ⟨_, rfl⟩
  have hgb : g ≠ b := by omega
  have hgw : w.heap.size < g := by omega
  have HH2 := hide h2'
  have wdef : ∃ W : World, W = ((w2.setCell ⟨b, 0, none⟩ (.int .i32 ((c : Int) + 1))).setCell ⟨b, 1, none⟩ (.slice (some ⟨w2.heap.size, 0, none⟩) 3000 3000)).alloc (.cells (madeCells #[.int .i32 0] 3000) 21) := ⟨_, rfl⟩
  obtain ⟨W, hWd⟩ := wdef
  have ho3 : Own b ((c : Int) + 1) (.slice (some ⟨g, 0, none⟩) 3000 3000) vl mo W := by
    rw [hWd, hg]
    exact ((ho2.set0 ((c : Int) + 1)).set1 (.slice (some ⟨g, 0, none⟩) 3000 3000)).of_block (Below.heap_alloc _ _ _ (by simpa using hb2))
  have hr3 : W.rowIs g 21 3000 (fun _ => .int .i32 0) := by
    rw [hWd]
    have := World.rowIs_made ((w2.setCell ⟨b, 0, none⟩ (.int .i32 ((c : Int) + 1))).setCell ⟨b, 1, none⟩ (.slice (some ⟨w2.heap.size, 0, none⟩) 3000 3000)) (.int .i32 0) 3000 21
    simp only [World.size_setCell, hg] at this
    rw [hg]; exact this
  have hw3 : W.ownsRow B 47 1000 vl nb xs := by
    rw [hWd]; exact (own_set (own_set hown2 nb1 _) nb1 _).alloc _
  have hx0 : W.heap[w.heap.size]? = some (.cells #[.string s, .int .i16 ((bk : Int) + 1), .int .i16 p] 39 (0, 0)) := by
    rw [hWd, Below.heap_alloc _ _ _ (by simp; omega), Below.heap_setCell _ _ _ _ (by show w.heap.size ≠ b; omega), Below.heap_setCell _ _ _ _ (by show w.heap.size ≠ b; omega)]; exact hbx
  have hT0 : Turn (fun k => k = b ∨ k = g ∨ vl.ownBlock = some k) w W := by
    rw [hWd]
    exact (((Turn.of_below HH2.out).setCell (p := ⟨b, 0, none⟩) (Or.inl rfl) _).setCell (p := ⟨b, 1, none⟩) (Or.inl rfl) _).alloc _
  have HWD := hide hWd
  have HGD := hide hg
  have HT0 := hide hT0
  have hwz : w2.heap.size + 1 ≤ W.heap.size := by rw [hWd]; simp
  have HWZ := hide hwz
  have HO3 : Hid (∀ nq, Own b ((c : Int) + 1) (.slice (some ⟨g, 0, none⟩) 3000 3000) vl mo (W.drewN nq)) := fun nq => ho3
  have HR3 : Hid (∀ nq, (W.drewN nq).rowIs g 21 3000 (fun _ => .int .i32 0)) := fun nq => hr3
  have HW3 : Hid (∀ nq, (W.drewN nq).ownsRow B 47 1000 vl nb xs) := fun nq => hw3
  have HX3 : Hid (∀ nq, (W.drewN nq).heap[w.heap.size]? = some (.cells #[.string s, .int .i16 ((bk : Int) + 1), .int .i16 p] 39 (0, 0))) := fun nq => hx0
  obtain ⟨d0, d1, d2, d3, df⟩ := ho3.cells
  have e1 : W.cell? ⟨g, bk, none⟩ = some (.int .i32 0) := hr3.cell hbk
  have l1 : W.cell? ⟨w.heap.size, 1, none⟩ = some (.int .i16 ((bk : Int) + 1)) := by rw [Lib.cell_of_heap hx0]; rfl
  clear h2 h2' ho ho2 hk hown hown2 hbx nb1 ho3 hr3 hw3 hx0 hT0 hWd hg hwz
  go_wp2_with fail
  rw [← HWD.out, HGD.out]
  go_quiet (fail)
  go_wp2_with (first | (refine wpList_bz _ rfl rfl ?_) | (refine wpList_bs _ rfl _ rfl rfl ?_) | (at_builtin; refine wpList_append_own_at _ rfl _ _ 30 rfl B 47 i0 (.agg Z) 1000 4000 Try.underlying30 hi hz0 hz1 hz2 Z_size (by decide) _ _ _ rfl ((HW3.out _).alloc _) ⟨_, 0, none⟩ 1 1 Z.toList rfl Z_len (Z_cells _) Z_one ?c3 ?c4 ?c5 ?_))
  case c3 => unfold maxLen; omega
  case c4 => omega
  case c5 => have := HWZ.out; simp; omega
  intro v' w3 hown' hgrow _ hloc
  obtain ⟨h, cap, rfl⟩ : ∃ h cap, v' = .slice (some ⟨h, 0, none⟩) (nb + 1) cap := by
    rcases hown'.2 with ⟨_, h0⟩ | ⟨g', cap, cur, hv, _⟩
    · omega
    · exact ⟨g', cap, hv⟩
  obtain ⟨ho3, hr3, hx3⟩ := behind_append (W := (W.drewN _).alloc (.cells Z 47)) ((HO3.out _).of_block (Below.heap_alloc _ _ _ (HO3.out _).lt)) ((HR3.out _).alloc _) ((HW3.out _).alloc _)
    (show _ = some (.cells #[.string s, .int .i16 ((bk : Int) + 1), .int .i16 p] 39 (0, 0)) from (Below.heap_alloc _ _ _ (Array.getElem?_eq_some_iff.1 (HX3.out _)).1).trans (HX3.out _)) hgrow
  have hxl : xs.length = nb * 1000 := (HW3.out 0).1
  obtain ⟨e5, e6⟩ := new_cell hown' hxl hp
  have hhb : h ≠ b := by
    intro e; have := own_ne hown' ho3 (by decide); exact this (by simp [Value.ownBlock, e])
  have hhg : h ≠ g := by
    intro e; obtain ⟨cs, hc', _⟩ := hr3; have := own_ne hown' hc' (by decide); exact this (by simp [Value.ownBlock, e])
  have hhx : h ≠ w.heap.size := by
    intro e; have := own_ne hown' hx3 (by decide); exact this (by simp [Value.ownBlock, e])
  have HLOC : Hid (w.heap.size ≤ h ∨ vl.ownBlock = some h) := by
    rcases hloc with e | e
    · exact Or.inr (by rw [← e]; rfl)
    · refine Or.inl ?_
      simp [Value.ownBlock] at e
      have := HWZ.out
      omega
  have T3 : Hid (Turn (fun k => k = b ∨ k = g ∨ vl.ownBlock = some k) w w3) := by
    refine Turn.grown ?_ hgrow (fun k hk _ => Or.inr (Or.inr hk))
    exact (HT0.out.trans (.of_below (below_drewN (Below.refl _ _) _))).alloc _
  obtain ⟨c0', c1', c2', c3', cf'⟩ := ho3.cells
  have k1' : w3.cell? ⟨w.heap.size, 1, none⟩ = some (.int .i16 ((bk : Int) + 1)) := by rw [Lib.cell_of_heap hx3]; rfl
  have k2' : w3.cell? ⟨w.heap.size, 2, none⟩ = some (.int .i16 p) := by rw [Lib.cell_of_heap hx3]; rfl
  have e1' : w3.cell? ⟨g, bk, none⟩ = some (.int .i32 0) := hr3.cell hbk
  have e3' : w3.frozen? ⟨g, bk, none⟩ = false := hr3.frozen _
  have HO4 := hide ho3
  have HR4 := hide hr3
  have HW4 := hide hown'
  clear ho3 hr3 hown' hgrow hloc hx3 HO3 HR3 HX3 HW3 c0 c1 c2 c3 cf k0 k1 k2 e1 HH2 hxl d0 d1 d2 d3 df l1 HWD
  go_wp2_with fail
  go_region
  all_goals
    go_wp2_with fail
    go_region
    all_goals
      go_wp2
      go_ret
      exact ⟨rfl, g, by have := HGD.out; omega, end_new (bk := bk) (p := p) HO4.out HR4.out HW4.out hhb hhg hgb HLOC.out T3.out 2⟩
end Go.Proofs.Qxb6628761a
