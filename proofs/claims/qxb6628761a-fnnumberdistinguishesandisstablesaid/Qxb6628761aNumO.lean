import Derived.Test.Qxb6628761aFind
import Derived.Maps.Own
import Derived.Deep.RegionWith
import Derived.Deep.RegionLaw
namespace Go.Proofs.Qxb6628761a
open Go.ChangeShapes Go.WideShapes Go.ChangeAt Go.RowKit Go.Maps

/-- w' is w with new blocks, and with writes to blocks of F alone -/
structure Turn (F : Nat → Prop) (w w' : World) : Prop where
  os : w'.os = w.os
  tape : w'.tape = w.tape
  output : w'.output = w.output
  size : w.heap.size ≤ w'.heap.size
  block : ∀ k, k < w.heap.size → ¬ F k → w'.heap[k]? = w.heap[k]?

theorem Turn.refl (F : Nat → Prop) (w : World) : Turn F w w := ⟨rfl, rfl, rfl, Nat.le_refl _, fun _ _ _ => rfl⟩
theorem Turn.trans {F : Nat → Prop} {a b c : World} (h : Turn F a b) (k : Turn F b c) : Turn F a c :=
  ⟨k.os.trans h.os, k.tape.trans h.tape, k.output.trans h.output, Nat.le_trans h.size k.size, fun i hi hf => (k.block i (Nat.lt_of_lt_of_le hi h.size) hf).trans (h.block i hi hf)⟩
theorem Turn.of_below {F : Nat → Prop} {w w' : World} (h : Below w.heap.size w w') : Turn F w w' := ⟨h.os, h.tape, h.output, h.size, fun k hk _ => h.block k hk⟩
theorem Turn.alloc {F : Nat → Prop} {a w : World} (h : Turn F a w) (o : Obj) : Turn F a (w.alloc o) := h.trans (.of_below ((Below.refl _ _).alloc (Nat.le_refl _) _))
theorem Turn.setCell {F : Nat → Prop} {a w : World} (h : Turn F a w) {p : Addr} (hp : F p.block) (u : Value) : Turn F a (w.setCell p u) :=
  h.trans ⟨rfl, rfl, rfl, by simp [World.setCell], fun k _ hf => Below.heap_setCell _ _ _ _ (fun e => hf (e ▸ hp))⟩
theorem Turn.setNew {F : Nat → Prop} {a w : World} (h : Turn F a w) {p : Addr} (hp : a.heap.size ≤ p.block) (u : Value) : Turn F a (w.setCell p u) :=
  ⟨h.os, h.tape, h.output, by simpa [World.setCell] using h.size, fun k hk hf => (Below.heap_setCell w p u k (by omega)).trans (h.block k hk hf)⟩
theorem Turn.drew {F : Nat → Prop} {a w : World} (h : Turn F a w) : Turn F a w.drew := ⟨h.os, h.tape, h.output, h.size, h.block⟩
theorem Turn.grown {F : Nat → Prop} {a w w' : World} {row : Option Nat} (h : Turn F a w) (hg : w.grownBy w' row) (hr : ∀ k, row = some k → k < a.heap.size → F k) : Turn F a w' :=
  ⟨hg.os.trans h.os, hg.tape.trans h.tape, hg.output.trans h.output, Nat.le_trans h.size hg.size, fun k hk hf => (hg.block k (Nat.lt_of_lt_of_le hk h.size) (fun e => hf (hr k e.symm hk))).trans (h.block k hk hf)⟩
theorem Turn.mono {F G : Nat → Prop} {a w : World} (h : Turn F a w) (hf : ∀ k, F k → G k) : Turn G a w := ⟨h.os, h.tape, h.output, h.size, fun k hk hg => h.block k hk (fun e => hg (hf k e))⟩

/-- the Numbering's own block -/
def Own (b : Nat) (c : Int) (vb vl : Value) (mo : Option Nat) (w : World) : Prop := w.heap[b]? = some (.cells #[.int .i32 c, vb, vl, .map mo] 33 (0, 0))

theorem Own.lt {b : Nat} {c : Int} {vb vl : Value} {mo : Option Nat} {w : World} (h : Own b c vb vl mo w) : b < w.heap.size := (Array.getElem?_eq_some_iff.1 h).1
theorem Own.cells {b : Nat} {c : Int} {vb vl : Value} {mo : Option Nat} {w : World} (h : Own b c vb vl mo w) :
    w.cell? ⟨b, 0, none⟩ = some (.int .i32 c) ∧ w.cell? ⟨b, 1, none⟩ = some vb ∧ w.cell? ⟨b, 2, none⟩ = some vl ∧ w.cell? ⟨b, 3, none⟩ = some (.map mo) ∧ ∀ o, w.frozen? ⟨b, o, none⟩ = false := by
  unfold Own at h
  refine ⟨?_, ?_, ?_, ?_, fun o => ?_⟩
  all_goals simp [World.cell?, World.frozen?, h]
theorem Own.of_block {b : Nat} {c : Int} {vb vl : Value} {mo : Option Nat} {w w' : World} (h : Own b c vb vl mo w) (e : w'.heap[b]? = w.heap[b]?) : Own b c vb vl mo w' := e.trans h

theorem law9 : Keyed Try.prog 9 := string_keyed Try.underlying9
theorem zero21 (w : World) : (zeroValue 21).run Try.prog w = .ok (.int .i32 0) w := by kernel_rfl

theorem eql31 (w : World) (r : Option Nat) : (binOp .eql 31 (.map r) (.map none)).run Try.prog w = .ok (.bool r.isNone) w := run_eql_map_nil w 31 9 21 r Try.underlying31

theorem Own.set0 {b : Nat} {c : Int} {vb vl : Value} {mo : Option Nat} {w : World} (h : Own b c vb vl mo w) (c' : Int) : Own b c' vb vl mo (w.setCell ⟨b, 0, none⟩ (.int .i32 c')) := by
  unfold Own at *; simp [World.setCell, Array.getElem?_modify, h]
theorem Own.set1 {b : Nat} {c : Int} {vb vl : Value} {mo : Option Nat} {w : World} (h : Own b c vb vl mo w) (v : Value) : Own b c v vl mo (w.setCell ⟨b, 1, none⟩ v) := by
  unfold Own at *; simp [World.setCell, Array.getElem?_modify, h]
theorem Own.set2 {b : Nat} {c : Int} {vb vl : Value} {mo : Option Nat} {w : World} (h : Own b c vb vl mo w) (v : Value) : Own b c vb v mo (w.setCell ⟨b, 2, none⟩ v) := by
  unfold Own at *; simp [World.setCell, Array.getElem?_modify, h]
theorem Own.set3 {b : Nat} {c : Int} {vb vl : Value} {mo : Option Nat} {w : World} (h : Own b c vb vl mo w) (m : Option Nat) : Own b c vb vl m (w.setCell ⟨b, 3, none⟩ (.map m)) := by
  unfold Own at *; simp [World.setCell, Array.getElem?_modify, h]

/-- a store at a key, behind a call that has made memory alone -/
theorem upd_facts {W w3 : World} {b bm n : Nat} {c' : Int} {vb vl : Value} {mo : Option Nat} {D : DataW Unit} (hm : W.ownsMap Try.prog 9 (plainElem Try.prog 21) bm n D) (ho : Own b c' vb vl mo W) (hne : bm ≠ b) (hn : n ≤ 1000000)
    (h3 : Below W.heap.size W w3) (s : ByteArray) (hs : s.size ≤ 1048576) (c : Nat) (hc : c ≤ 1000000) :
    w3.cell? ⟨b, 3, none⟩ = some (.map mo) ∧ ∃ w4, (Instr.mapUpdate 31 (.map (some bm)) (.string s) (.int .i32 c)).run Try.prog w3 = .ok () w4 ∧ w4.ownsMap Try.prog 9 (plainElem Try.prog 21) bm (n + 1) (D.put (.string s.data.toList) (.lit (.int .i32 c))) ∧ Own b c' vb vl mo w4 ∧ W.grownBy w4 (some bm) := by
  have hg : W.grownBy w3 (some bm) := ⟨h3.os, h3.tape, h3.output, h3.size, fun k hk _ => h3.block k hk⟩
  have hm3 : w3.ownsMap Try.prog 9 (plainElem Try.prog 21) bm n D := hm.kept (row := none) ⟨h3.os, h3.tape, h3.output, h3.size, fun k hk _ => h3.block k hk⟩ (by simp)
  obtain ⟨w4, hrun, r1, r2⟩ := hm3.update law9 Try.underlying31 (by unfold maxLen; omega) (WideMaps.keyOf_string_mk Try.underlying9 (s := s) (by unfold maxLen; omega)) (plainElem_int Try.underlying21 (a := (c : Int)) (WalkArith.wf_i32 (by omega)))
  have ho3 := ho.of_block (h3.block b ho.lt)
  exact ⟨ho3.cells.2.2.2.1, w4, hrun, r1, ho3.of_block (r2.block b ho3.lt (by simp; exact fun e => hne e.symm)), hg.trans r2⟩

set_option maxHeartbeats 1000000 in
theorem num_found (b : Nat) (s : ByteArray) (bk p v : Int) (w : World)
    (hf : ∀ o, Calls Try.prog 9 #[.pointer (some ⟨b, 0, none⟩), .agg #[.string s, .int .i16 bk, .int .i16 p]] (w.alloc o) fun e w' => e = .returned (.tuple #[.int .i32 v, .bool true]) ∧ Below (w.alloc o).heap.size (w.alloc o) w') :
    Calls Try.prog 10 #[.pointer (some ⟨b, 0, none⟩), .agg #[.string s, .int .i16 bk, .int .i16 p]] w fun e w' => e = .returned (.int .i32 v) ∧ Below w.heap.size w w' := by
  have HF := hide hf
  clear hf
  go_enter Try.func10, Try.ntmps10
  go_wp2_with fail
  refine (HF.out _).mono ?_
  rintro e w2 ⟨rfl, h2⟩
  have H2 := hide h2
  clear h2
  go_wp2
  go_ret
  exact ⟨rfl, ((Below.refl _ _).alloc (Nat.le_refl _) _).trans (H2.out.mono (by simp))⟩

set_option maxHeartbeats 2000000 in
theorem num_oth (b : Nat) (s : ByteArray) (p : Int) (c n bm : Nat) (x : Int) (vb vl : Value) (D : DataW Unit) (w : World) (hs : s.size ≤ 1048576) (hc : c ≤ 1000000) (hn : n ≤ 1000000) (ho : Own b c vb vl (some bm) w)
    (hm : w.ownsMap Try.prog 9 (plainElem Try.prog 21) bm n D)
    (hf : ∀ o, Calls Try.prog 9 #[.pointer (some ⟨b, 0, none⟩), .agg #[.string s, .int .i16 0, .int .i16 p]] (w.alloc o) fun e w' => e = .returned (.tuple #[.int .i32 x, .bool false]) ∧ Below (w.alloc o).heap.size (w.alloc o) w') :
    Calls Try.prog 10 #[.pointer (some ⟨b, 0, none⟩), .agg #[.string s, .int .i16 0, .int .i16 p]] w fun e w' => e = .returned (.int .i32 c) ∧ Own b ((c : Int) + 1) vb vl (some bm) w' ∧
      w'.ownsMap Try.prog 9 (plainElem Try.prog 21) bm (n + 1) (D.put (.string s.data.toList) (.lit (.int .i32 c))) ∧ Turn (fun k => k = b ∨ k = bm) w w' := by
  have HF := hide hf
  clear hf
  have hbm := hm.lt
  have hbb := ho.lt
  have hne : bm ≠ b := by
    intro e; subst e
    obtain ⟨es, clock, hb, _⟩ := hm
    unfold Own at ho; rw [hb] at ho; cases ho
  have hmap := eql31
  go_enter Try.func10, Try.ntmps10
  go_wp2_with fail
  refine (HF.out _).mono ?_
  rintro e w2 ⟨rfl, h2⟩
  have h2' : Below w.heap.size w w2 := ((Below.refl _ _).alloc (Nat.le_refl _) _).trans (h2.mono (by simp))
  have ho2 := ho.of_block (h2'.block b hbb)
  have hm2 : w2.ownsMap Try.prog 9 (plainElem Try.prog 21) bm n D := hm.kept (row := none) ⟨h2'.os, h2'.tape, h2'.output, h2'.size, fun k hk _ => h2'.block k hk⟩ (by simp)
  obtain ⟨c0, c1, c2, c3, cf⟩ := ho2.cells
  have cf0 := cf 0
  have kx : w2.cell? ⟨w.heap.size, 0, none⟩ = some (.string s) ∧ w2.cell? ⟨w.heap.size, 1, none⟩ = some (.int .i16 0) := by
    have := h2.cell (p := ⟨w.heap.size, 0, none⟩) (by simp)
    have t2 := h2.cell (p := ⟨w.heap.size, 1, none⟩) (by simp)
    rw [this, t2]; simp
  obtain ⟨k0, k1⟩ := kx
  have HH2 := hide h2'
  have HM2 := hide hm2
  clear h2 h2' hm2 cf ho hm
  have HO2 : Hid (Own b c vb vl (some bm) w2) := ho2
  clear ho2
  go_wp2_with fail
  go_region_with (go_at_call 13; refine (clone_any s _ hs).mono ?_; rintro e w3 ⟨rfl, h3⟩; obtain ⟨hc3, w4, hrun, r1, r2, r3⟩ := upd_facts (W := (w2.setCell ⟨b, 0, none⟩ (.int .i32 ((c : Int) + 1))).drew) ((HM2.out.setCell hne _).drew) (HO2.out.set0 ((c : Int) + 1)) hne hn h3 s hs c hc)
  all_goals
    have T4 : Hid (Turn (fun k => k = b ∨ k = bm) w w4) := (((Turn.of_below HH2.out).setCell (p := ⟨b, 0, none⟩) (Or.inl rfl) _).drew).grown r3 (fun k hk _ => Or.inr (by cases hk; rfl))
    have R1 := hide r1
    have R2 := hide r2
    clear r1 r2 r3 h3
    go_wp2
    go_ret
    exact ⟨rfl, R2.out, R1.out, T4.out⟩
set_option maxHeartbeats 2000000 in
theorem num_oth_nil (b : Nat) (s : ByteArray) (p : Int) (c : Nat) (x : Int) (vb vl : Value) (w : World) (hs : s.size ≤ 1048576) (hc : c ≤ 1000000) (ho : Own b c vb vl none w)
    (hf : ∀ o, Calls Try.prog 9 #[.pointer (some ⟨b, 0, none⟩), .agg #[.string s, .int .i16 0, .int .i16 p]] (w.alloc o) fun e w' => e = .returned (.tuple #[.int .i32 x, .bool false]) ∧ Below (w.alloc o).heap.size (w.alloc o) w') :
    Calls Try.prog 10 #[.pointer (some ⟨b, 0, none⟩), .agg #[.string s, .int .i16 0, .int .i16 p]] w fun e w' => e = .returned (.int .i32 c) ∧ ∃ bm, w.heap.size ≤ bm ∧ Own b ((c : Int) + 1) vb vl (some bm) w' ∧
      w'.ownsMap Try.prog 9 (plainElem Try.prog 21) bm 1 (DataW.put (.map []) (.string s.data.toList) (.lit (.int .i32 c)) : DataW Unit) ∧ Turn (fun k => k = b) w w' := by
  have HF := hide hf
  clear hf
  have hbb := ho.lt
  have hmm := @run_makeMap Try.prog
  have hmap := eql31
  go_enter Try.func10, Try.ntmps10
  go_wp2_with fail
  refine (HF.out _).mono ?_
  rintro e w2 ⟨rfl, h2⟩
  have h2' : Below w.heap.size w w2 := ((Below.refl _ _).alloc (Nat.le_refl _) _).trans (h2.mono (by simp))
  have ho2 := ho.of_block (h2'.block b hbb)
  obtain ⟨c0, c1, c2, c3, cf⟩ := ho2.cells
  have cf0 := cf 0
  have kx : w2.cell? ⟨w.heap.size, 0, none⟩ = some (.string s) ∧ w2.cell? ⟨w.heap.size, 1, none⟩ = some (.int .i16 0) := by
    have := h2.cell (p := ⟨w.heap.size, 0, none⟩) (by simp)
    have t2 := h2.cell (p := ⟨w.heap.size, 1, none⟩) (by simp)
    rw [this, t2]; simp
  obtain ⟨k0, k1⟩ := kx
  have HH2 := hide h2'
  have HH0 : Hid (w.heap.size + 1 ≤ w2.heap.size) := by have := h2.size; simp at this; exact this
  clear h2 h2' ho
  have hb2 : b < w2.heap.size := ho2.lt
  have hb3 : w.heap.size < w2.heap.size := by have := HH0.out; omega
  have HO2 : Hid (Own b c vb vl none w2) := ho2
  clear ho2
  have hne : w2.heap.size ≠ b := by omega
  go_wp2_with fail
  have HMAP : Hid ((((w2.setCell ⟨b, 0, none⟩ (.int .i32 ((c : Int) + 1))).setCell ⟨b, 3, none⟩ (.map (some w2.heap.size))).alloc (.map #[] 0)).drew.ownsMap Try.prog 9 (plainElem Try.prog 21) w2.heap.size 0 (.map [] : DataW Unit)) := by
    have := World.ownsMap_made (H := Unit) ((w2.setCell ⟨b, 0, none⟩ (.int .i32 ((c : Int) + 1))).setCell ⟨b, 3, none⟩ (.map (some w2.heap.size))) Try.prog 9 (plainElem Try.prog 21)
    simp only [World.size_setCell] at this
    exact this.drew
  have HOWN : Hid (Own b ((c : Int) + 1) vb vl (some w2.heap.size) (((w2.setCell ⟨b, 0, none⟩ (.int .i32 ((c : Int) + 1))).setCell ⟨b, 3, none⟩ (.map (some w2.heap.size))).alloc (.map #[] 0)).drew) :=
    ((HO2.out.set0 ((c : Int) + 1)).set3 (some w2.heap.size)).of_block (Below.heap_alloc _ _ _ (by simpa using hb2))
  go_region_with (go_at_call 13; refine (clone_any s _ hs).mono ?_; rintro e w3 ⟨rfl, h3⟩; obtain ⟨hc3, w4, hrun, r1, r2, r3⟩ := upd_facts HMAP.out HOWN.out hne (by omega) h3 s hs c hc)
  all_goals
    have T4 : Hid (Turn (fun k => k = b) w w4) := (((((Turn.of_below (F := fun k => k = b) HH2.out).setCell (p := ⟨b, 0, none⟩) rfl _).setCell (p := ⟨b, 3, none⟩) rfl _).alloc _).drew).grown r3 (fun k hk hlt => by cases hk; omega)
    have R1 := hide r1
    have R2 := hide r2
    clear r1 r2 r3 h3
    go_wp2
    go_ret
    exact ⟨rfl, w2.heap.size, by omega, R2.out, R1.out, T4.out⟩
end Go.Proofs.Qxb6628761a
