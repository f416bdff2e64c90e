import Derived.Test.Qxb6628761aNumber
import Derived.Lib.SmallJoins
namespace Go.Proofs.Qxb6628761a
open Go.ChangeShapes Go.WideShapes Go.ChangeAt Go.RowKit Go.Maps Go.Joins

theorem laidOut : laidOutB Try.prog = true := by kernel_rfl
theorem row35 : (35 : TypeId) < Try.prog.types.size := of_decide_eq_true (by kernel_rfl)
theorem wide35 : (match Try.prog.underlying 35 with | some (.array _ _) | some (.struct _) => true | _ => false) = true := by kernel_rfl
theorem deep35 : Try.prog.keyTypeAt (Try.prog.types.size + 1) 35 = true := by kernel_rfl
theorem law35 : Keyed Try.prog 35 := Keyed.of_law (deep_law_laid laidOut (m := 3) (by omega) row35 (by kernel_rfl) wide35)
theorem cells35 : Try.prog.cellsOf 35 = 3 := by kernel_rfl

/-- the literal that an identity reads as, as a key -/
def kl (s : ByteArray) (b p : Int) : Lit := (DataW.agg [.lit (.string s.data.toList), .lit (.int .i16 b), .lit (.int .i16 p)] : DataW Unit).asKey

def IdOk (s : ByteArray) (b p : Int) : Prop := s.size ≤ maxLen ∧ (Lit.int .i16 b).wf = true ∧ (Lit.int .i16 p).wf = true

theorem key35 (s : ByteArray) (b p : Int) (h : IdOk s b p) (w : World) : keyOf Try.prog 35 (.agg #[.string s, .int .i16 b, .int .i16 p]) = some (kl s b p) := by
  obtain ⟨h1, h2, h3⟩ := h
  have hf : (Value.agg #[.string s, .int .i16 b, .int .i16 p]).formed Try.prog 35 = true := by
    simp [Value.formed, Try.underlying35, cells35]
  have ht : DataW.Trod (fun _ => ()) Try.prog w 0 (fun _ => true) true 35 (.agg #[.string s, .int .i16 b, .int .i16 p]) (.agg [.lit (.string s.data.toList), .lit (.int .i16 b), .lit (.int .i16 p)]) [] :=
    shut_agg3 (y0 := (.lit (.string s.data.toList), [])) (y1 := (.lit (.int .i16 b), [])) (y2 := (.lit (.int .i16 p), [])) Try.underlying35 (by kernel_rfl) cells35
      ⟨1, by simp [DataW.trod, Try.underlying9, h1]⟩ ⟨1, by simp [DataW.trod, Try.underlying24, h2]⟩ ⟨1, by simp [DataW.trod, Try.underlying24, h3]⟩
  exact (keyOf_asKey deep35 wide35 hf ht).1

theorem kl_inj {s s' : ByteArray} {b b' p p' : Int} (w : World) (h : IdOk s b p) (h' : IdOk s' b' p') (e : kl s b p = kl s' b' p') : s = s' ∧ b = b' ∧ p = p' := by
  have a1 := key35 s b p h w
  have a2 := key35 s' b' p' h' w
  rw [← e] at a2
  have := law35.inj a1 a2
  simp only [Value.agg.injEq, Array.mk.injEq, List.cons.injEq, Value.string.injEq, Value.int.injEq, true_and, and_true] at this
  exact ⟨this.1, this.2.1, this.2.2⟩

theorem kl_key (s : ByteArray) (b p : Int) (h : IdOk s b p) (w : World) : WideAt.IsKeyLit (kl s b p) := law35.key (key35 s b p h w)

/-- what a look-up answers -/
def Ans (o : Option Nat) (r : Int) (ok : Bool) : Prop := (o = none ∧ r = 0 ∧ ok = false) ∨ ∃ v : Nat, o = some v ∧ r = v ∧ ok = true

/-- the map D says what f says -/
def Tied (f : ByteArray → Int → Int → Option Nat) (c : Nat) (D : DataW Unit) : Prop := ∀ s b p, IdOk s b p → (f s b p = none ∧ Maps.has D (kl s b p) = false) ∨
    ∃ v, v < c ∧ f s b p = some v ∧ Maps.has D (kl s b p) = true ∧ D.atKey (kl s b p) (.lit (.int .i32 0)) = .lit (.int .i32 (v : Int))

def SeenAt (sb n : Nat) (f : ByteArray → Int → Int → Option Nat) (c : Nat) (w : World) : Prop := ∃ D, w.ownsMap Try.prog 35 (plainElem Try.prog 21) sb n D ∧ Tied f c D

theorem SeenAt.lt {sb n c : Nat} {f : ByteArray → Int → Int → Option Nat} {w : World} (h : SeenAt sb n f c w) : sb < w.heap.size := by
  obtain ⟨D, h, _⟩ := h; exact h.lt
theorem SeenAt.of_block {sb n c : Nat} {f : ByteArray → Int → Int → Option Nat} {w w' : World} (h : SeenAt sb n f c w) (e : w'.heap[sb]? = w.heap[sb]?) : SeenAt sb n f c w' := by
  obtain ⟨D, ⟨es, clock, hb, r⟩, t⟩ := h
  exact ⟨D, ⟨es, clock, e.trans hb, r⟩, t⟩
theorem SeenAt.made (w : World) : SeenAt w.heap.size 0 (fun _ _ _ => none) 0 (w.alloc (.map #[] 0)) :=
  ⟨.map [], World.ownsMap_made _ _ _ _, fun _ _ _ _ => Or.inl ⟨rfl, rfl⟩⟩

theorem Tied.put {f : ByteArray → Int → Int → Option Nat} {c : Nat} {D : DataW Unit} (h : Tied f c D) (hm : IsMap D) (s : ByteArray) (b p : Int) (hi : IdOk s b p) (w : World) : Tied (upd f s b p c) (c + 1) (D.put (kl s b p) (.lit (.int .i32 (c : Int)))) := by
  intro s' b' p' hi'
  by_cases e : s' = s ∧ b' = b ∧ p' = p
  · obtain ⟨rfl, rfl, rfl⟩ := e
    exact Or.inr ⟨c, Nat.lt_succ_self _, upd_same _ _ _ _ _, has_put_same hm (kl_key s' b' p' hi w) _, atKey_put_same hm (kl_key s' b' p' hi w) _ _⟩
  · have hne : kl s' b' p' ≠ kl s b p := fun h => e (kl_inj w hi' hi h)
    rw [upd_other e, has_put_other hne, atKey_put_other hne]
    rcases h s' b' p' hi' with h0 | ⟨v, hv, r⟩
    · exact Or.inl h0
    · exact Or.inr ⟨v, Nat.lt_succ_of_lt hv, r⟩

section
variable (w : World) {ops : Array Oper} {rest : List Oper} {o : Oper} {a : Act} {Q : Exit → Act → World → Prop}

theorem wpList_seen (hg : o.guard = none) (m x : Operand) (hop : o.op = Op.lookup 28 m x true) (sb n : Nat) (f : ByteArray → Int → Int → Option Nat) (c : Nat) (hm : a.eval m = .map (some sb)) (hs : SeenAt sb n f c w)
    (s : ByteArray) (b p : Int) (hi : IdOk s b p) (hx : a.eval x = .agg #[.string s, .int .i16 b, .int .i16 p]) (r : Int) (ok : Bool) (hr : Ans (f s b p) r ok)
    (hK : wpList Try.prog ops Q rest (a.put o.dst (.tuple #[.int .i32 r, .bool ok])) w) : wpList Try.prog ops Q (o :: rest) a w := by
  obtain ⟨D, hown, ht⟩ := hs
  refine wpList_lookup_own_ok_int w hg m x 28 hop 35 21 .i32 law35 Try.underlying28 Try.underlying21 (zero21 w) sb n D hm hown _ _ hx (key35 s b p hi w) (fun c' hat _ => ?_)
  have : c' = r ∧ Maps.has D (kl s b p) = ok := by
    rcases ht s b p hi with ⟨h1, h2⟩ | ⟨v, _, h1, h2, h3⟩
    · rcases hr with ⟨_, rfl, rfl⟩ | ⟨v, hv, _⟩
      · rw [atKey_of_not_has h2] at hat
        injection hat with h; injection h with _ h
        exact ⟨h.symm, h2⟩
      · rw [h1] at hv; cases hv
    · rcases hr with ⟨hv, _⟩ | ⟨v', hv, rfl, rfl⟩
      · rw [h1] at hv; cases hv
      · rw [h1] at hv; cases hv
        rw [h3] at hat
        injection hat with h; injection h with _ h
        exact ⟨h.symm, h2⟩
  rw [this.1, this.2]
  exact hK

theorem wpList_seen_put (hg : o.guard = none) (m x v : Operand) (hop : o.op = Op.mapUpdate 28 m x v) (sb n : Nat) (f : ByteArray → Int → Int → Option Nat) (c : Nat) (hc : c ≤ 1000000) (hn : n ≤ 1000000) (hm : a.eval m = .map (some sb)) (hs : SeenAt sb n f c w)
    (s : ByteArray) (b p : Int) (hi : IdOk s b p) (hx : a.eval x = .agg #[.string s, .int .i16 b, .int .i16 p]) (hv : a.eval v = .int .i32 c)
    (hK : ∀ w', SeenAt sb (n + 1) (upd f s b p c) (c + 1) w' → w.grownBy w' (some sb) → wpList Try.prog ops Q rest (a.put o.dst undef) w') : wpList Try.prog ops Q (o :: rest) a w := by
  obtain ⟨D, hown, ht⟩ := hs
  refine wpList_mapUpdate_own w hg m x v 28 hop 35 21 law35 Try.underlying28 (plainElem Try.prog 21) sb n D hm hown (by unfold maxLen; omega) _ _ _ hx hv (key35 s b p hi w) (.lit (.int .i32 (c : Int))) [] (plainElem_int Try.underlying21 (WalkArith.wf_i32 (by omega))) (fun w' h1 h2 => ?_)
  exact hK w' ⟨_, h1, ht.put hown.isMap s b p hi w⟩ h2
end

/-- a Numbering that has numbered none -/
theorem NumAt.fresh {B b : Nat} {w : World} (hb : b < B) (hB : B ≤ w.heap.size) (h : w.heap[b]? = some (.cells #[.int .i32 0, .slice none 0 0, .slice none 0 0, .map none] 33 (0, 0))) : NumAt B b (fun _ _ _ => none) 0 w := by
  refine ⟨.slice none 0 0, .slice none 0 0, none, fun _ => 0, 0, fun _ _ => 0, .map [], ⟨hb, hB, h, Or.inl ⟨rfl, rfl⟩, Or.inl ⟨rfl, fun _ => rfl⟩, World.ownsRow_nil _ _ _ _⟩, ?_⟩
  exact ⟨Nat.le_refl _, fun _ => Nat.le_refl _, fun _ _ h => absurd rfl h, fun _ _ _ _ => Nat.le_refl _, isMap_empty, fun _ _ => Or.inl ⟨rfl, rfl⟩, fun _ _ _ _ => by simp⟩
end Go.Proofs.Qxb6628761a
