import Derived.Test.Qxb6628761aNumB
namespace Go.Proofs.Qxb6628761a
open Go.ChangeShapes Go.WideShapes Go.ChangeAt Go.RowKit Go.Maps

/-- the map of the other symbols -/
def OthAt (B : Nat) (mo : Option Nat) (n : Nat) (D : DataW Unit) (w : World) : Prop :=
  (mo = none ∧ D = .map []) ∨ ∃ bm, mo = some bm ∧ B ≤ bm ∧ w.ownsMap Try.prog 9 (plainElem Try.prog 21) bm n D

/-- the table of the blocks -/
def BofAt (B : Nat) (vb : Value) (bo : Nat → Nat) (w : World) : Prop :=
  (vb = .slice none 0 0 ∧ ∀ i, bo i = 0) ∨ ∃ g, vb = .slice (some ⟨g, 0, none⟩) 3000 3000 ∧ B ≤ g ∧ w.rowIs g 21 3000 (fun i => .int .i32 (bo i : Int))

/-- the cells of the blocks -/
def cellsBl (nb : Nat) (bl : Nat → Nat → Nat) : List Value := (List.range (nb * 1000)).map fun q => .int .i32 (bl (q / 1000) (q % 1000) : Int)

structure Rep (B b c : Nat) (vb vl : Value) (mo : Option Nat) (bo : Nat → Nat) (nb : Nat) (bl : Nat → Nat → Nat) (D : DataW Unit) (w : World) : Prop where
  lt : b < B
  le : B ≤ w.heap.size
  own : Own b c vb vl mo w
  oth : OthAt B mo c D w
  bof : BofAt B vb bo w
  bls : w.ownsRow B 47 1000 vl nb (cellsBl nb bl)

/-- what the representation says -/
structure Sem2 (f : ByteArray → Int → Int → Option Nat) (c : Nat) (bo : Nat → Nat) (nb : Nat) (bl : Nat → Nat → Nat) (D : DataW Unit) : Prop where
  nbc : nb ≤ c
  bol : ∀ i : Nat, bo i ≤ nb
  inj : ∀ i i' : Nat, bo i ≠ 0 → bo i = bo i' → i = i'
  bll : ∀ j p : Nat, j < nb → p < 1000 → bl j p ≤ c
  isMap : IsMap D
  others : ∀ s : ByteArray, s.size ≤ 1048576 → (f s 0 0 = none ∧ Maps.has D (.string s.data.toList) = false) ∨
    ∃ v, v < c ∧ f s 0 0 = some v ∧ Maps.has D (.string s.data.toList) = true ∧ D.atKey (.string s.data.toList) (.lit (.int .i32 0)) = .lit (.int .i32 (v : Int))
  blocks : ∀ i p : Nat, i < 3000 → p < 1000 → f ByteArray.empty ((i : Int) + 1) (p : Int) = if bo i = 0 then none else if bl (bo i - 1) p = 0 then none else some (bl (bo i - 1) p - 1)

/-- blocks of the Numbering: its own and those from B on -/
theorem Rep.kept {B b c : Nat} {vb vl : Value} {mo : Option Nat} {bo : Nat → Nat} {nb : Nat} {bl : Nat → Nat → Nat} {D : DataW Unit} {w w' : World} (h : Rep B b c vb vl mo bo nb bl D w) (hz : w.heap.size ≤ w'.heap.size)
    (hk : ∀ k, k < w.heap.size → (k = b ∨ B ≤ k) → w'.heap[k]? = w.heap[k]?) : Rep B b c vb vl mo bo nb bl D w' := by
  refine ⟨h.lt, Nat.le_trans h.le hz, h.own.of_block (hk b h.own.lt (Or.inl rfl)), ?_, ?_, ?_⟩
  · rcases h.oth with h0 | ⟨bm, e, hB, hm⟩
    · exact Or.inl h0
    · refine Or.inr ⟨bm, e, hB, ?_⟩
      have hlt := hm.lt
      obtain ⟨es, clock, hb, r⟩ := hm
      exact ⟨es, clock, by rw [hk bm hlt (Or.inr hB)]; exact hb, r⟩
  · rcases h.bof with h0 | ⟨g, e, hB, hr⟩
    · exact Or.inl h0
    · exact Or.inr ⟨g, e, hB, hr.of_block (hk g hr.lt (Or.inr hB))⟩
  · obtain ⟨h1, h2⟩ := h.bls
    refine ⟨h1, ?_⟩
    rcases h2 with h2 | ⟨g, cap, cur, hv, hg, hh, r⟩
    · exact Or.inl h2
    · exact Or.inr ⟨g, cap, cur, hv, hg, by rw [hk g (Array.getElem?_eq_some_iff.1 hh).1 (Or.inr hg)]; exact hh, r⟩

theorem Rep.below {B b c : Nat} {vb vl : Value} {mo : Option Nat} {bo : Nat → Nat} {nb : Nat} {bl : Nat → Nat → Nat} {D : DataW Unit} {w w' : World} (h : Rep B b c vb vl mo bo nb bl D w) (hb : Below w.heap.size w w') : Rep B b c vb vl mo bo nb bl D w' :=
  h.kept hb.size (fun k hk _ => hb.block k hk)

theorem cellsBl_at (nb : Nat) (bl : Nat → Nat → Nat) (j p : Nat) (hj : j < nb) (hp : p < 1000) : (cellsBl nb bl)[j * 1000 + p]? = some (.int .i32 (bl j p : Int)) := by
  unfold cellsBl
  have h1 : j * 1000 + p < nb * 1000 := by omega
  rw [List.getElem?_map, List.getElem?_range h1]
  simp only [Option.map_some]
  rw [show (j * 1000 + p) / 1000 = j by omega, show (j * 1000 + p) % 1000 = p by omega]

/-- the identity of a key -/
def Dom (s : ByteArray) (bk p : Int) : Prop := s.size ≤ 1048576 ∧ (bk = 0 ∨ (1 ≤ bk ∧ bk ≤ 3000 ∧ 0 ≤ p ∧ p ≤ 999))

theorem find_rep {B b c : Nat} {vb vl : Value} {mo : Option Nat} {bo : Nat → Nat} {nb : Nat} {bl : Nat → Nat → Nat} {D : DataW Unit} {w : World} {f : ByteArray → Int → Int → Option Nat}
    (R : Rep B b c vb vl mo bo nb bl D w) (M : Sem2 f c bo nb bl D) (hc : c ≤ 1000000) (s : ByteArray) (bk p : Int) (hd : Dom s bk p) :
    ∃ (x : Int) (ok : Bool), (∀ wx, Below w.heap.size w wx → Calls Try.prog 9 #[.pointer (some ⟨b, 0, none⟩), .agg #[.string s, .int .i16 bk, .int .i16 p]] wx fun e w' => e = .returned (.tuple #[.int .i32 x, .bool ok]) ∧ Below wx.heap.size wx w') ∧
      ((f (idS s bk) bk (idP bk p) = none ∧ ok = false) ∨ ∃ v, v < c ∧ f (idS s bk) bk (idP bk p) = some v ∧ ok = true ∧ x = v) := by
  obtain ⟨hs, hd⟩ := hd
  rcases hd with rfl | ⟨h1, h2, h3, h4⟩
  · have e1 : idS s 0 = s := by simp [idS]
    have e2 : idP 0 p = 0 := by simp [idP]
    rw [e1, e2]
    have hmx : s.size ≤ maxLen := by unfold maxLen; omega
    have hkey := WideMaps.keyOf_string_mk (P := Try.prog) (k := 9) Try.underlying9 hmx
    -- the look-up, in whatever later world
    obtain ⟨x, hx1, hx2⟩ : ∃ x : Int, (∀ wx, Below w.heap.size w wx → (Instr.lookup 31 (.map mo) (.string s) true).run Try.prog wx = .ok (.tuple #[.int .i32 x, .bool (Maps.has D (.string s.data.toList))]) wx) ∧ D.atKey (.string s.data.toList) (.lit (.int .i32 0)) = .lit (.int .i32 x) := by
      rcases R.oth with ⟨rfl, rfl⟩ | ⟨bm, rfl, hB, hm⟩
      · refine ⟨0, fun wx _ => ?_, rfl⟩
        have := Maps.look_nil (w := wx) (t := 31) (e := 21) true law9 Try.underlying31 (zero21 wx) hkey
        rw [if_pos rfl] at this
        exact this
      · obtain ⟨v, ps, hrun, hR⟩ := hm.look_ok law9 Try.underlying31 (zero21 w) (plainElem_int Try.underlying21 (a := 0) (by decide)) hkey
        obtain ⟨a, rfl, hz, _⟩ := plainElem_int_inv Try.underlying21 hR
        have hz1 : D.atKey (.string s.data.toList) (.lit (.int .i32 0)) = .lit (.int .i32 a) := congrArg Prod.fst hz
        refine ⟨a, fun wx hb => ?_, hz1⟩
        have hmx2 : wx.ownsMap Try.prog 9 (plainElem Try.prog 21) bm c D := hm.kept (row := none) ⟨hb.os, hb.tape, hb.output, hb.size, fun k hk _ => hb.block k hk⟩ (by simp)
        obtain ⟨v', ps', hrun', hR'⟩ := hmx2.look_ok law9 Try.underlying31 (zero21 wx) (plainElem_int Try.underlying21 (a := 0) (by decide)) hkey
        obtain ⟨a', rfl, hz', _⟩ := plainElem_int_inv Try.underlying21 hR'
        have hz2 : D.atKey (.string s.data.toList) (.lit (.int .i32 0)) = .lit (.int .i32 a') := congrArg Prod.fst hz'
        rw [hz1] at hz2
        have : a = a' := by injection hz2 with h; injection h
        subst this
        exact hrun'
    refine ⟨x, Maps.has D (.string s.data.toList), fun wx hb => ?_, ?_⟩
    · have Rx := R.below hb
      exact find_oth b s p mo x _ wx Rx.own.lt Rx.own.cells.2.2.2.1 (fun nq o => hx1 _ (hb.trans ((below_drewN ((Below.refl _ _).alloc (Nat.le_refl _) _) nq).mono hb.size)))
    · rcases M.others s hs with ⟨h1, h2⟩ | ⟨v, hv, h1, h2, h3⟩
      · exact Or.inl ⟨h1, h2⟩
      · refine Or.inr ⟨v, hv, h1, h2, ?_⟩
        rw [hx2] at h3
        injection h3 with h; injection h
  · obtain ⟨i, rfl⟩ : ∃ i : Nat, bk = (i : Int) + 1 := ⟨(bk - 1).toNat, by omega⟩
    obtain ⟨q, rfl⟩ := Int.eq_ofNat_of_zero_le h3
    have hi : i < 3000 := by omega
    have hq : q < 1000 := by omega
    have e1 : idS s ((i : Int) + 1) = ByteArray.empty := by unfold idS; rw [if_neg (by omega)]
    have e2 : idP ((i : Int) + 1) (q : Int) = q := by unfold idP; rw [if_neg (by omega)]
    rw [e1, e2, M.blocks i q hi hq]
    rcases R.bof with ⟨rfl, h0⟩ | ⟨g, rfl, hB, hr⟩
    · refine ⟨0, false, fun wx hb => ?_, Or.inl ⟨by rw [if_pos (h0 i)], rfl⟩⟩
      have Rx := R.below hb
      exact find_nil b s _ _ wx Rx.own.lt (by omega) (by omega) Rx.own.cells.2.1
    · by_cases hz : bo i = 0
      · refine ⟨0, false, fun wx hb => ?_, Or.inl ⟨by rw [if_pos hz], rfl⟩⟩
        have Rx := R.below hb
        have hrx := hr.of_block (hb.block g hr.lt)
        exact find_zero b s i _ g wx Rx.own.lt hrx.lt hi Rx.own.cells.2.1 (by rw [hrx.cell hi, hz]; rfl)
      · have hnb := M.nbc
        have hbo := M.bol i
        obtain ⟨j, hj⟩ : ∃ j, bo i = j + 1 := ⟨bo i - 1, by omega⟩
        rw [if_neg hz, show bo i - 1 = j by omega]
        have hblb := M.bll j q (by omega) hq
        obtain ⟨h, cap, hv⟩ : ∃ h cap, vl = .slice (some ⟨h, 0, none⟩) nb cap := by
          rcases R.bls.2 with ⟨_, h0⟩ | ⟨g', cap, cur, hv, _⟩
          · omega
          · exact ⟨g', cap, hv⟩
        subst hv
        refine ⟨(bl j q : Int) - 1, ((bl j q : Int) != 0), fun wx hb => ?_, ?_⟩
        · have Rx := R.below hb
          have hrx := hr.of_block (hb.block g hr.lt)
          have hox := Rx.bls
          exact find_blk b s i q g h j nb cap (bl j q) wx Rx.own.lt hrx.lt (hox.lt h rfl).2 hi hq (by omega) (by omega) (by omega) Rx.own.cells.2.1 Rx.own.cells.2.2.1
            (by rw [hrx.cell hi, hj]; simp) (by rw [hox.cellAt _ (by omega)]; exact cellsBl_at nb bl j q (by omega) hq)
        · by_cases hb0 : bl j q = 0
          · exact Or.inl ⟨by rw [if_pos hb0], by rw [hb0]; rfl⟩
          · refine Or.inr ⟨bl j q - 1, by omega, by rw [if_neg hb0], ?_, by omega⟩
            rw [bne_iff_ne]; omega
end Go.Proofs.Qxb6628761a
