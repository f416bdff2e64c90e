import Derived.Test.Qxb6628761aInv
namespace Go.Proofs.Qxb6628761a
open Go.ChangeShapes Go.WideShapes Go.ChangeAt Go.RowKit Go.Maps

/-- one identity more -/
def upd (f : ByteArray → Int → Int → Option Nat) (s : ByteArray) (b p : Int) (c : Nat) : ByteArray → Int → Int → Option Nat := fun s' b' p' => if s' = s ∧ b' = b ∧ p' = p then some c else f s' b' p'

theorem upd_same (f : ByteArray → Int → Int → Option Nat) (s : ByteArray) (b p : Int) (c : Nat) : upd f s b p c s b p = some c := by simp [upd]
theorem upd_other {f : ByteArray → Int → Int → Option Nat} {s s' : ByteArray} {b b' p p' : Int} {c : Nat} (h : ¬ (s' = s ∧ b' = b ∧ p' = p)) : upd f s b p c s' b' p' = f s' b' p' := by unfold upd; rw [if_neg h]

theorem ba_ext {a b : ByteArray} (h : a.data.toList = b.data.toList) : a = b := by
  cases a with | mk x => cases b with | mk y =>
  have : x = y := by simpa using h
  rw [this]

theorem sem_oth {f : ByteArray → Int → Int → Option Nat} {c : Nat} {bo : Nat → Nat} {nb : Nat} {bl : Nat → Nat → Nat} {D : DataW Unit} (M : Sem2 f c bo nb bl D) (s : ByteArray) :
    Sem2 (upd f s 0 0 c) (c + 1) bo nb bl (D.put (.string s.data.toList) (.lit (.int .i32 (c : Int)))) := by
  refine ⟨Nat.le_succ_of_le M.nbc, M.bol, M.inj, fun j p hj hp => Nat.le_succ_of_le (M.bll j p hj hp), M.isMap.put _ _, fun s' hs' => ?_, fun i p hi hp => ?_⟩
  · by_cases e : s' = s
    · subst e
      refine Or.inr ⟨c, Nat.lt_succ_self _, upd_same _ _ _ _ _, has_put_same M.isMap (k := .string _) (by trivial) _, ?_⟩
      exact atKey_put_same M.isMap (k := .string _) (by trivial) _ _
    · have hne : (Lit.string s'.data.toList) ≠ (Lit.string s.data.toList) := fun h => e (ba_ext (by injection h))
      rw [upd_other (by simp [e]), has_put_other hne, atKey_put_other hne]
      rcases M.others s' hs' with h | ⟨v, hv, r⟩
      · exact Or.inl h
      · exact Or.inr ⟨v, Nat.lt_succ_of_lt hv, r⟩
  · rw [upd_other (fun h => by have := h.2.1; omega)]
    exact M.blocks i p hi hp

def upd2 (bl : Nat → Nat → Nat) (j p v : Nat) : Nat → Nat → Nat := fun j' p' => if j' = j ∧ p' = p then v else bl j' p'

theorem sem_old {f : ByteArray → Int → Int → Option Nat} {c : Nat} {bo : Nat → Nat} {nb : Nat} {bl : Nat → Nat → Nat} {D : DataW Unit} (M : Sem2 f c bo nb bl D) (i j q : Nat) (hj : bo i = j + 1) :
    Sem2 (upd f ByteArray.empty ((i : Int) + 1) (q : Int) c) (c + 1) bo nb (upd2 bl j q (c + 1)) D := by
  refine ⟨Nat.le_succ_of_le M.nbc, M.bol, M.inj, fun j' p hj' hp => ?_, M.isMap, fun s' hs' => ?_, fun i' p hi hp => ?_⟩
  · unfold upd2
    split
    · exact Nat.le_refl _
    · exact Nat.le_succ_of_le (M.bll j' p hj' hp)
  · rw [upd_other (fun h => by have := h.2.1; omega)]
    rcases M.others s' hs' with h | ⟨v, hv, r⟩
    · exact Or.inl h
    · exact Or.inr ⟨v, Nat.lt_succ_of_lt hv, r⟩
  · by_cases e : i' = i ∧ p = q
    · obtain ⟨rfl, rfl⟩ := e
      rw [upd_same, if_neg (by omega), hj, Nat.add_sub_cancel]
      simp [upd2]
    · rw [upd_other (fun h => e ⟨by have := h.2.1; omega, by have := h.2.2; omega⟩), M.blocks i' p hi hp]
      by_cases hz : bo i' = 0
      · rw [if_pos hz, if_pos hz]
      · rw [if_neg hz, if_neg hz]
        have : upd2 bl j q (c + 1) (bo i' - 1) p = bl (bo i' - 1) p := by
          unfold upd2
          rw [if_neg (fun h => e ⟨M.inj i' i hz (by omega), h.2⟩)]
        rw [this]

def updF (bo : Nat → Nat) (i v : Nat) : Nat → Nat := fun i' => if i' = i then v else bo i'
def addB (bl : Nat → Nat → Nat) (nb q v : Nat) : Nat → Nat → Nat := fun j p => if j = nb then (if p = q then v else 0) else bl j p

theorem sem_new {f : ByteArray → Int → Int → Option Nat} {c : Nat} {bo : Nat → Nat} {nb : Nat} {bl : Nat → Nat → Nat} {D : DataW Unit} (M : Sem2 f c bo nb bl D) (i q : Nat) (hz : bo i = 0) :
    Sem2 (upd f ByteArray.empty ((i : Int) + 1) (q : Int) c) (c + 1) (updF bo i (nb + 1)) (nb + 1) (addB bl nb q (c + 1)) D := by
  refine ⟨Nat.succ_le_succ M.nbc, fun i' => ?_, fun i1 i2 h1 h2 => ?_, fun j' p hj' hp => ?_, M.isMap, fun s' hs' => ?_, fun i' p hi hp => ?_⟩
  · unfold updF; split
    · exact Nat.le_refl _
    · exact Nat.le_succ_of_le (M.bol i')
  · unfold updF at h1 h2
    by_cases e1 : i1 = i
    · by_cases e2 : i2 = i
      · rw [e1, e2]
      · rw [if_pos e1, if_neg e2] at h2
        have := M.bol i2; omega
    · by_cases e2 : i2 = i
      · rw [if_neg e1, if_pos e2] at h2
        have := M.bol i1; omega
      · rw [if_neg e1, if_neg e2] at h2
        rw [if_neg e1] at h1
        exact M.inj i1 i2 h1 h2
  · unfold addB
    split
    · split <;> omega
    · exact Nat.le_succ_of_le (M.bll j' p (by omega) hp)
  · rw [upd_other (fun h => by have := h.2.1; omega)]
    rcases M.others s' hs' with h | ⟨v, hv, r⟩
    · exact Or.inl h
    · exact Or.inr ⟨v, Nat.lt_succ_of_lt hv, r⟩
  · by_cases e : i' = i
    · subst e
      have e0 : updF bo i' (nb + 1) i' = nb + 1 := by simp [updF]
      rw [e0, if_neg (by omega), Nat.add_sub_cancel]
      by_cases ep : p = q
      · subst ep; rw [upd_same]; simp [addB]
      · rw [upd_other (fun h => ep (by have := h.2.2; omega)), M.blocks i' p hi hp, if_pos hz]
        simp [addB, ep]
    · have e0 : updF bo i (nb + 1) i' = bo i' := by simp [updF, e]
      rw [e0, upd_other (fun h => e (by have := h.2.1; omega)), M.blocks i' p hi hp]
      by_cases hz' : bo i' = 0
      · rw [if_pos hz', if_pos hz']
      · have hb := M.bol i'
        rw [if_neg hz', if_neg hz']
        have : addB bl nb q (c + 1) (bo i' - 1) p = bl (bo i' - 1) p := by
          unfold addB; rw [if_neg (by omega)]
        rw [this]

theorem cellsBl_len (nb : Nat) (bl : Nat → Nat → Nat) : (cellsBl nb bl).length = nb * 1000 := by simp [cellsBl]

theorem cells_set (nb : Nat) (bl : Nat → Nat → Nat) (j q v : Nat) (_hj : j < nb) (hq : q < 1000) : (cellsBl nb bl).set (j * 1000 + q) (.int .i32 (v : Int)) = cellsBl nb (upd2 bl j q v) := by
  apply List.ext_getElem?
  intro n
  by_cases hn : n < nb * 1000
  · have e : n = n / 1000 * 1000 + n % 1000 := by omega
    have hr : n % 1000 < 1000 := Nat.mod_lt _ (by decide)
    rw [e, cellsBl_at nb _ (n / 1000) (n % 1000) (by omega) hr, List.getElem?_set]
    by_cases h : j * 1000 + q = n / 1000 * 1000 + n % 1000
    · rw [if_pos h, if_pos (by rw [cellsBl_len]; omega)]
      have h1 : n / 1000 = j := by omega
      have h2 : n % 1000 = q := by omega
      simp [upd2, h1, h2]
    · rw [if_neg h, cellsBl_at nb _ (n / 1000) (n % 1000) (by omega) hr]
      have : upd2 bl j q v (n / 1000) (n % 1000) = bl (n / 1000) (n % 1000) := by
        unfold upd2; rw [if_neg (fun h' => h (by rw [h'.1, h'.2]))]
      rw [this]
  · rw [List.getElem?_eq_none (by rw [List.length_set, cellsBl_len]; omega), List.getElem?_eq_none (by rw [cellsBl_len]; omega)]

theorem cells_add (nb : Nat) (bl : Nat → Nat → Nat) (q v : Nat) (hq : q < 1000) : (cellsBl nb bl ++ Z.toList).set (nb * 1000 + q) (.int .i32 (v : Int)) = cellsBl (nb + 1) (addB bl nb q v) := by
  apply List.ext_getElem?
  intro n
  have hzl : Z.toList.length = 1000 := by rw [Z_len]
  by_cases hn : n < (nb + 1) * 1000
  · have e : n = n / 1000 * 1000 + n % 1000 := by omega
    have hr : n % 1000 < 1000 := Nat.mod_lt _ (by decide)
    rw [e, cellsBl_at (nb + 1) _ (n / 1000) (n % 1000) (by omega) hr, List.getElem?_set]
    by_cases h : nb * 1000 + q = n / 1000 * 1000 + n % 1000
    · rw [if_pos h, if_pos (by rw [List.length_append, cellsBl_len, hzl]; omega)]
      have h1 : n / 1000 = nb := by omega
      have h2 : n % 1000 = q := by omega
      simp [addB, h1, h2]
    · rw [if_neg h]
      by_cases hlo : n / 1000 < nb
      · rw [List.getElem?_append_left (by rw [cellsBl_len]; omega), cellsBl_at nb _ (n / 1000) (n % 1000) hlo hr]
        have : addB bl nb q v (n / 1000) (n % 1000) = bl (n / 1000) (n % 1000) := by unfold addB; rw [if_neg (by omega)]
        rw [this]
      · have h1 : n / 1000 = nb := by omega
        rw [List.getElem?_append_right (by rw [cellsBl_len]; omega), cellsBl_len, h1, Nat.add_sub_cancel_left, Array.getElem?_toList, Z_at _ hr]
        have : addB bl nb q v nb (n % 1000) = 0 := by unfold addB; rw [if_pos rfl, if_neg (by omega)]
        rw [this]; rfl
  · rw [List.getElem?_eq_none (by rw [List.length_set, List.length_append, cellsBl_len, hzl]; omega), List.getElem?_eq_none (by rw [cellsBl_len]; omega)]

theorem own_turn {w w' : World} {B nb : Nat} {v : Value} {xs : List Value} {F : Nat → Prop} (hown : w.ownsRow B 47 1000 v nb xs) (h : Turn F w w') (hf : ∀ k, v.ownBlock = some k → ¬ F k) : w'.ownsRow B 47 1000 v nb xs := by
  obtain ⟨h1, h2⟩ := hown
  refine ⟨h1, ?_⟩
  rcases h2 with h2 | ⟨g, cap, cur, hv, hg, hh, r⟩
  · exact Or.inl h2
  · exact Or.inr ⟨g, cap, cur, hv, hg, by rw [h.block g (Array.getElem?_eq_some_iff.1 hh).1 (hf g (by rw [hv]; rfl))]; exact hh, r⟩

/-- block k holds a Key variable -/
def Is39 (w : World) (k : Nat) : Prop := ∃ cs fr, w.heap[k]? = some (.cells cs 39 fr)
/-- what Number may turn: its own block, and from B on whatever is no Key variable -/
def FN (B b : Nat) (w : World) (k : Nat) : Prop := k = b ∨ (B ≤ k ∧ ¬ Is39 w k)

theorem not39_map {w : World} {bm n : Nat} {D : DataW Unit} (h : w.ownsMap Try.prog 9 (plainElem Try.prog 21) bm n D) : ¬ Is39 w bm := by
  rintro ⟨cs, fr, e⟩
  obtain ⟨es, clock, hb, _⟩ := h
  rw [hb] at e; cases e
theorem not39_row {w : World} {g : Nat} {f : Nat → Value} (h : w.rowIs g 21 3000 f) : ¬ Is39 w g := by
  rintro ⟨cs, fr, e⟩
  obtain ⟨cs', hb, _⟩ := h
  rw [hb] at e
  simp only [Option.some.injEq, Obj.cells.injEq] at e
  exact absurd e.2.1 (by decide)
theorem not39_own {w : World} {B nb k : Nat} {v : Value} {xs : List Value} (h : w.ownsRow B 47 1000 v nb xs) (hk : v.ownBlock = some k) : ¬ Is39 w k := by
  rintro ⟨cs, fr, e⟩
  exact own_ne h e (by decide) hk

/-- the Numbering in block b: f says which identity has which number; c are numbered -/
def NumAt (B b : Nat) (f : ByteArray → Int → Int → Option Nat) (c : Nat) (w : World) : Prop :=
  ∃ vb vl mo bo nb bl D, Rep B b c vb vl mo bo nb bl D w ∧ Sem2 f c bo nb bl D

/-- the map of the others is kept where the block of a map is -/
theorem oth_kept {B n n' : Nat} {mo : Option Nat} {D : DataW Unit} {w w' : World} (h : OthAt B mo n D w) (hn : n ≤ n') (hk : ∀ bm es clock, B ≤ bm → w.heap[bm]? = some (.map es clock) → w'.heap[bm]? = w.heap[bm]?) : OthAt B mo n' D w' := by
  rcases h with h0 | ⟨bm, e, hB, hm⟩
  · exact Or.inl h0
  · refine Or.inr ⟨bm, e, hB, World.ownsMap.mono ?_ hn⟩
    obtain ⟨es, clock, hb, r⟩ := hm
    exact ⟨es, clock, by rw [hk bm es clock hB hb]; exact hb, r⟩

/-- behind NewPost -/
theorem new_rep {B b c g i q nb : Nat} {vb vl : Value} {mo : Option Nat} {bo : Nat → Nat} {bl : Nat → Nat → Nat} {D : DataW Unit} {w w' : World} {f : ByteArray → Int → Int → Option Nat} {F : Nat → Value}
    (R : Rep B b c vb vl mo bo nb bl D w) (M : Sem2 f c bo nb bl D) (hz : bo i = 0) (hq : q < 1000) (hB : B ≤ g) (hg : g < w.heap.size → ∃ F', w.rowIs g 21 3000 F') (hF : ∀ k, F k = .int .i32 (bo k : Int))
    (hp : NewPost B b g i q c nb vl mo F (cellsBl nb bl) w w') : NumAt B b (upd f ByteArray.empty ((i : Int) + 1) (q : Int) c) (c + 1) w' ∧ Turn (FN B b w) w w' := by
  obtain ⟨h, cap, ho, hr, hw, ht⟩ := hp
  refine ⟨⟨.slice (some ⟨g, 0, none⟩) 3000 3000, .slice (some ⟨h, 0, none⟩) (nb + 1) cap, mo, updF bo i (nb + 1), nb + 1, addB bl nb q (c + 1), D, ⟨R.lt, Nat.le_trans R.le ht.size, by have := ho; exact ho, ?_, Or.inr ⟨g, rfl, hB, hr.congr (fun k _ => ?_)⟩, ?_⟩, sem_new M i q hz⟩, ht.mono (fun k hk => ?_)⟩
  · refine oth_kept R.oth (Nat.le_succ _) (fun bm es clock hbm hb => ht.block bm (Array.getElem?_eq_some_iff.1 hb).1 ?_)
    rintro (e | e | e)
    · have := R.lt; omega
    · subst e
      obtain ⟨F', cs', hb', _⟩ := hg (Array.getElem?_eq_some_iff.1 hb).1
      rw [hb] at hb'; cases hb'
    · rcases R.bls.2 with ⟨hv0, _⟩ | ⟨g', cap', cur, hv0, _, hg', _⟩
      · rw [hv0] at e; simp [Value.ownBlock] at e
      · rw [hv0] at e; simp [Value.ownBlock] at e; subst e; rw [hg'] at hb; cases hb
  · unfold updF
    by_cases e : k = i
    · rw [if_pos e, if_pos e]; simp
    · rw [if_neg e, if_neg e]; exact hF k
  · have := cells_add nb bl q (c + 1) hq
    rw [← this]
    simpa using hw
  · rcases hk with e | e | e
    · exact Or.inl e
    · refine Or.inr ⟨by omega, fun h39 => ?_⟩
      subst e
      obtain ⟨cs, fr, hh⟩ := h39
      obtain ⟨F', hr'⟩ := hg (Array.getElem?_eq_some_iff.1 hh).1
      exact not39_row hr' ⟨cs, fr, hh⟩
    · exact Or.inr ⟨(R.bls.lt k e).1, not39_own R.bls e⟩

theorem NumAt.kept {B b c : Nat} {f : ByteArray → Int → Int → Option Nat} {w w' : World} (h : NumAt B b f c w) (hz : w.heap.size ≤ w'.heap.size) (hk : ∀ k, k < w.heap.size → (k = b ∨ B ≤ k) → w'.heap[k]? = w.heap[k]?) : NumAt B b f c w' := by
  obtain ⟨vb, vl, mo, bo, nb, bl, D, R, M⟩ := h
  exact ⟨vb, vl, mo, bo, nb, bl, D, R.kept hz hk, M⟩
theorem NumAt.below {B b c : Nat} {f : ByteArray → Int → Int → Option Nat} {w w' : World} (h : NumAt B b f c w) (hb : Below w.heap.size w w') : NumAt B b f c w' := h.kept hb.size (fun k hk _ => hb.block k hk)

theorem find_some {B b c v : Nat} {f : ByteArray → Int → Int → Option Nat} {w : World} (h : NumAt B b f c w) (hc : c ≤ 1000000) {s : ByteArray} {bk p : Int} (hd : Dom s bk p) (hv : f (idS s bk) bk (idP bk p) = some v) :
    Calls Try.prog 9 #[.pointer (some ⟨b, 0, none⟩), .agg #[.string s, .int .i16 bk, .int .i16 p]] w fun e w' => e = .returned (.tuple #[.int .i32 v, .bool true]) ∧ Below w.heap.size w w' := by
  obtain ⟨vb, vl, mo, bo, nb, bl, D, R, M⟩ := h
  obtain ⟨x, ok, hx, hf⟩ := find_rep R M hc s bk p hd
  rcases hf with ⟨h1, _⟩ | ⟨v', _, h1, rfl, rfl⟩
  · rw [hv] at h1; cases h1
  · rw [hv] at h1; cases h1
    exact hx w (Below.refl _ _)

theorem find_none {B b c : Nat} {f : ByteArray → Int → Int → Option Nat} {w : World} (h : NumAt B b f c w) (hc : c ≤ 1000000) {s : ByteArray} {bk p : Int} (hd : Dom s bk p) (hv : f (idS s bk) bk (idP bk p) = none) :
    ∃ x : Int, Calls Try.prog 9 #[.pointer (some ⟨b, 0, none⟩), .agg #[.string s, .int .i16 bk, .int .i16 p]] w fun e w' => e = .returned (.tuple #[.int .i32 x, .bool false]) ∧ Below w.heap.size w w' := by
  obtain ⟨vb, vl, mo, bo, nb, bl, D, R, M⟩ := h
  obtain ⟨x, ok, hx, hf⟩ := find_rep R M hc s bk p hd
  rcases hf with ⟨_, rfl⟩ | ⟨v', _, h1, _⟩
  · exact ⟨x, hx w (Below.refl _ _)⟩
  · rw [hv] at h1; cases h1

theorem number_some {B b c v : Nat} {f : ByteArray → Int → Int → Option Nat} {w : World} (h : NumAt B b f c w) (hc : c ≤ 1000000) {s : ByteArray} {bk p : Int} (hd : Dom s bk p) (hv : f (idS s bk) bk (idP bk p) = some v) :
    Calls Try.prog 10 #[.pointer (some ⟨b, 0, none⟩), .agg #[.string s, .int .i16 bk, .int .i16 p]] w fun e w' => e = .returned (.int .i32 v) ∧ Below w.heap.size w w' :=
  num_found b s bk p v w fun o => find_some (h.below ((Below.refl _ _).alloc (Nat.le_refl _) o)) hc hd hv

theorem number_none {B b c : Nat} {f : ByteArray → Int → Int → Option Nat} {w : World} (h : NumAt B b f c w) (hc : c ≤ 900000) {s : ByteArray} {bk p : Int} (hd : Dom s bk p) (hv : f (idS s bk) bk (idP bk p) = none) :
    Calls Try.prog 10 #[.pointer (some ⟨b, 0, none⟩), .agg #[.string s, .int .i16 bk, .int .i16 p]] w fun e w' => e = .returned (.int .i32 c) ∧ NumAt B b (upd f (idS s bk) bk (idP bk p) c) (c + 1) w' ∧ Turn (FN B b w) w w' := by
  obtain ⟨vb, vl, mo, bo, nb, bl, D, R, M⟩ := h
  obtain ⟨x, ok, hx, hf⟩ := find_rep R M (by omega) s bk p hd
  have hok : ok = false := by
    rcases hf with ⟨_, e⟩ | ⟨v', _, h1, _⟩
    · exact e
    · rw [hv] at h1; cases h1
  subst hok
  clear hf
  have hF : ∀ o, Calls Try.prog 9 #[.pointer (some ⟨b, 0, none⟩), .agg #[.string s, .int .i16 bk, .int .i16 p]] (w.alloc o) fun e w' => e = .returned (.tuple #[.int .i32 x, .bool false]) ∧ Below (w.alloc o).heap.size (w.alloc o) w' :=
    fun o => hx _ ((Below.refl _ _).alloc (Nat.le_refl _) o)
  obtain ⟨hs, hd⟩ := hd
  rcases hd with rfl | ⟨h1, h2, h3, h4⟩
  · have e1 : idS s 0 = s := by simp [idS]
    have e2 : idP 0 p = 0 := by simp [idP]
    rw [e1, e2] at hv ⊢
    rcases R.oth with ⟨rfl, rfl⟩ | ⟨bm, rfl, hB, hm⟩
    · refine (num_oth_nil b s p c x vb vl w hs (by omega) R.own hF).mono ?_
      rintro e w' ⟨rfl, bm, hbm, ho, hmm, ht⟩
      refine ⟨rfl, ⟨vb, vl, some bm, bo, nb, bl, _, ⟨R.lt, Nat.le_trans R.le ht.size, ho, Or.inr ⟨bm, rfl, Nat.le_trans R.le hbm, hmm.mono (by omega)⟩, ?_, ?_⟩, sem_oth M s⟩, ht.mono (fun k hk => Or.inl hk)⟩
      · rcases R.bof with h0 | ⟨g, e, hB, hr⟩
        · exact Or.inl h0
        · exact Or.inr ⟨g, e, hB, hr.of_block (ht.block g hr.lt (by have := R.lt; omega))⟩
      · exact own_turn R.bls ht (fun k hk => by have := (R.bls.lt k hk).1; have := R.lt; omega)
    · refine (num_oth b s p c c bm x vb vl D w hs (by omega) (by omega) R.own hm hF).mono ?_
      rintro e w' ⟨rfl, ho, hmm, ht⟩
      refine ⟨rfl, ⟨vb, vl, some bm, bo, nb, bl, _, ⟨R.lt, Nat.le_trans R.le ht.size, ho, Or.inr ⟨bm, rfl, hB, hmm⟩, ?_, ?_⟩, sem_oth M s⟩, ht.mono (fun k hk => ?_)⟩
      · rcases R.bof with h0 | ⟨g, e, hB', hr⟩
        · exact Or.inl h0
        · refine Or.inr ⟨g, e, hB', hr.of_block (ht.block g hr.lt ?_)⟩
          rintro (e | e)
          · have := R.lt; omega
          · subst e
            obtain ⟨cs', hb, _⟩ := hr
            obtain ⟨es, clock, hb2, _⟩ := hm
            rw [hb] at hb2; cases hb2
      · refine own_turn R.bls ht (fun k hk => ?_)
        rintro (e | e)
        · have := (R.bls.lt k hk).1; have := R.lt; omega
        · subst e
          obtain ⟨es, clock, hb2, _⟩ := hm
          rcases R.bls.2 with ⟨hv0, _⟩ | ⟨g, cap, cur, hv0, _, hg, _⟩
          · rw [hv0] at hk; simp [Value.ownBlock] at hk
          · rw [hv0] at hk; simp [Value.ownBlock] at hk; subst hk; rw [hg] at hb2; cases hb2
      · rcases hk with e | e
        · exact Or.inl e
        · subst e; exact Or.inr ⟨hB, not39_map hm⟩
  · obtain ⟨i, rfl⟩ : ∃ i : Nat, bk = (i : Int) + 1 := ⟨(bk - 1).toNat, by omega⟩
    obtain ⟨q, rfl⟩ := Int.eq_ofNat_of_zero_le h3
    have hi : i < 3000 := by omega
    have hq : q < 1000 := by omega
    have e1 : idS s ((i : Int) + 1) = ByteArray.empty := by unfold idS; rw [if_neg (by omega)]
    have e2 : idP ((i : Int) + 1) (q : Int) = q := by unfold idP; rw [if_neg (by omega)]
    rw [e1, e2] at hv ⊢
    have hnb := M.nbc
    rcases R.bof with ⟨rfl, h0⟩ | ⟨g, rfl, hB, hr⟩
    · refine (num_first B b s i q c nb x vl (cellsBl nb bl) mo w hi hq (by omega) (by omega) R.own R.le R.bls hF).mono ?_
      rintro e w' ⟨rfl, g, hg, hp⟩
      exact ⟨rfl, new_rep R M (h0 i) hq (Nat.le_trans R.le hg) (fun h => by omega) (fun k => by rw [h0 k]; rfl) hp⟩
    · by_cases hz : bo i = 0
      · refine (num_new B b s i q c g nb x vl (cellsBl nb bl) mo (fun k => .int .i32 (bo k : Int)) w hi hq (by omega) (by omega) R.own hr R.le R.bls (by rw [hz]; rfl) hF).mono ?_
        rintro e w' ⟨rfl, hp⟩
        exact ⟨rfl, new_rep R M hz hq hB (fun _ => ⟨_, hr⟩) (fun _ => rfl) hp⟩
      · have hbo := M.bol i
        obtain ⟨j, hj⟩ : ∃ j, bo i = j + 1 := ⟨bo i - 1, by omega⟩
        have hjn : j < nb := by omega
        obtain ⟨h, cap, hv'⟩ : ∃ h cap, vl = .slice (some ⟨h, 0, none⟩) nb cap := by
          rcases R.bls.2 with ⟨_, h0⟩ | ⟨g', cap, cur, hv, _⟩
          · omega
          · exact ⟨g', cap, hv⟩
        subst hv'
        have hlh := R.bls.lt h rfl
        have hgb : g ≠ b := by have := R.lt; omega
        have hhb : h ≠ b := by have := R.lt; omega
        have hgh : g ≠ h := by
          intro e; subst e
          obtain ⟨cs', hb', _⟩ := hr
          exact own_ne R.bls hb' (by decide) rfl
        refine (num_old b s i q c g h j nb cap x (.int .i32 (bl j q : Int)) mo w hi hq (by omega) hjn (by omega) R.own hgb hhb hr.lt hlh.2 (by rw [hr.cell hi, hj]; simp)
          (by rw [R.bls.cellAt _ (by omega)]; exact cellsBl_at nb bl j q hjn hq) (R.bls.frozenAt _) hF).mono ?_
        rintro e w' ⟨rfl, w2, k, hb2, rfl⟩
        have R2 := R.below hb2
        have ht : Turn (fun k => k = b ∨ k = h) w (((w2.setCell ⟨b, 0, none⟩ (.int .i32 ((c : Int) + 1))).setCell ⟨h, j * 1000 + q, none⟩ (.int .i32 ((c : Int) + 1))).drewN k) :=
          (((Turn.of_below hb2).setCell (p := ⟨b, 0, none⟩) (Or.inl rfl) _).setCell (p := ⟨h, j * 1000 + q, none⟩) (Or.inr rfl) _).trans (.of_below (below_drewN (Below.refl _ _) _))
        refine ⟨rfl, ⟨.slice (some ⟨g, 0, none⟩) 3000 3000, .slice (some ⟨h, 0, none⟩) nb cap, mo, bo, nb, upd2 bl j q (c + 1), D, ⟨R.lt, Nat.le_trans R.le ht.size, ?_, ?_, Or.inr ⟨g, rfl, hB, ?_⟩, ?_⟩, sem_old M i j q hj⟩, ht.mono (fun k hk => ?_)⟩
        · have := R2.own.set0 ((c : Int) + 1)
          refine Own.of_block (w := w2.setCell ⟨b, 0, none⟩ (.int .i32 ((c : Int) + 1))) ?_ (Below.heap_setCell _ _ _ _ (fun e => hhb e.symm))
          simpa using this
        · refine oth_kept R.oth (Nat.le_succ _) (fun bm es clock hbm hb => ht.block bm (Array.getElem?_eq_some_iff.1 hb).1 ?_)
          rintro (e | e)
          · have := R.lt; omega
          · subst e
            rcases R.bls.2 with ⟨hv0, _⟩ | ⟨g', cap', cur, hv0, _, hg', _⟩
            · cases hv0
            · injection hv0 with a1 _ _; injection a1 with a2; injection a2 with a3 _ _; subst a3; rw [hg'] at hb; cases hb
        · refine hr.of_block (ht.block g hr.lt ?_)
          rintro (e | e)
          · exact hgb e
          · exact hgh e
        · have hs1 := ((own_set R2.bls (a := ⟨b, 0, none⟩) (by simpa [Value.ownBlock] using hhb) (.int .i32 ((c : Int) + 1))).stored (j * 1000 + q) (.int .i32 (((c + 1 : Nat)) : Int))).1
          rw [cells_set nb bl j q (c + 1) hjn hq] at hs1
          simp only [Int.natCast_add, Int.cast_ofNat_Int] at hs1
          exact hs1
        · rcases hk with e | e
          · exact Or.inl e
          · subst e; exact Or.inr ⟨hlh.1, not39_own R.bls rfl⟩
end Go.Proofs.Qxb6628761a
