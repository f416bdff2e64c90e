import Derived.Test.Qxb6628735aHex
namespace Go.Proofs.Qxb6628735a

/-- are all bytes of the list hexadecimal digits? -/
def HexL (l : List UInt8) : Prop := ∀ c ∈ l, 0 ≤ hv (c.toNat : Int)

theorem hexs_iff (s : ByteArray) : Hexs s ↔ HexL s.data.toList := by
  constructor
  · intro h c hc
    obtain ⟨i, hi, rfl⟩ := List.getElem_of_mem hc
    have := h i (by rw [← data_len]; exact hi)
    unfold at8 at this
    rw [List.getElem?_eq_getElem hi] at this
    exact this
  · intro h i hi
    have hi2 : i < s.data.toList.length := by rw [data_len]; exact hi
    unfold at8
    rw [List.getElem?_eq_getElem hi2]
    exact h _ (List.getElem_mem _)

def padL (l : List UInt8) : List UInt8 := if l.length % 2 = 1 then [48] else []
def lowD (l : List UInt8) : List UInt8 := padL l ++ l.map lowU

theorem low_data (s : ByteArray) : (low s).data.toList = lowD s.data.toList := by
  unfold low lowL lowD padL
  rw [data_len, List.take_of_length_le (by rw [data_len]; exact Nat.le_refl _)]

theorem lowU_facts (c : UInt8) : 0 ≤ hv (c.toNat : Int) → lowB ((lowU c).toNat : Int) = true ∧ hv ((lowU c).toNat : Int) = hv (c.toNat : Int) ∧ lowU (lowU c) = lowU c ∧ ¬ (65 ≤ ((lowU c).toNat : Int) ∧ ((lowU c).toNat : Int) ≤ 90) := by
  refine all_bytes (P := fun c => 0 ≤ hv (c.toNat : Int) → lowB ((lowU c).toNat : Int) = true ∧ hv ((lowU c).toNat : Int) = hv (c.toNat : Int) ∧ lowU (lowU c) = lowU c ∧ ¬ (65 ≤ ((lowU c).toNat : Int) ∧ ((lowU c).toNat : Int) ≤ 90)) ?_ c
  decide +kernel

def upU (c : UInt8) : UInt8 := if 97 ≤ c ∧ c ≤ 102 then c - 32 else c

theorem upU_facts (c : UInt8) : UInt8.ofNat (upc (c.toNat : Int)).toNat = upU c ∧ (0 ≤ hv (c.toNat : Int) → 0 ≤ hv ((upU c).toNat : Int) ∧ lowU (upU c) = lowU c) := by
  refine all_bytes (P := fun c => UInt8.ofNat (upc (c.toNat : Int)).toNat = upU c ∧ (0 ≤ hv (c.toNat : Int) → 0 ≤ hv ((upU c).toNat : Int) ∧ lowU (upU c) = lowU c)) ?_ c
  decide +kernel

theorem lowD_len (l : List UInt8) : (lowD l).length = l.length + l.length % 2 := by
  unfold lowD padL
  split
  · simp; omega
  · simp; omega

theorem hexL_low (l : List UInt8) (h : HexL l) : HexL (lowD l) := by
  intro c hc
  unfold lowD padL at hc
  rw [List.mem_append] at hc
  rcases hc with hc | hc
  · split at hc
    · simp at hc; subst hc; decide
    · simp at hc
  · rw [List.mem_map] at hc
    obtain ⟨d, hd, rfl⟩ := hc
    rw [(lowU_facts d (h d hd)).2.1]; exact h d hd

theorem lowD_noup (l : List UInt8) (h : HexL l) : ∀ c ∈ lowD l, ¬ (65 ≤ (c.toNat : Int) ∧ (c.toNat : Int) ≤ 90) := by
  intro c hc
  unfold lowD padL at hc
  rw [List.mem_append] at hc
  rcases hc with hc | hc
  · split at hc
    · simp at hc; subst hc; decide
    · simp at hc
  · rw [List.mem_map] at hc
    obtain ⟨d, hd, rfl⟩ := hc
    exact (lowU_facts d (h d hd)).2.2.2

theorem lowD_append (a b : List UInt8) (hb : b.length % 2 = 0) : lowD (a ++ b) = lowD a ++ lowD b := by
  unfold lowD padL
  rw [List.length_append, List.map_append]
  by_cases h : a.length % 2 = 1
  · rw [if_pos (by omega), if_pos h, if_neg (by omega)]; simp
  · rw [if_neg (by omega), if_neg h, if_neg (by omega)]; simp

theorem lowD_lowD (l : List UInt8) (h : HexL l) : lowD (lowD l) = lowD l := by
  have hl := lowD_len l
  have e : ∀ d : List UInt8, d.length % 2 = 0 → lowD d = d.map lowU := fun d hd => by
    unfold lowD padL
    rw [if_neg (by omega)]; simp
  replace e := e (lowD l) (by omega)
  rw [e]
  conv => rhs; rw [← List.map_id (lowD l)]
  apply List.map_congr_left
  intro c hc
  have hx := hexL_low l h c hc
  exact lowU_self c hx (lowD_noup l h c hc)

theorem lowD_up (l : List UInt8) (h : HexL l) : lowD (l.map upU) = lowD l := by
  unfold lowD padL
  rw [List.length_map, List.map_map]
  congr 1
  apply List.map_congr_left
  intro c hc
  exact ((upU_facts c).2 (h c hc)).2

theorem hexL_up (l : List UInt8) (h : HexL l) : HexL (l.map upU) := by
  intro c hc
  rw [List.mem_map] at hc
  obtain ⟨d, hd, rfl⟩ := hc
  exact ((upU_facts d).2 (h d hd)).1

theorem up_data (s : ByteArray) : (up s).data.toList = s.data.toList.map upU := by
  unfold up
  rw [strOfNums_data]
  apply List.ext_getElem?
  intro i
  rw [List.getElem?_map, List.getElem?_map]
  by_cases hi : i < s.size
  · have hi2 : i < s.data.toList.length := by rw [data_len]; exact hi
    have e : (upNums s)[i]? = some (upc (at8 s i)) := by simp [upNums, hi]
    rw [e, List.getElem?_eq_getElem hi2]
    simp only [Option.map_some]
    unfold at8
    rw [List.getElem?_eq_getElem hi2]
    exact congrArg some (upU_facts _).1
  · rw [List.getElem?_eq_none (by rw [upNums_len]; omega), List.getElem?_eq_none (by rw [data_len]; omega)]; rfl

theorem ba_ext {a b : ByteArray} (h : a.data.toList = b.data.toList) : a = b := by
  cases a with | mk x => cases b with | mk y =>
  have : x = y := by simpa using h
  rw [this]

theorem low_size (s : ByteArray) : (low s).size = s.size + s.size % 2 := by
  rw [← data_len, low_data, lowD_len, data_len]

theorem low_hexs (s : ByteArray) (h : Hexs s) : Hexs (low s) := by
  rw [hexs_iff, low_data]; exact hexL_low _ ((hexs_iff s).1 h)

theorem low_low (s : ByteArray) (h : Hexs s) : low (low s) = low s := by
  apply ba_ext
  rw [low_data, low_data]; exact lowD_lowD _ ((hexs_iff s).1 h)

theorem up_size (s : ByteArray) : (up s).size = s.size := by
  rw [← data_len, up_data, List.length_map, data_len]

theorem up_hexs (s : ByteArray) (h : Hexs s) : Hexs (up s) := by
  rw [hexs_iff, up_data]; exact hexL_up _ ((hexs_iff s).1 h)

theorem low_up (s : ByteArray) (h : Hexs s) : low (up s) = low s := by
  apply ba_ext
  rw [low_data, up_data, low_data]; exact lowD_up _ ((hexs_iff s).1 h)

theorem ext_data (s : ByteArray) (a b : Nat) : (s.extract a b).data.toList = (s.data.toList.take b).drop a := by
  simp [List.drop_take]

theorem ext_size (s : ByteArray) (a b : Nat) (h : b ≤ s.size) : (s.extract a b).size = b - a := by
  simp only [ByteArray.size_extract]; omega

theorem ext_hexs (s : ByteArray) (a b : Nat) (h : Hexs s) : Hexs (s.extract a b) := by
  rw [hexs_iff, ext_data]
  intro c hc
  exact (hexs_iff s).1 h c (List.mem_of_mem_take (List.mem_of_mem_drop hc))

theorem low_split (s : ByteArray) (j : Nat) (h2 : (s.size - j) % 2 = 0) : low (s.extract 0 j) ++ low (s.extract j s.size) = low s := by
  apply ba_ext
  have e : s.data.toList = (s.extract 0 j).data.toList ++ (s.extract j s.size).data.toList := by
    rw [ext_data, ext_data, List.drop_zero, List.take_of_length_le (i := s.size) (by rw [data_len]; exact Nat.le_refl _), List.take_append_drop]
  rw [low_data s, e, lowD_append _ _ (by rw [data_len, ext_size _ _ _ (Nat.le_refl _)]; exact h2)]
  simp only [ByteArray.data_append, Array.toList_append, low_data]

theorem low_noup (s : ByteArray) (h : Hexs s) : NoUp (low s) := by
  intro i hi
  have hi2 : i < (low s).data.toList.length := by rw [data_len]; exact hi
  unfold at8
  rw [List.getElem?_eq_getElem hi2]
  have hm : (low s).data.toList[i] ∈ (low s).data.toList := List.getElem_mem _
  have := lowD_noup _ ((hexs_iff s).1 h) ((low s).data.toList[i]) (by rw [← low_data]; exact hm)
  exact this

theorem low_canon (s : ByteArray) (h : Hexs s) : Canon s (low s) := by
  refine ⟨low_size s, fun ho => ?_, fun i hi => ?_⟩
  · unfold at8
    rw [low_data]
    unfold lowD padL
    rw [data_len, if_pos ho]; rfl
  · have hi2 : i < s.data.toList.length := by rw [data_len]; exact hi
    have e : at8 (low s) (i + s.size % 2) = ((lowU (s.data.toList[i])).toNat : Int) := by
      unfold at8
      rw [low_data]
      unfold lowD padL
      rw [data_len]
      by_cases ho : s.size % 2 = 1
      · rw [if_pos ho, ho, List.getElem?_append_right (by simp), List.getElem?_map]
        simp [List.getElem?_eq_getElem hi2]
      · rw [if_neg ho, show s.size % 2 = 0 by omega, Nat.add_zero, List.nil_append, List.getElem?_map, List.getElem?_eq_getElem hi2]
        rfl
    have hx := h i hi
    have e2 : at8 s i = ((s.data.toList[i]).toNat : Int) := by unfold at8; rw [List.getElem?_eq_getElem hi2]; rfl
    rw [e, e2]
    rw [e2] at hx
    have f := lowU_facts _ hx
    exact ⟨f.1, f.2.1⟩
end Go.Proofs.Qxb6628735a
