import Derived.Test.Qxb6628653aRun
namespace Go.Proofs.Qxb6628653a

theorem ba_ext {a b : ByteArray} (h : a.data.toList = b.data.toList) : a = b := by
  cases a with | mk x => cases b with | mk y =>
  have : x = y := by simpa using h
  rw [this]

theorem app_data (a b : ByteArray) : (a ++ b).data.toList = a.data.toList ++ b.data.toList := by simp
theorem ext_data (s : ByteArray) (a b : Nat) : (s.extract a b).data.toList = (s.data.toList.take b).drop a := by
  simp [List.drop_take]

theorem ext_left (a b : ByteArray) (n : Nat) (h : n = a.size) : (a ++ b).extract 0 n = a := by
  subst h
  refine ba_ext ?_
  rw [ext_data, app_data, List.drop_zero, List.take_left' (data_len a)]

theorem ext_right (a b : ByteArray) (n k : Nat) (h : n = a.size) (hk : k = a.size + b.size) : (a ++ b).extract n k = b := by
  subst h; subst hk
  refine ba_ext ?_
  rw [ext_data, app_data, List.take_of_length_le (by simp), List.drop_left' (data_len a)]

theorem ext_in_left (a b : ByteArray) (n : Nat) (h : n ≤ a.size) : (a ++ b).extract 0 n = a.extract 0 n := by
  refine ba_ext ?_
  rw [ext_data, ext_data, app_data, List.drop_zero, List.drop_zero, List.take_append_of_le_length (by rw [data_len]; exact h)]

theorem ext_in_right (a b : ByteArray) (x y : Nat) : (a ++ b).extract (a.size + x) (a.size + y) = b.extract x y := by
  refine ba_ext ?_
  rw [ext_data, ext_data, app_data, ← data_len a, List.take_length_add_append, List.drop_length_add_append]

theorem at8_left (a b : ByteArray) (i : Nat) (h : i < a.size) : at8 (a ++ b) i = at8 a i := by
  unfold at8
  rw [app_data, List.getElem?_append_left (by rw [data_len]; exact h)]

theorem at8_right (a b : ByteArray) (i : Nat) (h : a.size ≤ i) : at8 (a ++ b) i = at8 b (i - a.size) := by
  unfold at8
  rw [app_data, List.getElem?_append_right (by rw [data_len]; exact h), data_len]

theorem zz_size (n : Nat) : (zz n).size = n := by simp [zz, strOfNums_size]

theorem zz_data (n : Nat) : (zz n).data.toList = List.replicate n 122 := by
  unfold zz
  rw [strOfNums_data]
  simp

theorem at8_zz (n i : Nat) (h : i < n) : at8 (zz n) i = 122 := by
  unfold at8
  rw [zz_data]
  simp [h]

theorem rs_z : rs 122 = true := by decide

theorem zz_take (n k : Nat) (h : k ≤ n) : (zz n).extract 0 k = zz k := by
  refine ba_ext ?_
  rw [ext_data, zz_data, zz_data, List.drop_zero, List.take_replicate, Nat.min_eq_left h]

theorem hd_congr (f g : Nat → Bool) (n : Nat) (h : ∀ i, 1 ≤ i → i ≤ n → f i = g i) : hd f n = hd g n := by
  induction n with
  | zero => rfl
  | succ n ih =>
    unfold hd
    rw [h (n + 1) (by omega) (Nat.le_refl _), ih (fun i h1 h2 => h i h1 (by omega))]

theorem tl_le (s : ByteArray) (n : Nat) : tlOf s n ≤ n := hd_le _ _
theorem hd_le' (s : ByteArray) (n : Nat) : hdOf s n ≤ n := hd_le _ _

theorem be_eq (s : ByteArray) (h : 200 < s.size) : be s = s.extract 0 (hdOf s 100) ++ dots ++ s.extract (s.size - tlOf s 100) s.size := by
  unfold be; rw [if_neg (by omega)]

/-- the head of a message depends on its first 101 bytes -/
theorem hd_same (s t : ByteArray) (h : ∀ i, i ≤ 100 → at8 s i = at8 t i) : hdOf s 100 = hdOf t 100 :=
  hd_congr _ _ _ fun i _ hi => by rw [h i hi]

/-- the tail of a message depends on its last 100 bytes -/
theorem tl_same (s t : ByteArray) (h : ∀ r, 1 ≤ r → r ≤ 100 → at8 s (s.size - r) = at8 t (t.size - r)) : tlOf s 100 = tlOf t 100 :=
  hd_congr _ _ _ fun i h1 hi => by rw [h i h1 hi]

section
variable (m : ByteArray) (K : Nat)

theorem ex_size (a b : Nat) (s : ByteArray) (h : b ≤ s.size) : (s.extract a b).size = b - a := by
  simp only [ByteArray.size_extract]; omega

theorem ex_ex (s : ByteArray) (a b x y : Nat) (_hb : b ≤ s.size) (hy : a + y ≤ b) : (s.extract a b).extract x y = s.extract (a + x) (a + y) := by
  rw [ByteArray.extract_extract, Nat.min_eq_left (by omega)]

theorem be_one (_hn : 200 < m.size) (h1 : 101 ≤ K) (h2 : K + 100 ≤ m.size) : be (m.extract 0 K ++ zz 100) = m.extract 0 (hdOf m 100) ++ (dots ++ zz 100) := by
  have sK : (m.extract 0 K).size = K := by rw [ex_size _ _ _ (by omega)]; omega
  have sX : (m.extract 0 K ++ zz 100).size = K + 100 := by rw [ByteArray.size_append, sK, zz_size]
  have eh : hdOf (m.extract 0 K ++ zz 100) 100 = hdOf m 100 := hd_same _ _ fun i hi => by
    rw [at8_left _ _ _ (by omega), at8_extract _ _ _ _ (by omega) (by omega), Nat.zero_add]
  have et : tlOf (m.extract 0 K ++ zz 100) 100 = 100 := hd_yes _ _ (by
    show rs (at8 _ _) = true
    rw [sX, at8_right _ _ _ (by omega), at8_zz _ _ (by omega)]; exact rs_z)
  have hl := hd_le' m 100
  rw [be_eq _ (by omega), eh, et, sX, ext_in_left _ _ _ (by omega), ex_ex _ _ _ _ _ (by omega) (by omega), ByteArray.append_assoc]
  rw [Nat.add_sub_cancel, ext_right _ _ _ _ sK.symm (by rw [sK, zz_size])]
  simp

theorem be_two (hn : 200 < m.size) (h1 : 101 ≤ K) (h2 : K + 100 ≤ m.size) : be (zz 101 ++ m.extract K m.size) = zz 100 ++ dots ++ m.extract (m.size - tlOf m 100) m.size := by
  have sK : (m.extract K m.size).size = m.size - K := ex_size _ _ _ (Nat.le_refl _)
  have sX : (zz 101 ++ m.extract K m.size).size = 101 + (m.size - K) := by rw [ByteArray.size_append, sK, zz_size]
  have z1 := zz_size 101
  have eh : hdOf (zz 101 ++ m.extract K m.size) 100 = 100 := hd_yes _ _ (by
    show rs (at8 _ _) = true
    rw [at8_left _ _ _ (by omega), at8_zz _ _ (by omega)]; exact rs_z)
  have et : tlOf (zz 101 ++ m.extract K m.size) 100 = tlOf m 100 := tl_same _ _ fun r h1 hr => by
    rw [sX, at8_right _ _ _ (by omega), z1, at8_extract _ _ _ _ (by omega) (Nat.le_refl _)]
    congr 1; omega
  have hl := tl_le m 100
  rw [be_eq _ (by omega), eh, et, sX, ext_in_left _ _ _ (by omega), zz_take _ _ (by omega)]
  have e := ext_in_right (zz 101) (m.extract K m.size) (m.size - K - tlOf m 100) (m.size - K)
  rw [z1] at e
  rw [show 101 + (m.size - K) - tlOf m 100 = 101 + (m.size - K - tlOf m 100) by omega, e, ex_ex _ _ _ _ _ (Nat.le_refl _) (by omega)]
  rw [show K + (m.size - K - tlOf m 100) = m.size - tlOf m 100 by omega, show K + (m.size - K) = m.size by omega]

theorem dots_size : dots.size = 3 := rfl

/-- WHAT LAW A's WALK IS TOLD -/
theorem lawA (hn : 200 < m.size) (h1 : 101 ≤ K) (h2 : K + 100 ≤ m.size) :
    ∃ R1 R2, be (m.extract 0 K ++ zz 100) = R1 ∧ be (zz 101 ++ m.extract K m.size) = R2 ∧ 103 ≤ R1.size ∧ 103 ≤ R2.size ∧ R1.size ≤ 1000 ∧ R2.size ≤ 1000 ∧
      R1.extract (R1.size - 103) R1.size = dots ++ zz 100 ∧ R2.extract 0 103 = zz 100 ++ dots ∧ R1.extract 0 (R1.size - 103) ++ dots ++ R2.extract 103 R2.size = be m := by
  have hl := hd_le' m 100
  have tl := tl_le m 100
  have z1 := zz_size 100
  have d3 := dots_size
  have sH : (m.extract 0 (hdOf m 100)).size = hdOf m 100 := by rw [ex_size _ _ _ (by omega)]; omega
  have sT : (m.extract (m.size - tlOf m 100) m.size).size = tlOf m 100 := by rw [ex_size _ _ _ (Nat.le_refl _)]; omega
  have sD : (dots ++ zz 100).size = 103 := by rw [ByteArray.size_append]; omega
  have sE : (zz 100 ++ dots).size = 103 := by rw [ByteArray.size_append]; omega
  refine ⟨_, _, be_one m K hn h1 h2, be_two m K hn h1 h2, ?_, ?_, ?_, ?_, ?_, ?_, ?_⟩
  · rw [ByteArray.size_append]; omega
  · rw [ByteArray.size_append]; omega
  · rw [ByteArray.size_append]; omega
  · rw [ByteArray.size_append]; omega
  · exact ext_right _ _ _ _ (by rw [ByteArray.size_append]; omega) (by rw [ByteArray.size_append])
  · exact ext_left _ _ _ sE.symm
  · rw [ext_left _ _ _ (by rw [ByteArray.size_append]; omega), ext_right _ _ _ _ sE.symm (by rw [ByteArray.size_append]), be_eq m hn]
end
end Go.Proofs.Qxb6628653a
