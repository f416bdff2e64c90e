import Derived.Test.Qxb6628653aPlain
namespace Go.Proofs.Qxb6628653a

theorem be_mid (m x : ByteArray) (K : Nat) (hn : 200 < m.size) (h1 : 101 ≤ K) (h2 : K + 100 ≤ m.size) : be (m.extract 0 K ++ x ++ m.extract K m.size) = be m := by
  have sK : (m.extract 0 K).size = K := by rw [ex_size _ _ _ (by omega)]; omega
  have sL : (m.extract K m.size).size = m.size - K := ex_size _ _ _ (Nat.le_refl _)
  have sA : (m.extract 0 K ++ x).size = K + x.size := by rw [ByteArray.size_append, sK]
  have sX : (m.extract 0 K ++ x ++ m.extract K m.size).size = K + x.size + (m.size - K) := by rw [ByteArray.size_append, sA, sL]
  have eh : hdOf (m.extract 0 K ++ x ++ m.extract K m.size) 100 = hdOf m 100 := hd_same _ _ fun i hi => by
    rw [at8_left _ _ _ (by omega), at8_left _ _ _ (by omega), at8_extract _ _ _ _ (by omega) (by omega), Nat.zero_add]
  have et : tlOf (m.extract 0 K ++ x ++ m.extract K m.size) 100 = tlOf m 100 := tl_same _ _ fun r hr1 hr => by
    rw [sX, at8_right _ _ _ (by omega), sA, at8_extract _ _ _ _ (by omega) (Nat.le_refl _)]
    congr 1; omega
  have hl := hd_le' m 100
  have tl := tl_le m 100
  rw [be_eq _ (by omega), be_eq m hn, eh, et, sX, ext_in_left _ _ _ (by omega), ext_in_left _ _ _ (by omega), ex_ex _ _ _ _ _ (by omega) (by omega)]
  have e := ext_in_right (m.extract 0 K ++ x) (m.extract K m.size) (m.size - K - tlOf m 100) (m.size - K)
  rw [sA] at e
  rw [show K + x.size + (m.size - K) - tlOf m 100 = K + x.size + (m.size - K - tlOf m 100) by omega, e, ex_ex _ _ _ _ _ (Nat.le_refl _) (by omega)]
  rw [show K + (m.size - K - tlOf m 100) = m.size - tlOf m 100 by omega, show K + (m.size - K) = m.size by omega]
  simp

/-- the excerpt's shape -/
theorem be_shape (m : ByteArray) (hn : 200 < m.size) : ∃ h t, h ≤ 100 ∧ t ≤ 100 ∧ (be m).size = h + 3 + t ∧ ((be m).extract 0 h).toList = (m.extract 0 h).toList ∧
    ((be m).extract h (h + 3)).toList = [46, 46, 46] ∧ ((be m).extract (h + 3) (be m).size).toList = (m.extract (m.size - t) m.size).toList := by
  have hl := hd_le' m 100
  have tl := tl_le m 100
  have d3 := dots_size
  have sH : (m.extract 0 (hdOf m 100)).size = hdOf m 100 := by rw [ex_size _ _ _ (by omega)]; omega
  have sT : (m.extract (m.size - tlOf m 100) m.size).size = tlOf m 100 := by rw [ex_size _ _ _ (Nat.le_refl _)]; omega
  have sD : (m.extract 0 (hdOf m 100) ++ dots).size = hdOf m 100 + 3 := by rw [ByteArray.size_append]; omega
  have sR : (be m).size = hdOf m 100 + 3 + tlOf m 100 := by rw [be_eq m hn, ByteArray.size_append]; omega
  refine ⟨hdOf m 100, tlOf m 100, hl, tl, sR, ?_, ?_, ?_⟩
  · rw [be_eq m hn, ext_in_left _ _ _ (by omega), ext_left _ _ _ sH.symm]
  · rw [be_eq m hn, ByteArray.append_assoc]
    have e := ext_in_right (m.extract 0 (hdOf m 100)) (dots ++ m.extract (m.size - tlOf m 100) m.size) 0 3
    rw [sH, Nat.add_zero, ext_left _ _ _ d3.symm] at e
    rw [e, Go.ByteArray.toList_eq]; rfl
  · rw [sR, be_eq m hn, ext_right _ _ _ _ sD.symm (by omega)]
end Go.Proofs.Qxb6628653a
