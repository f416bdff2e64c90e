import Derived.Test.Qxb6628761aUsed
import Derived.Deep.RegionWith
namespace Go.Proofs.Qxb6628761a
open Go.ChangeShapes Go.WideShapes Go.ChangeAt Go.RowKit Go.Maps

/-- the variable of the probe -/
def BoxAt (bx : Nat) (ps : ByteArray) (pb pp : Int) (w : World) : Prop := w.heap[bx]? = some (.cells #[.string ps, .int .i16 pb, .int .i16 pp] 26 (0, 0))
theorem BoxAt.lt {bx : Nat} {ps : ByteArray} {pb pp : Int} {w : World} (h : BoxAt bx ps pb pp w) : bx < w.heap.size := (Array.getElem?_eq_some_iff.1 h).1
theorem BoxAt.cells {bx : Nat} {ps : ByteArray} {pb pp : Int} {w wr : World} (h : BoxAt bx ps pb pp w) (hb : Below w.heap.size w wr) :
    wr.cell? ⟨bx, 0, none⟩ = some (.string ps) ∧ wr.cell? ⟨bx, 1, none⟩ = some (.int .i16 pb) ∧ wr.cell? ⟨bx, 2, none⟩ = some (.int .i16 pp) := by
  have h' : wr.heap[bx]? = some (.cells #[.string ps, .int .i16 pb, .int .i16 pp] 26 (0, 0)) := (hb.block _ h.lt).trans h
  refine ⟨?_, ?_, ?_⟩ <;> (rw [Lib.cell_of_heap h']; rfl)

set_option maxRecDepth 8000 in
set_option maxHeartbeats 16000000 in
theorem lawB_walk (a : Option Addr) (len cap : Nat) (S : Nat → ByteArray) (Bk Pl : Nat → Int) (ps : ByteArray) (pb pp : Int) (wI : World) (h : KeysAt wI a len cap S Bk Pl)
    (hps : ps.size ≤ maxLen) (hwb : (Lit.int .i16 pb).wf = true) (hwp : (Lit.int .i16 pp).wf = true) :
    Calls Try.prog 4 #[.slice a len cap, .agg #[.string ps, .int .i16 pb, .int .i16 pp]] wI fun e w' => e = .returned (.bool true) ∧ Below wI.heap.size wI w' := by
  have hlc : len ≤ 9223372036854775807 := by have := h.1; have := h.2.1; unfold maxLen at *; omega
  have hpm : ps.size ≤ 9223372036854775807 := by unfold maxLen at *; omega
  have HPW := hide (And.intro hwb hwp)
  have hbI : Below wI.heap.size wI (wI.alloc (.cells #[.string ps, .int .i16 pb, .int .i16 pp] 26)) := (Below.refl _ _).alloc (Nat.le_refl _) _
  have h0 := h.later hbI
  have HC11 := hide (bytesB_any a len cap S Bk Pl ps pb pp _ h0 hps)
  have HFIN : Hid (∀ w', Below (wI.alloc (.cells #[.string ps, .int .i16 pb, .int .i16 pp] 26)).heap.size (wI.alloc (.cells #[.string ps, .int .i16 pb, .int .i16 pp] 26)) w' → Below wI.heap.size wI w') := fun w' hb => hbI.trans (hb.mono hbI.size)
  have hbox : BoxAt wI.heap.size ps pb pp (wI.alloc (.cells #[.string ps, .int .i16 pb, .int .i16 pp] 26)) := heap_alloc_new _ _
  have HK := hide h0
  have HX := hide hbox
  clear h h0 hbI hwb hwp hbox
  have hmm := @run_makeMap Try.prog
  go_enter Try.func4, Try.ntmps4
  go_wp2_with fail
  revert HC11 HFIN HK HX
  generalize wI.alloc (.cells #[.string ps, .int .i16 pb, .int .i16 pp] 26) = w
  intro HC11 HFIN HK HX
  refine HC11.out.mono ?_
  rintro e w1 ⟨b0, rfl, hS0, hb1⟩
  have HB1 := hide hb1
  clear hb1 HC11
  obtain ⟨x0, x1, x2⟩ := HX.out.cells HB1.out
  cases b0 with
  | false =>
    clear hS0
    go_wp2
    go_ret
    exact ⟨rfl, HFIN.out _ HB1.out⟩
  | true =>
    have HS0 := hide (hS0 rfl).1
    have hp0 := (hS0 rfl).2
    clear hS0
    by_cases h1 : len ≤ 65536
    · by_cases h2 : 16 + ps.size ≤ 1048576
      · go_wp2_with fail
        go_loop [5, 6] (fun t v => ∃ k : Nat, k ≤ len ∧ v = .int .i64 k ∧ ∃ n : Nat, n ≤ 1048576 ∧ t = .int .i64 n) (fun _ v => len - (intOf v).toNat)
        case atStart => exact ⟨0, Nat.zero_le _, rfl, 16 + ps.size, h2, by go_num⟩
        case round =>
          obtain ⟨k, hk, rfl, n, hn, rfl⟩ := hrel
          by_cases hlt : k < len
          · obtain ⟨kb, o, hix, hkb, c0, c1, c2, hr⟩ := HK.out.at HB1.out hlt
            have hsz := HS0.out k hlt
            clear hr c1 c2
            generalize S k = s at *
            by_cases h2 : n + (16 + s.size) ≤ 1048576
            · go_wp2
              go_round
              case rel => exact ⟨k + 1, by omega, by go_num, n + (16 + s.size), h2, by go_num⟩
              case measure => simp [intOf]; omega
            · go_wp2
              go_ret
              exact ⟨rfl, HFIN.out _ HB1.out⟩
          · have hke : len ≤ k := by omega
            clear hlt
            have hdq : domB pb pp = true ∨ domB pb pp = false := by cases domB pb pp <;> simp
            rcases hdq with hdq | hdq
            · have HDQ := hide hdq
              have CP : Hid (∀ wx, Calls Try.prog 6 #[.agg #[.string ps, .int .i16 pb, .int .i16 pp]] wx fun e w' => e = .returned (.bool true) ∧ Below wx.heap.size wx w') := fun wx => by rw [← hdq]; exact dom_any _ _ _ wx
              clear hdq
              go_wp2_with fail
              refine (CP.out _).mono ?_
              rintro e w2 ⟨rfl, h2'⟩
              have HB2 := hide (HB1.out.trans (h2'.mono HB1.out.size))
              clear h2' CP
              clear x0 x1 x2
              go_wp2_with fail
              go_loopw [7] (fun v wr => ∃ k : Nat, k ≤ len ∧ v = .int .i64 k ∧ Hid (Doms Bk Pl k) ∧ Hid (Below w.heap.size w wr)) (fun v _ => len - (intOf v).toNat)
              case atStart => exact ⟨0, Nat.zero_le _, rfl, fun j hj => by omega, HB2.out⟩
              case round =>
                rename World => wd
                obtain ⟨m, hm, rfl, hD, hB⟩ := hrel
                by_cases hlt : m < len
                · obtain ⟨kb, o, hix, hkb, c0, c1, c2, hr⟩ := HK.out.at hB.out hlt
                  clear hr
                  have hdm : domB (Bk m) (Pl m) = true ∨ domB (Bk m) (Pl m) = false := by cases domB (Bk m) (Pl m) <;> simp
                  rcases hdm with hdm | hdm
                  · have HDM := hide hdm
                    have CD : Hid (∀ wx, Calls Try.prog 6 #[.agg #[.string (S m), .int .i16 (Bk m), .int .i16 (Pl m)]] wx fun e w' => e = .returned (.bool true) ∧ Below wx.heap.size wx w') := fun wx => by rw [← hdm]; exact dom_any _ _ _ wx
                    clear hdm
                    go_wp2_with fail
                    refine (CD.out _).mono ?_
                    rintro e w3 ⟨rfl, h3⟩
                    have H3 := hide (hB.out.trans (h3.mono hB.out.size))
                    clear h3
                    go_wp2
                    go_roundw
                    case rel => exact ⟨m + 1, by omega, by go_num, hD.out.step HDM.out, H3.out⟩
                    case measure => simp [intOf]; omega
                  · have CD : Hid (∀ wx, Calls Try.prog 6 #[.agg #[.string (S m), .int .i16 (Bk m), .int .i16 (Pl m)]] wx fun e w' => e = .returned (.bool false) ∧ Below wx.heap.size wx w') := fun wx => by rw [← hdm]; exact dom_any _ _ _ wx
                    clear hdm
                    go_wp2_with fail
                    refine (CD.out _).mono ?_
                    rintro e w3 ⟨rfl, h3⟩
                    have H3 := hide (hB.out.trans (h3.mono hB.out.size))
                    clear h3
                    go_wp2
                    go_ret
                    exact ⟨rfl, HFIN.out _ H3.out⟩
                · have hme : len ≤ m := by omega
                  clear hlt
                  have hmk : ∀ wx : World, (Instr.makeSlice 29 (.int .i64 (len : Int)) (.int .i64 (len : Int))).run Try.prog wx = .ok (.slice (some ⟨wx.heap.size, 0, none⟩) len len) (wx.alloc (.cells (madeCells #[.int .i32 0] len) 21)) := fun wx =>
                    run_make_row' (P := Try.prog) 29 21 (.int .i32 0) 4 Try.underlying29 info21 rfl .i64 .i64 len (by omega) (by omega) wx
                  go_wp2_with fail
                  have HZ : Hid (w.heap.size ≤ wd.heap.size) := hB.out.size
                  rw [show decide (m < len) = false from decide_eq_false (by omega)]
                  have HM := hide (Four.made (len := len) hB.out HZ.out)
                  clear hmk
                  revert HM
                  generalize (((wd.alloc (.cells #[.int .i32 0, .slice none 0 0, .slice none 0 0, .map none] 33)).alloc (.cells (madeCells #[.int .i32 0] len) 21)).alloc (.map #[] 0)).alloc (.map #[] 0) = we
                  generalize wd.heap.size + 1 + 1 + 1 = ub
                  generalize wd.heap.size + 1 + 1 = sb
                  generalize wd.heap.size + 1 = fb
                  clear HZ
                  clear hB
                  generalize wd.heap.size = b
                  intro HM
                  go_loopw [12, 13] (fun d v wr => ∃ k c : Nat, k ≤ len ∧ v = .int .i64 k ∧ d = .int .i32 c ∧ Hid (RelB S Bk Pl w b fb sb ub len k c wr)) (fun _ v _ => len - (intOf v).toNat)
                  case atStart => exact ⟨0, 0, Nat.zero_le _, rfl, rfl, _, _, HM.out, fun j hj => by omega, Nat.le_refl _⟩
                  case round =>
                    clear HM
                    obtain ⟨i, c, hi, rfl, rfl, f, V, hF, hG, hci⟩ := hrel
                    have HF := hide hF
                    have HG := hide hG
                    clear hF hG
                    by_cases hlt : i < len
                    · obtain ⟨kb, o, hix, hkb, c0, c1, c2, hszm, hwb, hwp⟩ := HK.out.at HF.out.bel hlt
                      have hss := HS0.out i hlt
                      have hdm := hD.out i (by omega)
                      obtain ⟨s, hsE⟩ : ∃ s, S i = s := ⟨_, rfl⟩
                      obtain ⟨bk, hbE⟩ : ∃ b, Bk i = b := ⟨_, rfl⟩
                      obtain ⟨p, hpE⟩ : ∃ p, Pl i = p := ⟨_, rfl⟩
                      rw [hsE] at c0 hss
                      rw [hbE] at c1 hwb hdm
                      rw [hpE] at c2 hwp hdm
                      have hdom : Dom s bk p := dom_of hss hdm
                      have hido : IdOk (idS s bk) (idB bk) (idP bk p) := idok_of hss hwb hwp
                      have HDO := hide hdom
                      have HID := hide hido
                      have HE : Hid (S i = s ∧ Bk i = bk ∧ Pl i = p) := ⟨hsE, hbE, hpE⟩
                      have HKF : Hid (kb ≠ fb) := by have := HF.out.ord; show kb ≠ fb; omega
                      clear hdom hido hdm hszm hwb hwp hsE hbE hpE
                      have hfc : f (idS s bk) bk (idP bk p) = none ∨ ∃ v, f (idS s bk) bk (idP bk p) = some v := by
                        cases f (idS s bk) bk (idP bk p) with
                        | none => exact Or.inl rfl
                        | some v => exact Or.inr ⟨v, rfl⟩
                      rcases hfc with hf | ⟨v, hf⟩
                      · have HFN := hide hf
                        clear hf
                        go_wp2_with fail
                        refine (toKey_any s bk p _).mono ?_
                        rintro e wA ⟨rfl, hA⟩
                        have HFA := hide (HF.out.below hA)
                        clear hA
                        go_wp2_with fail
                        refine (number_none HFA.out.num (by omega) HDO.out HFN.out).mono ?_
                        rintro e wB ⟨rfl, hNB, hTB⟩
                        have HFB := hide (HFA.out.turned hNB hTB)
                        clear hNB hTB hix c0 c1 c2 HKF
                        have hfc0 := HFB.out.row.cell hlt
                        have hfz := HFB.out.row.frozen i
                        have HFS := hide (HFB.out.set i c)
                        obtain ⟨kb', o', hix, hkb', c0, c1, c2, _⟩ := HK.out.at HFS.out.bel hlt
                        rw [HE.out.1] at c0
                        rw [HE.out.2.1] at c1
                        rw [HE.out.2.2] at c2
                        go_wp2_with fail
                        refine (ident_any s bk p _).mono ?_
                        rintro e wC ⟨rfl, hC⟩
                        have HFC : Hid (∀ o, Four w b fb sb ub len (upd f (idS s bk) bk (idP bk p) c) (c + 1) (updV V i c) f i c i c (wC.alloc o)) := fun o => (HFS.out.below hC).alloc o
                        have HZC : Hid (ub < wC.heap.size) := (HFS.out.below hC).used.lt
                        clear hC hix c0 c1 c2 hfc0 hfz
                        go_wp2_with (first | (at_lookup; refine wpList_seen _ rfl _ _ rfl sb i f c rfl (HFC.out _).seen (idS s bk) (idB bk) (idP bk p) HID.out rfl 0 false (Or.inl ⟨HFN.out, rfl, rfl⟩) ?_) | (at_lookup; refine wpList_used _ rfl _ _ rfl ub i c (by omega) rfl (HFC.out _).used rfl ?_) | (at_mapUpdate; refine wpList_used_put _ rfl _ _ _ rfl ub i c (by omega) (by omega) rfl (HFC.out _).used rfl rfl ?_))
                        intro wD hUD hgD
                        have HFD := hide ((HFC.out _).usedPut hUD hgD)
                        have HKD : Hid (wD.heap[wC.heap.size]? = some (.cells #[.string (idS s bk), .int .i16 (idB bk), .int .i16 (idP bk p)] 35 (0, 0))) := (hgD.block _ (by simp) (by have := HZC.out; intro e; injection e; omega)).trans (heap_alloc_new _ _)
                        clear hUD hgD
                        obtain ⟨c0, c1, c2⟩ := id_cells HKD.out
                        go_wp2_with (at_mapUpdate; refine wpList_seen_put _ rfl _ _ _ rfl sb i f c (by omega) (by omega) rfl HFD.out.seen (idS s bk) (idB bk) (idP bk p) HID.out rfl rfl ?_)
                        intro wE hSE hgE
                        have HFE := hide (HFD.out.seenPut hSE hgE)
                        clear hSE hgE c0 c1 c2
                        go_wp2
                        go_roundw
                        case rel => exact ⟨i + 1, c + 1, by omega, by go_num, by go_num, _, _, HFE.out, HG.out.step (upd_keeps HFN.out) (by rw [HE.out.1, HE.out.2.1, HE.out.2.2]; exact upd_same _ _ _ _ _), by omega⟩
                        case measure => simp [intOf]; omega
                      · have HFN := hide hf
                        have HVC : Hid (v < c) := HF.out.seen.bound HID.out hf
                        have hvc := HVC.out
                        clear hf
                        go_wp2_with fail
                        refine (toKey_any s bk p _).mono ?_
                        rintro e wA ⟨rfl, hA⟩
                        have HFA := hide (HF.out.below hA)
                        clear hA
                        go_wp2_with fail
                        refine (number_some HFA.out.num (by omega) HDO.out HFN.out).mono ?_
                        rintro e wB ⟨rfl, hB'⟩
                        have HFB := hide (HFA.out.below hB')
                        clear hB' hix c0 c1 c2 HKF
                        have hfc0 := HFB.out.row.cell hlt
                        have hfz := HFB.out.row.frozen i
                        have HFS := hide (HFB.out.set i v)
                        obtain ⟨kb', o', hix, hkb', c0, c1, c2, _⟩ := HK.out.at HFS.out.bel hlt
                        rw [HE.out.1] at c0
                        rw [HE.out.2.1] at c1
                        rw [HE.out.2.2] at c2
                        go_wp2_with fail
                        refine (ident_any s bk p _).mono ?_
                        rintro e wC ⟨rfl, hC⟩
                        have HFC : Hid (∀ o, Four w b fb sb ub len f c (updV V i v) f i c i c (wC.alloc o)) := fun o => (HFS.out.below hC).alloc o
                        clear hC hix c0 c1 c2 hfc0 hfz
                        go_wp2_with (at_lookup; refine wpList_seen _ rfl _ _ rfl sb i f c rfl (HFC.out _).seen (idS s bk) (idB bk) (idP bk p) HID.out rfl v true (Or.inr ⟨v, HFN.out, rfl, rfl⟩) ?_)
                        go_roundw
                        case rel => exact ⟨i + 1, c, by omega, by go_num, rfl, _, _, (HFC.out _).mono (Nat.le_succ _) (Nat.le_succ _), HG.out.step (fun _ _ _ _ h => h) (by rw [HE.out.1, HE.out.2.1, HE.out.2.2]; exact HFN.out), by omega⟩
                        case measure => simp [intOf]; omega
                    · have hie : i = len := by omega
                      clear hlt
                      subst hie
                      go_wp2_with fail
                      go_loop [18] (fun v => ∃ j : Nat, j ≤ i ∧ v = .int .i64 j) (fun v => i - (intOf v).toNat)
                      case atStart => exact ⟨0, Nat.zero_le _, rfl⟩
                      case round =>
                        obtain ⟨j, hj, rfl⟩ := hrel
                        by_cases hlt : j < i
                        · have hcell := HF.out.row.cell hlt
                          have hvc : V j < c := by
                            obtain ⟨_, _, _, _, _, _, _, _, hwb, hwp⟩ := HK.out.at HF.out.bel hlt
                            exact HF.out.seen.bound (idok_of (HS0.out j hlt) hwb hwp) (HG.out j hlt)
                          generalize V j = v at *
                          go_wp2
                          go_round
                          case rel => exact ⟨j + 1, by omega, by go_num⟩
                          case measure => simp [intOf]; omega
                        · have hje : i ≤ j := by omega
                          clear hlt
                          go_wp2_with fail
                          rename World => wf
                          go_loopw [19] (fun v wx => ∃ q : Nat, q ≤ i ∧ v = .int .i64 ((q : Int) - 1) ∧ Hid (Below wf.heap.size wf wx)) (fun v _ => (intOf v + 1).toNat)
                          case atStart => exact ⟨i, Nat.le_refl _, rfl, Below.refl _ _⟩
                          case round =>
                            obtain ⟨q, hq, rfl, hB⟩ := hrel
                            by_cases hq0 : q = 0
                            · subst hq0
                              have HW := hide (HF.out.below hB.out)
                              have HDP : Hid (Dom ps pb pp) := dom_of hp0 HDQ.out
                              have HIP : Hid (IdOk (idS ps pb) (idB pb) (idP pb pp)) := idok_of hp0 HPW.out.1 HPW.out.2
                              clear hB HF HG hD HS0 HK HB1 HB2 HDQ HPW
                              obtain ⟨x0, x1, x2⟩ := HX.out.cells HW.out.bel
                              have hfc : f (idS ps pb) pb (idP pb pp) = none ∨ ∃ v, f (idS ps pb) pb (idP pb pp) = some v := by
                                cases f (idS ps pb) pb (idP pb pp) with
                                | none => exact Or.inl rfl
                                | some v => exact Or.inr ⟨v, rfl⟩
                              rcases hfc with hf | ⟨v, hf⟩
                              · have HFN := hide hf
                                clear hf
                                go_wp2_with fail
                                refine (ident_any ps pb pp _).mono ?_
                                rintro e wA ⟨rfl, hA⟩
                                have HFA : Hid (∀ o, Four w b fb sb ub i f c V f i c i c (wA.alloc o)) := fun o => (HW.out.below hA).alloc o
                                clear hA x0 x1 x2
                                obtain ⟨x0, x1, x2⟩ := HX.out.cells (HFA.out (.cells #[.string (idS ps pb), .int .i16 (idB pb), .int .i16 (idP pb pp)] 35)).bel
                                go_wp2_with (at_lookup; refine wpList_seen _ rfl _ _ rfl sb i f c rfl (HFA.out _).seen (idS ps pb) (idB pb) (idP pb pp) HIP.out rfl 0 false (Or.inl ⟨HFN.out, rfl, rfl⟩) ?_)
                                refine (toKey_any ps pb pp _).mono ?_
                                rintro e wB ⟨rfl, hB⟩
                                have HFB : Hid (∀ o, Four w b fb sb ub i f c V f i c i c (wB.alloc o)) := fun o => ((HFA.out _).below hB).alloc o
                                have HZB : Hid (b < wB.heap.size) := ((HFA.out _).below hB).num.lt
                                clear hB x0 x1 x2
                                obtain ⟨x, hx⟩ := find_none (HFB.out (.cells #[.string ps, .int .i16 pb, .int .i16 pp] 39)).num (by omega) HDP.out HFN.out
                                have HXX := hide hx
                                clear hx
                                go_wp2_with fail
                                refine HXX.out.mono ?_
                                clear HXX
                                rintro e wC ⟨rfl, hC⟩
                                have HFC := hide ((HFB.out _).below hC)
                                have HKC : Hid (wC.heap[wB.heap.size]? = some (.cells #[.string ps, .int .i16 pb, .int .i16 pp] 39 (0, 0))) := (hC.block _ (by simp)).trans (heap_alloc_new _ _)
                                clear hC
                                obtain ⟨c0, c1, c2⟩ := key_cells HKC.out
                                go_wp2_with fail
                                refine (number_none HFC.out.num (by omega) HDP.out HFN.out).mono ?_
                                rintro e wD ⟨rfl, hN, hT⟩
                                have HFD := hide (HFC.out.turned hN hT)
                                have HKD : Hid (wD.heap[wB.heap.size]? = some (.cells #[.string ps, .int .i16 pb, .int .i16 pp] 39 (0, 0))) := (hT.block _ (Array.getElem?_eq_some_iff.1 HKC.out).1 (by have := HZB.out; rintro (e | ⟨_, e⟩); omega; exact e ⟨_, _, HKC.out⟩)).trans HKC.out
                                clear hN hT c0 c1 c2
                                obtain ⟨c0, c1, c2⟩ := key_cells HKD.out
                                go_wp2_with fail
                                refine (find_some HFD.out.num (by omega) HDP.out (upd_same _ _ _ _ _)).mono ?_
                                rintro e wE ⟨rfl, hE⟩
                                have HFE := hide (HFD.out.below hE)
                                clear hE c0 c1 c2
                                go_wp2
                                go_ret
                                exact ⟨rfl, HFIN.out _ HFE.out.bel⟩
                              · have HFN := hide hf
                                have HVC : Hid (v < c) := HW.out.seen.bound HIP.out hf
                                have hvc := HVC.out
                                clear hf
                                go_wp2_with fail
                                refine (ident_any ps pb pp _).mono ?_
                                rintro e wA ⟨rfl, hA⟩
                                have HFA : Hid (∀ o, Four w b fb sb ub i f c V f i c i c (wA.alloc o)) := fun o => (HW.out.below hA).alloc o
                                clear hA x0 x1 x2
                                obtain ⟨x0, x1, x2⟩ := HX.out.cells (HFA.out (.cells #[.string (idS ps pb), .int .i16 (idB pb), .int .i16 (idP pb pp)] 35)).bel
                                go_wp2_with (at_lookup; refine wpList_seen _ rfl _ _ rfl sb i f c rfl (HFA.out _).seen (idS ps pb) (idB pb) (idP pb pp) HIP.out rfl v true (Or.inr ⟨v, HFN.out, rfl, rfl⟩) ?_)
                                refine (toKey_any ps pb pp _).mono ?_
                                rintro e wB ⟨rfl, hB⟩
                                have HFB : Hid (∀ o, Four w b fb sb ub i f c V f i c i c (wB.alloc o)) := fun o => ((HFA.out _).below hB).alloc o
                                clear hB x0 x1 x2
                                go_wp2_with fail
                                refine (find_some (HFB.out _).num (by omega) HDP.out HFN.out).mono ?_
                                rintro e wC ⟨rfl, hC⟩
                                have HFC := hide ((HFB.out _).below hC)
                                have HKC : Hid (wC.heap[wB.heap.size]? = some (.cells #[.string ps, .int .i16 pb, .int .i16 pp] 39 (0, 0))) := (hC.block _ (by simp)).trans (heap_alloc_new _ _)
                                clear hC
                                obtain ⟨c0, c1, c2⟩ := key_cells HKC.out
                                go_wp2_with fail
                                refine (number_some HFC.out.num (by omega) HDP.out HFN.out).mono ?_
                                rintro e wD ⟨rfl, hN⟩
                                have HFD := hide (HFC.out.below hN)
                                have HKD : Hid (wD.heap[wB.heap.size]? = some (.cells #[.string ps, .int .i16 pb, .int .i16 pp] 39 (0, 0))) := (hN.block _ (Array.getElem?_eq_some_iff.1 HKC.out).1).trans HKC.out
                                clear hN c0 c1 c2
                                obtain ⟨c0, c1, c2⟩ := key_cells HKD.out
                                go_wp2_with fail
                                refine (find_some HFD.out.num (by omega) HDP.out HFN.out).mono ?_
                                rintro e wE ⟨rfl, hE⟩
                                have HFE := hide (HFD.out.below hE)
                                clear hE c0 c1 c2
                                go_wp2
                                go_ret
                                exact ⟨rfl, HFIN.out _ HFE.out.bel⟩
                            · obtain ⟨y, rfl⟩ : ∃ y, q = y + 1 := ⟨q - 1, by omega⟩
                              have hyi : y < i := by omega
                              clear hq0
                              rw [show (((y + 1 : Nat) : Int) - 1) = (y : Int) by omega]
                              have HW := hide (HF.out.below hB.out)
                              obtain ⟨kb, o, hix, hkb, c0, c1, c2, _, hwb, hwp⟩ := HK.out.at HW.out.bel hyi
                              have hss := HS0.out y hyi
                              have hdm := hD.out y (by omega)
                              have hgv := HG.out y hyi
                              have hcell := HW.out.row.cell hyi
                              generalize S y = s at *
                              generalize Bk y = bk at *
                              generalize Pl y = p at *
                              generalize V y = v at *
                              have HDO := hide (dom_of hss hdm)
                              have HGV := hide hgv
                              have hvc : v < c := HW.out.seen.bound (idok_of hss hwb hwp) hgv
                              clear hgv hdm hwb hwp
                              go_wp2_with fail
                              go_region_with (first | (go_at_call 8; refine (toKey_any s bk p _).mono ?_; rintro e wA ⟨rfl, hA⟩; have HA : Hid (Below wr.heap.size wr wA) := ⟨hA.os, hA.tape, hA.output, hA.size, hA.block⟩; clear hA; have hcA := (HA.out.cell (p := ⟨fb, y, none⟩) HW.out.row.lt).trans hcell) | (go_at_call 10; refine (number_some (HW.out.num.below HA.out) (by omega) HDO.out HGV.out).mono ?_; rintro e wB ⟨rfl, hB'⟩; have HBB : Hid (Below wr.heap.size wr wB) := HA.out.trans (hB'.mono HA.out.size); clear hB'; have hcB := (HBB.out.cell (p := ⟨fb, y, none⟩) HW.out.row.lt).trans hcell))
                              all_goals
                                go_wp2
                                go_roundw
                                case rel => exact ⟨y, by omega, by go_num, hB.out.trans (HBB.out.mono hB.out.size)⟩
                                case measure => simp [intOf]
            · have CP : Hid (∀ wx, Calls Try.prog 6 #[.agg #[.string ps, .int .i16 pb, .int .i16 pp]] wx fun e w' => e = .returned (.bool false) ∧ Below wx.heap.size wx w') := fun wx => by rw [← hdq]; exact dom_any _ _ _ wx
              clear hdq
              go_wp2_with fail
              refine (CP.out _).mono ?_
              rintro e w2 ⟨rfl, h2'⟩
              have HB2 := hide (HB1.out.trans (h2'.mono HB1.out.size))
              clear h2' CP
              go_wp2
              go_ret
              exact ⟨rfl, HFIN.out _ HB2.out⟩
      · go_wp2
        go_ret
        exact ⟨rfl, HFIN.out _ HB1.out⟩
    · go_wp2
      go_ret
      exact ⟨rfl, HFIN.out _ HB1.out⟩
end Go.Proofs.Qxb6628761a
