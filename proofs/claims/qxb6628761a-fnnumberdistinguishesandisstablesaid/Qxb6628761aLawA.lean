import Derived.Test.Qxb6628761aSeen
namespace Go.Proofs.Qxb6628761a
open Go.ChangeShapes Go.WideShapes Go.ChangeAt Go.RowKit Go.Maps

/-- the first n keys are in the domain -/
def Doms (Bk Pl : Nat → Int) (n : Nat) : Prop := ∀ j, j < n → domB (Bk j) (Pl j) = true
theorem Doms.step {Bk Pl : Nat → Int} {k : Nat} (h : Doms Bk Pl k) (hk : domB (Bk k) (Pl k) = true) : Doms Bk Pl (k + 1) := fun j hj => by
  by_cases e : j = k
  · rw [e]; exact hk
  · exact h j (by omega)

theorem dom_of {s : ByteArray} {b p : Int} (hs : s.size ≤ 1048576) (h : domB b p = true) : Dom s b p := ⟨hs, by unfold domB at h; simpa using h⟩

theorem idok_of {s : ByteArray} {b p : Int} (hs : s.size ≤ 1048576) (hb : (Lit.int .i16 b).wf = true) (hp : (Lit.int .i16 p).wf = true) : IdOk (idS s b) (idB b) (idP b p) := by
  refine ⟨?_, hb, ?_⟩
  · unfold idS maxLen; split
    · omega
    · simp
  · unfold idP; split
    · decide
    · exact hp

/-- what the main loop of law A carries -/
def RelA (w : World) (B b sb k c : Nat) (wr : World) : Prop := ∃ f, NumAt B b f c wr ∧ SeenAt sb k f c wr ∧ Below w.heap.size w wr ∧ c ≤ k

/-- the cells of a Key variable -/
theorem key_cells {w : World} {k : Nat} {s : ByteArray} {b p : Int} (h : w.heap[k]? = some (.cells #[.string s, .int .i16 b, .int .i16 p] 39 (0, 0))) :
    w.cell? ⟨k, 0, none⟩ = some (.string s) ∧ w.cell? ⟨k, 1, none⟩ = some (.int .i16 b) ∧ w.cell? ⟨k, 2, none⟩ = some (.int .i16 p) := by
  refine ⟨?_, ?_, ?_⟩ <;> (rw [Lib.cell_of_heap h]; rfl)

theorem Turn.below {F : Nat → Prop} {w0 w w' : World} (h : Turn F w w') (hb : Below w0.heap.size w0 w) (hf : ∀ k, F k → w0.heap.size ≤ k) : Below w0.heap.size w0 w' :=
  hb.trans ⟨h.os, h.tape, h.output, h.size, fun k hk => h.block k (Nat.lt_of_lt_of_le hk hb.size) (fun e => by have := hf k e; omega)⟩

theorem NumAt.lt {B b c : Nat} {f : ByteArray → Int → Int → Option Nat} {w : World} (h : NumAt B b f c w) : b < w.heap.size := by
  obtain ⟨_, _, _, _, _, _, _, R, _⟩ := h; exact R.own.lt
theorem SeenAt.mono {sb n n' c : Nat} {f : ByteArray → Int → Int → Option Nat} {w : World} (h : SeenAt sb n f c w) (hn : n ≤ n') : SeenAt sb n' f c w := by
  obtain ⟨D, h, t⟩ := h; exact ⟨D, h.mono hn, t⟩

set_option maxRecDepth 4000 in
set_option maxHeartbeats 4000000 in
theorem lawA_walk (a : Option Addr) (len cap : Nat) (S : Nat → ByteArray) (Bk Pl : Nat → Int) (w : World) (h : KeysAt w a len cap S Bk Pl) :
    Calls Try.prog 3 #[.slice a len cap] w fun e w' => e = .returned (.bool true) ∧ Below w.heap.size w w' := by
  have HK := hide h
  have hlc : len ≤ 9223372036854775807 := by have := h.1; have := h.2.1; unfold maxLen at *; omega
  have HC5 : Hid (Calls Try.prog 5 #[.slice a len cap] w fun e w' => SomeBool (Small S len) w e w') := bytesA_any a len cap S Bk Pl w h
  clear h
  have hmm := @run_makeMap Try.prog
  go_enter Try.func3, Try.ntmps3
  go_wp2_with fail
  refine HC5.out.mono ?_
  rintro e w1 ⟨b0, rfl, hS0, hb1⟩
  have HB1 := hide hb1
  clear hb1 HC5
  cases b0 with
  | false =>
    clear hS0
    go_wp2
    go_ret
    exact ⟨rfl, HB1.out⟩
  | true =>
    have HS0 := hide (hS0 rfl)
    clear hS0
    by_cases h1 : len ≤ 65536
    · go_wp2_with fail
      go_loop [3, 4] (fun t v => ∃ k : Nat, k ≤ len ∧ v = .int .i64 k ∧ ∃ n : Nat, n ≤ 1048576 ∧ t = .int .i64 n) (fun _ v => len - (intOf v).toNat)
      case atStart => exact ⟨0, Nat.zero_le _, rfl, 0, Nat.zero_le _, rfl⟩
      case round =>
        obtain ⟨k, hk, rfl, n, hn, rfl⟩ := hrel
        by_cases hlt : k < len
        · obtain ⟨kb, o, hix, hkb, c0, c1, c2, hr⟩ := HK.out.at HB1.out hlt
          have hsz := HS0.out k hlt
          clear hr c1 c2
          generalize S k = s at *
          by_cases h2 : n + (16 + s.size) ≤ 1048576
          · go_wp2
            go_round
            case rel => exact ⟨k + 1, by omega, by go_num, n + (16 + s.size), h2, by go_num⟩
            case measure => simp [intOf]; omega
          · go_wp2
            go_ret
            exact ⟨rfl, HB1.out⟩
        · have hke : len ≤ k := by omega
          clear hlt
          go_wp2_with fail
          go_loopw [5] (fun v wr => ∃ k : Nat, k ≤ len ∧ v = .int .i64 k ∧ Hid (Doms Bk Pl k) ∧ Hid (Below w.heap.size w wr)) (fun v _ => len - (intOf v).toNat)
          case atStart => exact ⟨0, Nat.zero_le _, rfl, fun j hj => by omega, HB1.out⟩
          case round =>
            rename World => wd
            obtain ⟨m, hm, rfl, hD, hB⟩ := hrel
            by_cases hlt : m < len
            · obtain ⟨kb, o, hix, hkb, c0, c1, c2, hr⟩ := HK.out.at hB.out hlt
              clear hr
              have hdm : domB (Bk m) (Pl m) = true ∨ domB (Bk m) (Pl m) = false := by cases domB (Bk m) (Pl m) <;> simp
              rcases hdm with hdm | hdm
              · have HDM := hide hdm
                have CD : Hid (∀ wx, Calls Try.prog 6 #[.agg #[.string (S m), .int .i16 (Bk m), .int .i16 (Pl m)]] wx fun e w' => e = .returned (.bool true) ∧ Below wx.heap.size wx w') := fun wx => by rw [← hdm]; exact dom_any _ _ _ wx
                clear hdm
                go_wp2_with fail
                refine (CD.out _).mono ?_
                rintro e w2 ⟨rfl, h2⟩
                have H2 := hide (hB.out.trans (h2.mono hB.out.size))
                clear h2
                go_wp2
                go_roundw
                case rel => exact ⟨m + 1, by omega, by go_num, hD.out.step HDM.out, H2.out⟩
                case measure => simp [intOf]; omega
              · have CD : Hid (∀ wx, Calls Try.prog 6 #[.agg #[.string (S m), .int .i16 (Bk m), .int .i16 (Pl m)]] wx fun e w' => e = .returned (.bool false) ∧ Below wx.heap.size wx w') := fun wx => by rw [← hdm]; exact dom_any _ _ _ wx
                clear hdm
                go_wp2_with fail
                refine (CD.out _).mono ?_
                rintro e w2 ⟨rfl, h2⟩
                have H2 := hide (hB.out.trans (h2.mono hB.out.size))
                clear h2
                go_wp2
                go_ret
                exact ⟨rfl, H2.out⟩
            · have hme : len ≤ m := by omega
              clear hlt
              go_wp2_with fail
              have HZ : Hid (w.heap.size ≤ wd.heap.size) := hB.out.size
              rw [show decide (m < len) = false from decide_eq_false (by omega)]
              go_loopw [7, 9] (fun d v wr => ∃ k c : Nat, k ≤ len ∧ v = .int .i64 k ∧ d = .int .i32 c ∧ Hid (RelA w (wd.heap.size + 2) (wd.heap.size + 1) wd.heap.size k c wr)) (fun _ v _ => len - (intOf v).toNat)
              case atStart =>
                refine ⟨0, 0, Nat.zero_le _, rfl, rfl, fun _ _ _ => none, NumAt.fresh (by omega) (by simp) ?_, ?_, ?_, Nat.le_refl _⟩
                · have := heap_alloc_new (wd.alloc (.map #[] 0)) (.cells #[.int .i32 0, .slice none 0 0, .slice none 0 0, .map none] 33)
                  simpa using this
                · exact (SeenAt.made wd).of_block (Below.heap_alloc _ _ _ (by simp))
                · exact (hB.out.alloc HZ.out _).alloc (by simp; have := HZ.out; omega) _
              case round =>
                obtain ⟨i, c, hi, rfl, rfl, f, hN, hS, hBr, hci⟩ := hrel
                have HN := hide hN
                have HS := hide hS
                have HBr := hide hBr
                clear hN hS hBr hB
                by_cases hlt : i < len
                · obtain ⟨kb, o, hix, hkb, c0, c1, c2, hszm, hwb, hwp⟩ := HK.out.at HBr.out hlt
                  have hss := HS0.out i hlt
                  have hdm := hD.out i (by omega)
                  obtain ⟨s, hsE⟩ : ∃ s, S i = s := ⟨_, rfl⟩
                  obtain ⟨bk, hbE⟩ : ∃ b, Bk i = b := ⟨_, rfl⟩
                  obtain ⟨p, hpE⟩ : ∃ p, Pl i = p := ⟨_, rfl⟩
                  rw [hsE] at c0 hss
                  rw [hbE] at c1 hwb hdm
                  rw [hpE] at c2 hwp hdm
                  have hdom : Dom s bk p := dom_of hss hdm
                  have hido : IdOk (idS s bk) (idB bk) (idP bk p) := idok_of hss hwb hwp
                  have HDO := hide hdom
                  have HID := hide hido
                  have HSE := hide hsE
                  have HBE := hide hbE
                  have HPE := hide hpE
                  clear hdom hido hdm hszm hwb hwp hsE hbE hpE
                  have hfc : f (idS s bk) bk (idP bk p) = none ∨ ∃ v, f (idS s bk) bk (idP bk p) = some v := by
                    cases f (idS s bk) bk (idP bk p) with
                    | none => exact Or.inl rfl
                    | some v => exact Or.inr ⟨v, rfl⟩
                  rcases hfc with hf | ⟨v, hf⟩
                  · have HF := hide hf
                    clear hf
                    go_wp2_with fail
                    refine (ident_any s bk p _).mono ?_
                    rintro e wA ⟨rfl, hA⟩
                    have HSA : Hid (∀ o, SeenAt wd.heap.size i f c (wA.alloc o)) := fun o => HS.out.of_block ((Below.heap_alloc _ _ _ (by have := HS.out.lt; have := hA.size; omega)).trans (hA.block _ HS.out.lt))
                    have HTA : Hid (Turn (fun k => k = wd.heap.size) wr wA) := .of_below hA
                    clear hA
                    go_wp2_with (first | (at_lookup; refine wpList_seen _ rfl _ _ rfl wd.heap.size i f c rfl (HSA.out _) (idS s bk) (idB bk) (idP bk p) HID.out rfl 0 false (Or.inl ⟨HF.out, rfl, rfl⟩) ?_) | (at_mapUpdate; refine wpList_seen_put _ rfl _ _ _ rfl wd.heap.size i f c (by omega) (by omega) rfl (HSA.out _) (idS s bk) (idB bk) (idP bk p) HID.out rfl rfl ?_))
                    intro wB hSB hgB
                    have HSB := hide hSB
                    have HTB : Hid (Turn (fun k => k = wd.heap.size) wr wB) := (HTA.out.alloc _).grown hgB (fun k e _ => by cases e; rfl)
                    have HBB : Hid (Below w.heap.size w wB) := HTB.out.below HBr.out (fun k e => by have := HZ.out; omega)
                    clear hSB hgB hix c0 c1 c2
                    obtain ⟨kb', o', hix, hkb', c0, c1, c2, _⟩ := HK.out.at HBB.out hlt
                    rw [HSE.out] at c0
                    rw [HBE.out] at c1
                    rw [HPE.out] at c2
                    go_wp2_with fail
                    refine (toKey_any s bk p _).mono ?_
                    rintro e wC ⟨rfl, hC⟩
                    have HTC : Hid (∀ o, Turn (fun k => k = wd.heap.size) wr (wC.alloc o)) := fun o => (HTB.out.trans (.of_below hC)).alloc o
                    have HBC : Hid (∀ o, Below w.heap.size w (wC.alloc o)) := fun o => (HTC.out o).below HBr.out (fun k e => by have := HZ.out; omega)
                    have HSC : Hid (∀ o, SeenAt wd.heap.size (i + 1) (upd f (idS s bk) bk (idP bk p) c) (c + 1) (wC.alloc o)) := fun o => HSB.out.of_block ((Below.heap_alloc _ _ _ (by have := HSB.out.lt; have := hC.size; omega)).trans (hC.block _ HSB.out.lt))
                    have HZC : Hid (wd.heap.size + 1 < wC.heap.size) := by have := HN.out.lt; have := HTB.out.size; have := hC.size; show _ < _; omega
                    clear hC hix c0 c1 c2
                    have HNC : Hid (∀ o, NumAt (wd.heap.size + 2) (wd.heap.size + 1) f c (wC.alloc o)) := fun o => HN.out.kept (HTC.out o).size (fun k hk hb => (HTC.out o).block k hk (by omega))
                    obtain ⟨x, hx⟩ := find_none (HNC.out (.cells #[.string s, .int .i16 bk, .int .i16 p] 39)) (by omega) HDO.out HF.out
                    have HX := hide hx
                    clear hx
                    go_wp2_with fail
                    refine HX.out.mono ?_
                    clear HX
                    rintro e wD ⟨rfl, hD'⟩
                    have HND : Hid (NumAt (wd.heap.size + 2) (wd.heap.size + 1) f c wD) := (HNC.out _).below hD'
                    have HSD : Hid (SeenAt wd.heap.size (i + 1) (upd f (idS s bk) bk (idP bk p) c) (c + 1) wD) := (HSC.out _).of_block (hD'.block _ (HSC.out _).lt)
                    have HBD : Hid (Below w.heap.size w wD) := (HBC.out _).trans (hD'.mono (HBC.out _).size)
                    have HKD : Hid (wD.heap[wC.heap.size]? = some (.cells #[.string s, .int .i16 bk, .int .i16 p] 39 (0, 0))) := (hD'.block _ (by simp)).trans (heap_alloc_new _ _)
                    clear hD'
                    obtain ⟨c0, c1, c2⟩ := key_cells HKD.out
                    go_wp2_with fail
                    refine (number_none HND.out (by omega) HDO.out HF.out).mono ?_
                    rintro e wE ⟨rfl, hNE, hTE⟩
                    have HNE := hide hNE
                    have HSE' : Hid (SeenAt wd.heap.size (i + 1) (upd f (idS s bk) bk (idP bk p) c) (c + 1) wE) := HSD.out.of_block (hTE.block _ HSD.out.lt (by rintro (e | ⟨e, _⟩) <;> omega))
                    have HBE' : Hid (Below w.heap.size w wE) := hTE.below HBD.out (by have := HZ.out; rintro k (e | ⟨e, _⟩) <;> omega)
                    have HKE : Hid (wE.heap[wC.heap.size]? = some (.cells #[.string s, .int .i16 bk, .int .i16 p] 39 (0, 0))) := (hTE.block _ (Array.getElem?_eq_some_iff.1 HKD.out).1 (by have := HZC.out; rintro (e | ⟨_, e⟩); omega; exact e ⟨_, _, HKD.out⟩)).trans HKD.out
                    clear hNE hTE c0 c1 c2
                    obtain ⟨c0, c1, c2⟩ := key_cells HKE.out
                    go_wp2_with fail
                    refine (find_some HNE.out (by omega) HDO.out (upd_same _ _ _ _ _)).mono ?_
                    rintro e wF ⟨rfl, hF⟩
                    have HNF := hide (HNE.out.below hF)
                    have HSF := hide (HSE'.out.of_block (hF.block _ HSE'.out.lt))
                    have HBF := hide (HBE'.out.trans (hF.mono HBE'.out.size))
                    clear hF c0 c1 c2
                    go_wp2
                    go_roundw
                    case rel => exact ⟨i + 1, c + 1, by omega, by go_num, by go_num, _, HNF.out, HSF.out, HBF.out, by omega⟩
                    case measure => simp [intOf]; omega
                  · have HF := hide hf
                    clear hf
                    go_wp2_with fail
                    refine (ident_any s bk p _).mono ?_
                    rintro e wA ⟨rfl, hA⟩
                    have HBA : Hid (∀ o, Below wr.heap.size wr (wA.alloc o)) := fun o => hA.alloc hA.size o
                    clear hA
                    have HBB : Hid (∀ o, Below w.heap.size w (wA.alloc o)) := fun o => HBr.out.trans ((HBA.out o).mono HBr.out.size)
                    have HSA : Hid (∀ o, SeenAt wd.heap.size i f c (wA.alloc o)) := fun o => HS.out.of_block ((HBA.out o).block _ HS.out.lt)
                    clear c0 c1 c2 hix
                    obtain ⟨kb', o', hix, hkb', c0, c1, c2, _⟩ := HK.out.at (HBB.out (.cells #[.string (idS s bk), .int .i16 (idB bk), .int .i16 (idP bk p)] 35)) hlt
                    rw [HSE.out] at c0
                    rw [HBE.out] at c1
                    rw [HPE.out] at c2
                    go_wp2_with (at_lookup; refine wpList_seen _ rfl _ _ rfl wd.heap.size i f c rfl (HSA.out _) (idS s bk) (idB bk) (idP bk p) HID.out rfl v true (Or.inr ⟨v, HF.out, rfl, rfl⟩) ?_)
                    refine (toKey_any s bk p _).mono ?_
                    rintro e wC ⟨rfl, hC⟩
                    have HTC : Hid (∀ o, Below wr.heap.size wr (wC.alloc o)) := fun o => ((HBA.out _).trans (hC.mono (HBA.out _).size)).alloc ((HBA.out _).trans (hC.mono (HBA.out _).size)).size o
                    clear hC hix c0 c1 c2
                    have HNC : Hid (∀ o, NumAt (wd.heap.size + 2) (wd.heap.size + 1) f c (wC.alloc o)) := fun o => HN.out.below (HTC.out o)
                    go_wp2_with fail
                    refine (find_some (HNC.out _) (by omega) HDO.out HF.out).mono ?_
                    rintro e wD ⟨rfl, hD'⟩
                    have HND : Hid (NumAt (wd.heap.size + 2) (wd.heap.size + 1) f c wD) := (HNC.out _).below hD'
                    have HBD : Hid (Below wr.heap.size wr wD) := (HTC.out _).trans (hD'.mono (HTC.out _).size)
                    have HKD : Hid (wD.heap[wC.heap.size]? = some (.cells #[.string s, .int .i16 bk, .int .i16 p] 39 (0, 0))) := (hD'.block _ (by simp)).trans (heap_alloc_new _ _)
                    clear hD'
                    obtain ⟨c0, c1, c2⟩ := key_cells HKD.out
                    go_wp2_with fail
                    refine (number_some HND.out (by omega) HDO.out HF.out).mono ?_
                    rintro e wE ⟨rfl, hE⟩
                    have HNE := hide (HND.out.below hE)
                    have HBE' : Hid (Below wr.heap.size wr wE) := HBD.out.trans (hE.mono HBD.out.size)
                    have HKE : Hid (wE.heap[wC.heap.size]? = some (.cells #[.string s, .int .i16 bk, .int .i16 p] 39 (0, 0))) := (hE.block _ (Array.getElem?_eq_some_iff.1 HKD.out).1).trans HKD.out
                    clear hE c0 c1 c2
                    obtain ⟨c0, c1, c2⟩ := key_cells HKE.out
                    go_wp2_with fail
                    refine (find_some HNE.out (by omega) HDO.out HF.out).mono ?_
                    rintro e wF ⟨rfl, hF⟩
                    have HNF := hide (HNE.out.below hF)
                    have HBF := hide (HBE'.out.trans (hF.mono HBE'.out.size))
                    have HSF := hide ((HS.out.of_block (HBF.out.block _ HS.out.lt)).mono (Nat.le_succ _))
                    clear hF c0 c1 c2
                    go_wp2
                    go_roundw
                    case rel => exact ⟨i + 1, c, by omega, by go_num, rfl, _, HNF.out, HSF.out, HBr.out.trans (HBF.out.mono HBr.out.size), by omega⟩
                    case measure => simp [intOf]; omega
                · have hie : len ≤ i := by omega
                  clear hlt
                  go_wp2
                  go_ret
                  exact ⟨rfl, HBr.out⟩
    · go_wp2
      go_ret
      exact ⟨rfl, HB1.out⟩
end Go.Proofs.Qxb6628761a
