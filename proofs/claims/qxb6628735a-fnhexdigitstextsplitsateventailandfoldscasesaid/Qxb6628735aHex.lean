import Derived.Test.Qxb6628735aBuilder
import Derived.Laws.IdiomStrings
namespace Go.Proofs.Qxb6628735a
open Go.ChangeShapes Go.WideShapes Go.ChangeAt Go.RowKit

/-- the block that the conversion of a string to bytes lays; its capacity -/
def convCap (w : World) (X : ByteArray) : Nat := grownCap w X.size 0 5
def convObj (w : World) (X : ByteArray) : Obj := .cells (bytesRow X (convCap w X)) 5 ((bytesRow X (convCap w X)).size, (bytesRow X (convCap w X)).size + 1)

theorem run_conv (X : ByteArray) (wx : World) : (convert 9 28 (.string X)).run Try.prog wx = .ok (.slice (some ⟨wx.heap.size, 0, none⟩) X.size (convCap wx X)) (wx.alloc (convObj wx X)).drew :=
  run_bytes_of_string wx 9 28 5 X Try.underlying9 Try.underlying28 Try.underlying5

theorem conv_cell (X : ByteArray) (wx : World) (j : Nat) (h : j < X.size) : (wx.alloc (convObj wx X)).cell? ⟨wx.heap.size, j, none⟩ = some (.int .u8 (at8 X j)) := by
  unfold convObj
  rw [World.cell?_alloc_mark, bytesRow_at X _ j h, ← at8_eq X j h]
  rfl

/-- a byte with the bit 0x20 set -/
def lowc (c : Int) : Int := bits .or .u8 c 32

def lowU (c : UInt8) : UInt8 := c ||| 32

theorem lowc_eq (c : UInt8) : lowc (c.toNat : Int) = ((lowU c).toNat : Int) := by
  unfold lowc lowU
  rw [show (32 : Int) = ((32 : Nat) : Int) from rfl, u8_or_nat _ _ c.toNat_lt (by decide)]
  simp

/-- the bytes of s, each with the bit set, behind 'pre' -/
def lowL (pre : List UInt8) (s : ByteArray) (p : Nat) : List UInt8 := pre ++ (s.data.toList.take p).map lowU

/-- the cells that one chunk brings -/
def news (s : ByteArray) (p m : Nat) : List Value := (List.range m).map fun j => .int .u8 (lowc (at8 s (p + j)))

theorem news_len (s : ByteArray) (p m : Nat) : (news s p m).length = m := by simp [news]
theorem news_at (s : ByteArray) (p m j : Nat) (h : j < m) : (news s p m)[j]? = some (.int .u8 (lowc (at8 s (p + j)))) := by simp [news, h]
theorem news_one (s : ByteArray) (p m : Nat) : ∀ u ∈ news s p m, u.oneCell' = true := by
  intro u hu
  simp only [news, List.mem_map] at hu
  obtain ⟨j, _, rfl⟩ := hu
  rfl

theorem low_step (pre : List UInt8) (s : ByteArray) (p m : Nat) (h : p + m ≤ s.size) : Lib.byteCells (lowL pre s p) ++ news s p m = Lib.byteCells (lowL pre s (p + m)) := by
  have hn : news s p m = Lib.byteCells (((s.data.toList.drop p).take m).map lowU) := by
    apply List.ext_getElem?
    intro j
    by_cases hj : j < m
    · rw [news_at s p m j hj]
      have hlt : p + j < s.data.toList.length := by rw [data_len]; omega
      have e1 : ((s.data.toList.drop p).take m)[j]? = some (s.data.toList[p + j]) := by
        rw [List.getElem?_take, if_pos hj, List.getElem?_drop, List.getElem?_eq_getElem hlt]
      unfold Lib.byteCells
      rw [List.getElem?_map, List.getElem?_map, e1]
      simp only [Option.map_some]
      rw [← lowc_eq]
      unfold at8
      rw [List.getElem?_eq_getElem hlt]
      rfl
    · rw [List.getElem?_eq_none (by rw [news_len]; omega), List.getElem?_eq_none (by simp [Lib.byteCells]; omega)]
  rw [hn, ← Lib.byteCells_append]
  unfold lowL
  rw [List.take_add, List.map_append, List.append_assoc]

def sizeOfS (v : Value) : Nat := match v with | .string b => b.size | _ => 0

theorem at8_extract (s : ByteArray) (a b i : Nat) (h : a + i < b) (hb : b ≤ s.size) : at8 (s.extract a b) i = at8 s (a + i) := by
  have h1 : i < (s.extract a b).size := by simp only [ByteArray.size_extract]; omega
  rw [← at8_eq _ _ h1, ← at8_eq _ _ (by omega)]
  rw [ByteArray.getElem_extract]

theorem chunk_row (w : World) : (w.alloc (.cells (Array.replicate 64 (.int .u8 0)) 36)).rowIs w.heap.size 36 64 (fun _ => .int .u8 0) := by
  have h := World.rowIs_alloc w (Array.replicate 64 (.int .u8 0)) 36 (fun _ => .int .u8 0) (fun i hi => by
    rw [Array.getElem?_eq_getElem hi]; simp)
  simpa using h

theorem Try.len36 : Try.prog.arrayLen 36 = 64 := by kernel_rfl
theorem Try.elem36 : Try.prog.elem 36 = 5 := by kernel_rfl

theorem run_chunk (c j : Nat) (hj : j ≤ 64) (wx : World) : (Instr.sliceAt 36 (.pointer (some ⟨c, 0, none⟩)) none (some (.int .i64 (j : Int))) none).run Try.prog wx = .ok (.slice (some ⟨c, 0, none⟩) j 64) wx := by
  have e := run_sliceAt_array_h (P := Try.prog) wx 36 ⟨c, 0, none⟩ (by rw [Try.len36, Try.elem36]; exact Try.underlying36) .i64 (j : Int) (by omega) (by rw [Try.len36]; omega)
  rw [e, Try.elem36, Try.len36]
  simp [slicedAt, Addr.add, go_sem]

set_option maxHeartbeats 4000000 in
theorem slow_even (s : ByteArray) (w : World) (hs : s.size ≤ 1048576) (h2 : s.size % 2 = 0) (hup : ¬ NoUp s) :
    Calls Try.prog 12 #[.string s] w fun e w' => e = .returned (.string ⟨(lowL [] s s.size).toArray⟩) ∧ Below w.heap.size w w' := by
  have hmx : s.size ≤ maxLen := by unfold maxLen; omega
  have q0 : (((s.size : Int) % 2) == 0) = true := by simp; omega
  have q1 : (((s.size : Int) % 2) != 0) = false := by simp; omega
  have hgrow : ∀ wx : World, ∀ b, wx.heap[b]? = some (.cells #[.pointer none, .slice none 0 0] 31 (0, 0)) → w.heap.size ≤ b → w.heap.size ≤ wx.heap.size →
      Calls Try.prog 15 #[.pointer (some ⟨b, 0, none⟩), .int .i64 ((s.size : Int) + 1)] wx fun e w' => e = .returned (.tuple #[]) ∧ Used w.heap.size b [] w' ∧ Below w.heap.size wx w' := fun wx b h1 h2 h3 => by
    have := Try.Builder_Grow_fresh w.heap.size b (s.size + 1) wx h2 h1 h3 (by omega)
    rw [Int.natCast_add] at this
    exact this
  have HG := hide hgrow
  clear hgrow
  have H2 := hide h2
  clear h2
  go_enter Try.func12, Try.ntmps12
  go_wp2_with fail
  refine (hasUpper_any _ _ hmx).mono ?_
  rintro e w1 ⟨b, rfl, hb1, hb2, rfl⟩
  have hbt : b = true := by
    cases b with
    | true => rfl
    | false => exact absurd (hb1 rfl) hup
  subst hbt
  clear hb1 hb2 hup
  go_wp2_with fail
  refine (HG.out _ w1.heap.size (heap_alloc_new _ _) (Nat.le_refl _) (by simp)).mono ?_
  rintro e w2 ⟨rfl, hu, hb⟩
  obtain ⟨pre, hpre⟩ : ∃ pre : List UInt8, pre = [] := ⟨_, rfl⟩
  have HF : Hid ((⟨(lowL pre s s.size).toArray⟩ : ByteArray) = ⟨(lowL [] s s.size).toArray⟩) := by rw [hpre]; rfl
  have HPRE := hide (show pre.length ≤ 1 by rw [hpre]; simp)
  have HU : Hid (Used w1.heap.size w1.heap.size (Lib.byteCells (lowL pre s 0)) w2) := by
    rw [hpre]; exact hu
  have HB : Hid (Below w1.heap.size w1 w2) := ((Below.refl _ _).alloc (Nat.le_refl _) _).trans hb
  clear hu hb hpre
  go_wp2_with fail
  have HW : Hid (w1.heap.size ≤ w2.heap.size) := HB.out.size
  go_loopw [0] (fun d wr => ∃ p : Nat, p ≤ s.size ∧ d = .string (s.extract p s.size) ∧ Hid (Used w1.heap.size w1.heap.size (Lib.byteCells (lowL pre s p)) wr) ∧ Hid (∃ f, wr.rowIs w2.heap.size 36 64 f) ∧ Hid (Below w1.heap.size w1 wr)) (fun d _ => sizeOfS d)
  case atStart => exact ⟨0, Nat.zero_le _, by rw [ByteArray.extract_zero_size], HU.out.alloc _, ⟨_, chunk_row w2⟩, HB.out.alloc HW.out _⟩
  case round =>
    rename World => wo
    obtain ⟨p, hp, rfl, hu, hc, hb⟩ := hrel
    clear HU HB HG
    have hsz : (s.extract p s.size).size = s.size - p := by simp only [ByteArray.size_extract]; omega
    have hat : ∀ j, p + j < s.size → at8 (s.extract p s.size) j = at8 s (p + j) := fun j hj => at8_extract s p s.size j hj (Nat.le_refl _)
    have hex : ∀ m, p + m ≤ s.size → (s.extract p s.size).extract m (s.size - p) = s.extract (p + m) s.size := fun m hm => by
      rw [ByteArray.extract_extract, show min (p + (s.size - p)) s.size = s.size by omega]
    generalize s.extract p s.size = T at *
    have hT1 : T.size ≤ s.size - p := by omega
    have hT2 : s.size - p ≤ T.size := by omega
    have HSZ := hide hsz
    have HAT := hide hat
    have HEX := hide hex
    clear hsz hat hex
    by_cases h0 : 0 < T.size
    · obtain ⟨m, hm⟩ : ∃ m : Nat, min (T.size : Int) 64 = (m : Int) := ⟨min T.size 64, by omega⟩
      have hm1 : m ≤ 64 := by omega
      have hm2 : m ≤ T.size := by omega
      have hm3 : 0 < m := by omega
      have hpm : p + m ≤ s.size := by omega
      have hXs : (T.extract 0 m).size = m := by simp only [ByteArray.size_extract]; omega
      have hcv : ∀ wx : World, (convert 9 28 (.string (T.extract 0 m))).run Try.prog wx = .ok (.slice (some ⟨wx.heap.size, 0, none⟩) m (convCap wx (T.extract 0 m))) (wx.alloc (convObj wx (T.extract 0 m))).drew := fun wx => by
        rw [run_conv, hXs]
      have HX : Hid (∀ wx : World, ∀ j, j < m → (wx.alloc (convObj wx (T.extract 0 m))).cell? ⟨wx.heap.size, j, none⟩ = some (.int .u8 (at8 s (p + j)))) := fun wx j hj => by
        rw [conv_cell _ wx j (by omega), at8_extract T 0 m j (by omega) hm2, Nat.zero_add, HAT.out j (by omega)]
      clear hXs
      obtain ⟨f, hf⟩ := hc.out
      have HFROW := hide hf
      have hlt1 : Hid (w2.heap.size < wo.heap.size) := hf.lt
      have hbz : Hid (w1.heap.size ≤ wo.heap.size) := hb.out.size
      clear hf hc
      go_wp2_with fail
      go_loopw [38] (fun v wi => ∃ j : Nat, j ≤ m ∧ v = .int .i64 j ∧ Hid (Used w1.heap.size w1.heap.size (Lib.byteCells (lowL pre s p)) wi) ∧ Hid (wi.rowIs w2.heap.size 36 64 (fun q => if q < j then .int .u8 (lowc (at8 s (p + q))) else f q)) ∧ Hid (Below w1.heap.size w1 wi) ∧ Hid (∀ q, q < m → wi.cell? ⟨wo.heap.size, q, none⟩ = some (.int .u8 (at8 s (p + q))))) (fun v _ => m - (intOf v).toNat)
      case atStart => exact ⟨0, Nat.zero_le _, rfl, (hu.out.alloc _).drew, ((HFROW.out.alloc _).drew).congr (fun q _ => by simp), (hb.out.alloc hbz.out _).drew, fun q hq => HX.out wo q hq⟩
      case round =>
        obtain ⟨j, hj, rfl, hui, hci, hbi, hxi⟩ := hrel
        clear hu HFROW hb
        by_cases hjm : j < m
        · have hcx := hxi.out j hjm
          have hfz : wr.frozen? ⟨w2.heap.size, j, none⟩ = false := hci.out.frozen _
          have hcc : wr.cell? ⟨w2.heap.size, j, none⟩ = some (f j) := by rw [hci.out.cell (by omega)]; simp
          have hne1 : wo.heap.size ≠ w2.heap.size := by have := hlt1.out; omega
          have HS : Hid (∀ v : Value, v = .int .u8 (lowc (at8 s (p + j))) → Used w1.heap.size w1.heap.size (Lib.byteCells (lowL pre s p)) (wr.setCell ⟨w2.heap.size, j, none⟩ v) ∧
              (wr.setCell ⟨w2.heap.size, j, none⟩ v).rowIs w2.heap.size 36 64 (fun q => if q < j + 1 then .int .u8 (lowc (at8 s (p + q))) else f q) ∧ Below w1.heap.size w1 (wr.setCell ⟨w2.heap.size, j, none⟩ v) ∧
              (∀ q, q < m → (wr.setCell ⟨w2.heap.size, j, none⟩ v).cell? ⟨wo.heap.size, q, none⟩ = some (.int .u8 (at8 s (p + q))))) := fun v hv => by
            refine ⟨hui.out.setCell hci.out j v, (hci.out.set _ _).congr (fun q _ => ?_), hbi.out.setCell HW.out _, fun q hq => ?_⟩
            · by_cases h : q = j
              · subst h; simp [hv]
              · by_cases h' : q < j
                · simp [h, h', show q < j + 1 by omega]
                · simp [h, h', show ¬ q < j + 1 by omega]
            · rw [World.cell?_of_block (w := wr) (Below.heap_setCell wr _ _ _ hne1)]
              exact hxi.out q hq
          clear hne1 hui hci hbi hxi
          go_wp2
          go_roundw
          case rel =>
            obtain ⟨s1, s2, s3, s4⟩ := HS.out _ rfl
            exact ⟨j + 1, by omega, by go_num, s1, s2, s3, s4⟩
          case measure => simp [intOf]; omega
        · have hjm2 : j = m := by omega
          subst hjm2
          have HWR : Hid (∀ wx, Used w1.heap.size w1.heap.size (Lib.byteCells (lowL pre s p)) wx → Below w1.heap.size w1 wx → (wx.rowIs w2.heap.size 36 64 (fun q => if q < j then .int .u8 (lowc (at8 s (p + q))) else f q)) →
              Calls Try.prog 17 #[.pointer (some ⟨w1.heap.size, 0, none⟩), .slice (some ⟨w2.heap.size, 0, none⟩) j 64] wx fun e w' => e = .returned (.tuple #[.int .i64 j, .nilIface]) ∧ Used w1.heap.size w1.heap.size (Lib.byteCells (lowL pre s (p + j))) w' ∧ Below w1.heap.size wx w' ∧ w'.rowIs w2.heap.size 36 64 (fun q => if q < j then .int .u8 (lowc (at8 s (p + q))) else f q)) := fun wx k1 k2 k3 => by
            refine (write_used w1.heap.size w1.heap.size _ w2.heap.size j _ (news s p j) wx k1 k3 (news_len s p j) hm1 (fun q hq => by rw [news_at s p j q hq, if_pos hq]) (news_one s p j) ?_ k2.size).mono ?_
            · have := HPRE.out
              simp [Lib.byteCells, lowL]; omega
            · rintro e w' ⟨rfl, r1, r2, r3⟩
              rw [low_step pre s p j hpm] at r1
              exact ⟨rfl, r1, r2, r3⟩
          have hsl := run_chunk w2.heap.size j hm1
          go_wp2_with fail
          refine (HWR.out _ hui.out hbi.out hci.out).mono ?_
          rintro e w5 ⟨rfl, g1, g2, g3⟩
          have G1 := hide g1
          have G2 := hide (hbi.out.trans g2)
          have G3 := hide g3
          clear g1 g2 g3 HWR hui hbi hci hxi
          go_wp2
          go_roundw
          case rel => exact ⟨p + j, hpm, by rw [← HEX.out j hpm, HSZ.out], G1.out, ⟨_, G3.out⟩, G2.out⟩
          case measure => simp [sizeOfS]; omega
    · have hps : p = s.size := by omega
      subst hps
      have HSTR : Hid (∀ wx, Used w1.heap.size w1.heap.size (Lib.byteCells (lowL pre s s.size)) wx → Below w1.heap.size w1 wx → Calls Try.prog 18 #[.pointer (some ⟨w1.heap.size, 0, none⟩)] wx fun e w' => e = .returned (.string ⟨(lowL pre s s.size).toArray⟩) ∧ Below w1.heap.size wx w') := fun wx k1 k2 => by
        exact Try.Builder_String_any w1.heap.size w1.heap.size (lowL pre s s.size) wx (Or.inr k1) k2.size
      go_wp2_with fail
      refine (HSTR.out _ hu.out hb.out).mono ?_
      rintro e w5 ⟨rfl, g1⟩
      have G1 := hide (hb.out.trans g1)
      clear g1
      go_wp2
      go_ret
      exact ⟨ret_str HF.out, G1.out⟩
set_option maxHeartbeats 4000000 in
theorem slow_odd (s : ByteArray) (w1 : World) (hs : s.size ≤ 1048576) (h2 : s.size % 2 = 1) :
    Calls Try.prog 12 #[.string s] w1 fun e w' => e = .returned (.string ⟨(lowL [48] s s.size).toArray⟩) ∧ Below w1.heap.size w1 w' := by
  have hmx : s.size ≤ maxLen := by unfold maxLen; omega
  have q0 : (((s.size : Int) % 2) == 0) = false := by simp; omega
  have q1 : (((s.size : Int) % 2) != 0) = true := by simp; omega
  have hgrow : ∀ wx : World, ∀ b, wx.heap[b]? = some (.cells #[.pointer none, .slice none 0 0] 31 (0, 0)) → w1.heap.size ≤ b → w1.heap.size ≤ wx.heap.size →
      Calls Try.prog 15 #[.pointer (some ⟨b, 0, none⟩), .int .i64 ((s.size : Int) + 1)] wx fun e w' => e = .returned (.tuple #[]) ∧ Used w1.heap.size b [] w' ∧ Below w1.heap.size wx w' := fun wx b h1 h2 h3 => by
    have := Try.Builder_Grow_fresh w1.heap.size b (s.size + 1) wx h2 h1 h3 (by omega)
    rw [Int.natCast_add] at this
    exact this
  have HG := hide hgrow
  clear hgrow
  have H2 := hide h2
  clear h2
  go_enter Try.func12, Try.ntmps12
  go_wp2_with fail
  refine (HG.out _ w1.heap.size (heap_alloc_new _ _) (Nat.le_refl _) (by simp)).mono ?_
  rintro e w0 ⟨rfl, hu0, hb0⟩
  have HU0 := hide hu0
  have HB0 : Hid (Below w1.heap.size w1 w0) := ((Below.refl _ _).alloc (Nat.le_refl _) _).trans hb0
  clear hu0 hb0
  go_wp2_with fail
  refine (writeByte_used w1.heap.size w1.heap.size [] 48 w0 HU0.out (by simp) HB0.out.size).mono ?_
  rintro e w2 ⟨rfl, hu, hb⟩
  obtain ⟨pre, hpre⟩ : ∃ pre : List UInt8, pre = [48] := ⟨_, rfl⟩
  have HF : Hid ((⟨(lowL pre s s.size).toArray⟩ : ByteArray) = ⟨(lowL [48] s s.size).toArray⟩) := by rw [hpre]; rfl
  have HPRE := hide (show pre.length ≤ 1 by rw [hpre]; simp)
  have HU : Hid (Used w1.heap.size w1.heap.size (Lib.byteCells (lowL pre s 0)) w2) := by
    rw [hpre]; exact hu
  have HB : Hid (Below w1.heap.size w1 w2) := HB0.out.trans hb
  clear hu hb hpre HU0 HB0
  go_wp2_with fail
  have HW : Hid (w1.heap.size ≤ w2.heap.size) := HB.out.size
  go_loopw [0] (fun d wr => ∃ p : Nat, p ≤ s.size ∧ d = .string (s.extract p s.size) ∧ Hid (Used w1.heap.size w1.heap.size (Lib.byteCells (lowL pre s p)) wr) ∧ Hid (∃ f, wr.rowIs w2.heap.size 36 64 f) ∧ Hid (Below w1.heap.size w1 wr)) (fun d _ => sizeOfS d)
  case atStart => exact ⟨0, Nat.zero_le _, by rw [ByteArray.extract_zero_size], HU.out.alloc _, ⟨_, chunk_row w2⟩, HB.out.alloc HW.out _⟩
  case round =>
    rename World => wo
    obtain ⟨p, hp, rfl, hu, hc, hb⟩ := hrel
    clear HU HB HG
    have hsz : (s.extract p s.size).size = s.size - p := by simp only [ByteArray.size_extract]; omega
    have hat : ∀ j, p + j < s.size → at8 (s.extract p s.size) j = at8 s (p + j) := fun j hj => at8_extract s p s.size j hj (Nat.le_refl _)
    have hex : ∀ m, p + m ≤ s.size → (s.extract p s.size).extract m (s.size - p) = s.extract (p + m) s.size := fun m hm => by
      rw [ByteArray.extract_extract, show min (p + (s.size - p)) s.size = s.size by omega]
    generalize s.extract p s.size = T at *
    have hT1 : T.size ≤ s.size - p := by omega
    have hT2 : s.size - p ≤ T.size := by omega
    have HSZ := hide hsz
    have HAT := hide hat
    have HEX := hide hex
    clear hsz hat hex
    by_cases h0 : 0 < T.size
    · obtain ⟨m, hm⟩ : ∃ m : Nat, min (T.size : Int) 64 = (m : Int) := ⟨min T.size 64, by omega⟩
      have hm1 : m ≤ 64 := by omega
      have hm2 : m ≤ T.size := by omega
      have hm3 : 0 < m := by omega
      have hpm : p + m ≤ s.size := by omega
      have hXs : (T.extract 0 m).size = m := by simp only [ByteArray.size_extract]; omega
      have hcv : ∀ wx : World, (convert 9 28 (.string (T.extract 0 m))).run Try.prog wx = .ok (.slice (some ⟨wx.heap.size, 0, none⟩) m (convCap wx (T.extract 0 m))) (wx.alloc (convObj wx (T.extract 0 m))).drew := fun wx => by
        rw [run_conv, hXs]
      have HX : Hid (∀ wx : World, ∀ j, j < m → (wx.alloc (convObj wx (T.extract 0 m))).cell? ⟨wx.heap.size, j, none⟩ = some (.int .u8 (at8 s (p + j)))) := fun wx j hj => by
        rw [conv_cell _ wx j (by omega), at8_extract T 0 m j (by omega) hm2, Nat.zero_add, HAT.out j (by omega)]
      clear hXs
      obtain ⟨f, hf⟩ := hc.out
      have HFROW := hide hf
      have hlt1 : Hid (w2.heap.size < wo.heap.size) := hf.lt
      have hbz : Hid (w1.heap.size ≤ wo.heap.size) := hb.out.size
      clear hf hc
      go_wp2_with fail
      go_loopw [38] (fun v wi => ∃ j : Nat, j ≤ m ∧ v = .int .i64 j ∧ Hid (Used w1.heap.size w1.heap.size (Lib.byteCells (lowL pre s p)) wi) ∧ Hid (wi.rowIs w2.heap.size 36 64 (fun q => if q < j then .int .u8 (lowc (at8 s (p + q))) else f q)) ∧ Hid (Below w1.heap.size w1 wi) ∧ Hid (∀ q, q < m → wi.cell? ⟨wo.heap.size, q, none⟩ = some (.int .u8 (at8 s (p + q))))) (fun v _ => m - (intOf v).toNat)
      case atStart => exact ⟨0, Nat.zero_le _, rfl, (hu.out.alloc _).drew, ((HFROW.out.alloc _).drew).congr (fun q _ => by simp), (hb.out.alloc hbz.out _).drew, fun q hq => HX.out wo q hq⟩
      case round =>
        obtain ⟨j, hj, rfl, hui, hci, hbi, hxi⟩ := hrel
        clear hu HFROW hb
        by_cases hjm : j < m
        · have hcx := hxi.out j hjm
          have hfz : wr.frozen? ⟨w2.heap.size, j, none⟩ = false := hci.out.frozen _
          have hcc : wr.cell? ⟨w2.heap.size, j, none⟩ = some (f j) := by rw [hci.out.cell (by omega)]; simp
          have hne1 : wo.heap.size ≠ w2.heap.size := by have := hlt1.out; omega
          have HS : Hid (∀ v : Value, v = .int .u8 (lowc (at8 s (p + j))) → Used w1.heap.size w1.heap.size (Lib.byteCells (lowL pre s p)) (wr.setCell ⟨w2.heap.size, j, none⟩ v) ∧
              (wr.setCell ⟨w2.heap.size, j, none⟩ v).rowIs w2.heap.size 36 64 (fun q => if q < j + 1 then .int .u8 (lowc (at8 s (p + q))) else f q) ∧ Below w1.heap.size w1 (wr.setCell ⟨w2.heap.size, j, none⟩ v) ∧
              (∀ q, q < m → (wr.setCell ⟨w2.heap.size, j, none⟩ v).cell? ⟨wo.heap.size, q, none⟩ = some (.int .u8 (at8 s (p + q))))) := fun v hv => by
            refine ⟨hui.out.setCell hci.out j v, (hci.out.set _ _).congr (fun q _ => ?_), hbi.out.setCell HW.out _, fun q hq => ?_⟩
            · by_cases h : q = j
              · subst h; simp [hv]
              · by_cases h' : q < j
                · simp [h, h', show q < j + 1 by omega]
                · simp [h, h', show ¬ q < j + 1 by omega]
            · rw [World.cell?_of_block (w := wr) (Below.heap_setCell wr _ _ _ hne1)]
              exact hxi.out q hq
          clear hne1 hui hci hbi hxi
          go_wp2
          go_roundw
          case rel =>
            obtain ⟨s1, s2, s3, s4⟩ := HS.out _ rfl
            exact ⟨j + 1, by omega, by go_num, s1, s2, s3, s4⟩
          case measure => simp [intOf]; omega
        · have hjm2 : j = m := by omega
          subst hjm2
          have HWR : Hid (∀ wx, Used w1.heap.size w1.heap.size (Lib.byteCells (lowL pre s p)) wx → Below w1.heap.size w1 wx → (wx.rowIs w2.heap.size 36 64 (fun q => if q < j then .int .u8 (lowc (at8 s (p + q))) else f q)) →
              Calls Try.prog 17 #[.pointer (some ⟨w1.heap.size, 0, none⟩), .slice (some ⟨w2.heap.size, 0, none⟩) j 64] wx fun e w' => e = .returned (.tuple #[.int .i64 j, .nilIface]) ∧ Used w1.heap.size w1.heap.size (Lib.byteCells (lowL pre s (p + j))) w' ∧ Below w1.heap.size wx w' ∧ w'.rowIs w2.heap.size 36 64 (fun q => if q < j then .int .u8 (lowc (at8 s (p + q))) else f q)) := fun wx k1 k2 k3 => by
            refine (write_used w1.heap.size w1.heap.size _ w2.heap.size j _ (news s p j) wx k1 k3 (news_len s p j) hm1 (fun q hq => by rw [news_at s p j q hq, if_pos hq]) (news_one s p j) ?_ k2.size).mono ?_
            · have := HPRE.out
              simp [Lib.byteCells, lowL]; omega
            · rintro e w' ⟨rfl, r1, r2, r3⟩
              rw [low_step pre s p j hpm] at r1
              exact ⟨rfl, r1, r2, r3⟩
          have hsl := run_chunk w2.heap.size j hm1
          go_wp2_with fail
          refine (HWR.out _ hui.out hbi.out hci.out).mono ?_
          rintro e w5 ⟨rfl, g1, g2, g3⟩
          have G1 := hide g1
          have G2 := hide (hbi.out.trans g2)
          have G3 := hide g3
          clear g1 g2 g3 HWR hui hbi hci hxi
          go_wp2
          go_roundw
          case rel => exact ⟨p + j, hpm, by rw [← HEX.out j hpm, HSZ.out], G1.out, ⟨_, G3.out⟩, G2.out⟩
          case measure => simp [sizeOfS]; omega
    · have hps : p = s.size := by omega
      subst hps
      have HSTR : Hid (∀ wx, Used w1.heap.size w1.heap.size (Lib.byteCells (lowL pre s s.size)) wx → Below w1.heap.size w1 wx → Calls Try.prog 18 #[.pointer (some ⟨w1.heap.size, 0, none⟩)] wx fun e w' => e = .returned (.string ⟨(lowL pre s s.size).toArray⟩) ∧ Below w1.heap.size wx w') := fun wx k1 k2 => by
        exact Try.Builder_String_any w1.heap.size w1.heap.size (lowL pre s s.size) wx (Or.inr k1) k2.size
      go_wp2_with fail
      refine (HSTR.out _ hu.out hb.out).mono ?_
      rintro e w5 ⟨rfl, g1⟩
      have G1 := hide (hb.out.trans g1)
      clear g1
      go_wp2
      go_ret
      exact ⟨ret_str HF.out, G1.out⟩

set_option maxHeartbeats 400000 in
theorem fast (s : ByteArray) (w : World) (hs : s.size ≤ 1048576) (h2 : s.size % 2 = 0) (hup : NoUp s) :
    Calls Try.prog 12 #[.string s] w fun e w' => e = .returned (.string s) ∧ Below w.heap.size w w' := by
  have hmx : s.size ≤ maxLen := by unfold maxLen; omega
  have q0 : (((s.size : Int) % 2) == 0) = true := by simp; omega
  have H2 := hide h2
  clear h2
  go_enter Try.func12, Try.ntmps12
  go_wp2_with fail
  refine (hasUpper_any _ _ hmx).mono ?_
  rintro e w1 ⟨b, rfl, hb1, hb2, rfl⟩
  have hbt : b = false := hb2 hup
  subst hbt
  clear hb1 hb2 hup
  go_wp2
  go_ret
  exact ⟨rfl, Below.refl _ _⟩

/-- the digits in lower case, behind a 0 where their number is odd -/
def low (s : ByteArray) : ByteArray := ⟨(lowL (if s.size % 2 = 1 then [48] else []) s s.size).toArray⟩

theorem all_bytes {P : UInt8 → Prop} (h : ∀ n : Fin 256, P (UInt8.ofNat n.val)) (c : UInt8) : P c := by
  have := h ⟨c.toNat, c.toNat_lt⟩
  simpa using this

theorem lowU_self (c : UInt8) : 0 ≤ hv (c.toNat : Int) → ¬ (65 ≤ (c.toNat : Int) ∧ (c.toNat : Int) ≤ 90) → lowU c = c := by
  refine all_bytes (P := fun c => 0 ≤ hv (c.toNat : Int) → ¬ (65 ≤ (c.toNat : Int) ∧ (c.toNat : Int) ≤ 90) → lowU c = c) ?_ c
  decide +kernel

/-- a string of lower-case digits is not turned -/
theorem low_self (s : ByteArray) (h2 : s.size % 2 = 0) (hx : Hexs s) (hup : NoUp s) : low s = s := by
  unfold low
  rw [if_neg (by omega)]
  have hl : lowL [] s s.size = s.data.toList := by
    unfold lowL
    rw [List.nil_append, List.take_of_length_le (by rw [data_len]; exact Nat.le_refl _)]
    apply List.ext_getElem?
    intro i
    rw [List.getElem?_map]
    by_cases hi : i < s.data.toList.length
    · rw [List.getElem?_eq_getElem hi]
      have his : i < s.size := by rw [← data_len]; exact hi
      have a := hx i his
      have b := hup i his
      unfold at8 at a b
      rw [List.getElem?_eq_getElem hi] at a b
      simp only [Option.getD_some] at a b
      simp only [Option.map_some]
      rw [lowU_self _ a b]
    · rw [List.getElem?_eq_none (by omega)]; rfl
  rw [hl]

theorem hex_any (s : ByteArray) (w : World) (hs : s.size ≤ 1048576) (hx : Hexs s) :
    Calls Try.prog 12 #[.string s] w fun e w' => e = .returned (.string (low s)) ∧ Below w.heap.size w w' := by
  by_cases h2 : s.size % 2 = 1
  · have e : low s = ⟨(lowL [48] s s.size).toArray⟩ := by unfold low; rw [if_pos h2]
    rw [e]; exact slow_odd s w hs h2
  · by_cases hup : NoUp s
    · rw [low_self s (by omega) hx hup]; exact fast s w hs (by omega) hup
    · have e : low s = ⟨(lowL [] s s.size).toArray⟩ := by unfold low; rw [if_neg h2]
      rw [e]; exact slow_even s w hs (by omega) hup

set_option maxHeartbeats 400000 in
theorem zzhex_any (s : ByteArray) (w : World) (hs : s.size ≤ 1048576) (hx : Hexs s) :
    Calls Try.prog 7 #[.string s] w fun e w' => e = .returned (.string (low s)) ∧ Below w.heap.size w w' := by
  go_enter Try.func7, Try.ntmps7
  go_wp2_with fail
  refine (hex_any s w hs hx).mono ?_
  rintro e w1 ⟨rfl, hb⟩
  go_wp2
  go_ret
  exact ⟨rfl, hb⟩
end Go.Proofs.Qxb6628735a
