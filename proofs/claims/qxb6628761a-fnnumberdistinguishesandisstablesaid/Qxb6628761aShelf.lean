/-
  Laid by the kit's tools lay-shelf and lay-plain for this program: the contract of internal stringslite.Clone, one application of a theorem of the kit.
-/
import Derived.Shelf.LaysM
import Derived.Shelf.Strconv.Clone
import Derived.Test.Qxb6628761aProg
namespace Go.Proofs
open Go.Shelf
def Try.laysM316_ren : Go.Shelf.Ren := ⟨fun | 316 => 14 | n => n, fun | 9 => 9 | 3 => 3 | 4 => 4 | 37 => 49 | 0 => 0 | 127 => 50 | 5 => 5 | n => n, fun | n => n⟩
theorem Try.laysM316 : Go.Proofs.LaysM.n316 Try.prog Try.laysM316_ren := {
  mixed := by kernel_rfl
  f316 := Try.func14.trans (congrArg some (by kernel_rfl))
  t0 := Try.underlying0
  a0 := Try.isAgg0
  z0 := Try.sizeOf0
  v0 := Try.zeroValue0
  t3 := Try.underlying3
  a3 := Try.isAgg3
  z3 := Try.sizeOf3
  v3 := Try.zeroValue3
  t4 := Try.underlying4
  a4 := Try.isAgg4
  z4 := Try.sizeOf4
  v4 := Try.zeroValue4
  t9 := Try.underlying9
  a9 := Try.isAgg9
  z9 := Try.sizeOf9
  v9 := Try.zeroValue9
  t37 := Try.underlying49
  a37 := Try.isAgg49
  z37 := Try.sizeOf49
  v37 := Try.zeroValue49
  t127 := Try.underlying50
  a127 := Try.isAgg50
  z127 := Try.sizeOf50
  v127 := Try.zeroValue50
  t5 := Try.underlying5
  a5 := Try.isAgg5
  z5 := Try.sizeOf5
  v5 := Try.zeroValue5
  i0 := by kernel_rfl
  i3 := by kernel_rfl
  i4 := by kernel_rfl
  i5 := by kernel_rfl
  i9 := by kernel_rfl
  i37 := by kernel_rfl
  i127 := by kernel_rfl }
open Go.RowKit in
theorem Try.stringslite_Clone (s : ByteArray) (w : World) (hlim : s.size ≤ 281474976710656) :
    Calls Try.prog 14 #[.string s] w fun e w' => e = .returned (.string s) ∧ Below w.heap.size w w' := Any.stringslite_Clone Try.laysM316 s w hlim
end Go.Proofs
