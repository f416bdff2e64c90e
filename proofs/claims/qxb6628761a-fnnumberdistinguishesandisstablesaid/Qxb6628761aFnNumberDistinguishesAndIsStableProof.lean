import Derived.Test.Qxb6628761aRows
import Derived.Test.Qxb6628761aLawB
import Derived.Test.Qxb6628761aOpen
import Derived.Lib.SmallJoins
import Derived.WalkKit
import Derived.ProofKit
import Derived.OpenShut
import Derived.ShutString
import Derived.ChangeOld
import Derived.Below
namespace Go.Proofs.Qxb6628761a.FnNumberDistinguishesAndIsStable
open Go.ChangeShapes Go.WideShapes Go.ChangeAt Go.RowKit Go.Joins
set_option linter.unusedVariables false

theorem own : ownKnob Try.prog.godebug = none := by kernel_rfl

theorem shut_key {H : Type} {enc : TypeId × Value → H} {w : World} {base : Nat} {spare : Nat → Bool} {held : Bool} {s : ByteArray} {b c : Int} (hs : s.size ≤ maxLen) (hb : (Lit.int .i16 b).wf = true) (hc : (Lit.int .i16 c).wf = true) :
    DataW.Trod enc Try.prog w base spare held 26 (.agg #[.string s, .int .i16 b, .int .i16 c]) (.agg [.lit (.string s.data.toList), .lit (.int .i16 b), .lit (.int .i16 c)]) [] :=
  shut_agg3 (y0 := (.lit (.string s.data.toList), [])) (y1 := (.lit (.int .i16 b), [])) (y2 := (.lit (.int .i16 c), [])) Try.underlying26 (by kernel_rfl) Try.cells26
    ⟨1, by simp [DataW.trod, Try.underlying9, hs]⟩ ⟨1, by simp [DataW.trod, Try.underlying24, hb]⟩ ⟨1, by simp [DataW.trod, Try.underlying24, hc]⟩

set_option maxRecDepth 100000 in
theorem lifted (os : Os) (started : os.Started) (H : Type) (enc : TypeId × Value → H) :
    ReturnsInHanded {} Try.checked os 4 .any (Rows.fnNumberDistinguishesAndIsStableSpec.pre6 enc Try.prog Try.f4 Rows.fnNumberDistinguishesAndIsStableRow.domain false) (Rows.fnNumberDistinguishesAndIsStableSpec.post enc Try.prog Try.f4 false true false false) := by
  refine returnsInHanded_of_change (C := Try.checked) own started (by kernel_rfl) Try.func4
    (ChangeSpec.witness6 (enc := enc) (C := Try.checked) false ⟨#[], #[.slice none 0 0, .agg #[.string ByteArray.empty, .int .i16 0, .int .i16 0]], []⟩ 8 (by kernel_rfl) (by kernel_rfl) (by kernel_rfl) (by kernel_rfl)) ?_
  intro W base args ds gs before hval0 hW hcnd _
  have hval : ∀ (j : Nat) t v, Try.f4.params[j]? = some t → args[j]? = some v → Value.okWide Try.prog W .any base t v := hval0
  have hW' := hW
  obtain ⟨p, q, hA0, hV, rfl, hfz, hnd⟩ := hW
  have hA : DataW.TrodAll enc Try.prog W 0 (fun _ => true) true Try.f4.params.toList args.toList ds p := hA0
  rw [Try.params4] at hA hval
  obtain ⟨v0, vs0, d0, ds0, p0, q0, hargs, rfl, rfl, h0, r0⟩ := trodAll_cons hA
  obtain ⟨v1, vs1, d1, ds1, p1, q1, rfl, rfl, rfl, h1, r1⟩ := trodAll_cons r0
  obtain ⟨rfl, rfl, rfl⟩ := trodAll_nil r1
  obtain rfl : args = #[v0, v1] := by cases args; simp_all
  obtain ⟨rfl, rfl⟩ := trodVars_none hV
  obtain ⟨a0, len0, cap0, rfl⟩ := okWide_slice Try.underlying22 (hval 0 22 v0 rfl rfl)
  have k0 := h0
  have lt0 : ∀ x ∈ p0, x.block < W.heap.size := by obtain ⟨m, hm⟩ := k0; exact DataW.trod_lt m _ _ _ hm
  obtain ⟨S, Bk, Pl, w0⟩ : ∃ S Bk Pl, KeysAt W a0 len0 cap0 S Bk Pl := by
    obtain ⟨fuel, hf⟩ := h0
    exact open_keys hf
  obtain ⟨u0, u1, u2, y0, y1, y2, n, rfl, rfl, rfl, t0, t1, t2⟩ := open_agg3 Try.underlying26 (by kernel_rfl) Try.cells26 (hval 1 26 v1 rfl rfl) h1
  obtain ⟨s, e0, rfl, hs⟩ := DataW.trod_string Try.underlying9 t0
  obtain ⟨b, e1, rfl, hb⟩ := DataW.trod_int Try.underlying24 t1
  obtain ⟨c, e2, rfl, hc⟩ := DataW.trod_int Try.underlying24 t2
  obtain rfl : u0 = .string s := by simpa using e0
  obtain rfl : u1 = .int .i16 b := by simpa using e1
  obtain rfl : u2 = .int .i16 c := by simpa using e2
  clear hA0 hval0
  refine (lawB_walk a0 len0 cap0 S Bk Pl s b c W w0 hs hb hc).mono fun e W' ⟨he, bel⟩ => ?_
  subst he
  exact ⟨_, rfl, _, _, _, [], _, [], hW', trodAll_mk1 (shut_bool Try.underlying4 _), trodAll_cons_mk (Below.trod laidOut (by kernel_rfl) (of_decide_eq_true (by kernel_rfl)) k0 bel lt0)
    (trodAll_cons_mk (shut_key hs hb hc) trodAll_mk0), rfl, bel.frame _, fun h => by cases h⟩

theorem over : Rows.fnNumberDistinguishesAndIsStableRow.holds Try.pinned (OpenSpec.ofChange Rows.fnNumberDistinguishesAndIsStableSpec) :=
  OpenClaim.holds_of_wide 4 Try.f4 rfl rfl rfl rfl rfl rfl rfl ⟨rfl, rfl, rfl, rfl, rfl⟩ rfl rfl rfl rfl rfl (by kernel_rfl) Try.func4 (by kernel_rfl)
    (of_decide_eq_true (by kernel_rfl)) (by unfold Func.isWrapper; first | (rw [if_pos (by decide +kernel)]; kernel_rfl) | (rw [if_neg (by decide +kernel)]; exact ⟨rfl, rfl⟩))
    (fun os started H enc _ => lifted os started H enc)

/-- THE STATEMENT -/
theorem proved : Rows.FnNumberDistinguishesAndIsStableSaid := over
#print axioms proved
end Go.Proofs.Qxb6628761a.FnNumberDistinguishesAndIsStable
