/-
  THE ROW 'FnLinearUndoneByInverseLinearAndSpreadsSaid'. The frame after the kit's template and its IdRangearrayProofs.
-/
import Derived.Test.Qxb6618083aRows
import Derived.Test.Qxb6618083aLaws
import Derived.ProofKit
import Derived.OpenShut
import Derived.ChangeOld
import Derived.Laws.IdiomArrays
namespace Go.Proofs.Qxb6618083a.linearUndone
open Go.ChangeShapes Go.WideShapes Go.ChangeAt Go.RowKit

theorem own : ownKnob Try.prog.godebug = none := by kernel_rfl
theorem cells23 : Try.prog.cellsOf 23 = 4 := by kernel_rfl
theorem list4 {α : Type} (l : List α) (h : (⟨l⟩ : Array α).size = 4) : ∃ a b c d, l = [a, b, c, d] := by
  match l, h with
  | [a, b, c, d], _ => exact ⟨a, b, c, d, rfl⟩
theorem word_of_wf {n : Int} (h : (Lit.int .u32 n).wf = true) : ∃ m : BitVec 32, n = (m.toNat : Int) := by
  simp [Lit.wf, IntKind.min, IntKind.max, IntKind.signed, IntKind.bits] at h
  obtain ⟨k, rfl⟩ := Int.eq_ofNat_of_zero_le (show 0 ≤ n by omega)
  exact ⟨BitVec.ofNat 32 k, by rw [BitVec.toNat_ofNat]; omega⟩

set_option maxHeartbeats 400000 in
set_option maxRecDepth 100000 in
theorem lifted (os : Os) (started : os.Started) (H : Type) (enc : TypeId × Value → H) :
    ReturnsInHanded {} Try.checked os 3 .any (Rows.fnLinearUndoneByInverseLinearAndSpreadsSpec.pre6 enc Try.prog Try.f3 Rows.fnLinearUndoneByInverseLinearAndSpreadsRow.domain false) (Rows.fnLinearUndoneByInverseLinearAndSpreadsSpec.post enc Try.prog Try.f3 false true false false) := by
  refine returnsInHanded_of_change (C := Try.checked) own started (by kernel_rfl) Try.func3
    (ChangeSpec.witness6 (enc := enc) (C := Try.checked) false ⟨#[], #[.agg #[.int .u32 0, .int .u32 0, .int .u32 0, .int .u32 0]], []⟩ 8 (by kernel_rfl) (by kernel_rfl) (by kernel_rfl) (by kernel_rfl)) ?_
  intro W base args ds gs before hval0 hW _ _
  have hval : ∀ (j : Nat) t v, Try.f3.params[j]? = some t → args[j]? = some v → Value.okWide Try.prog W .any base t v := hval0
  have hW' := hW
  obtain ⟨p, q, hA0, hV, rfl, _, _⟩ := hW
  have hA : DataW.TrodAll enc Try.prog W 0 (fun _ => true) true Try.f3.params.toList args.toList ds p := hA0
  rw [Try.params3] at hA hval
  obtain ⟨v0, d0, rfl, rfl, h0⟩ := trodAll_one hA
  obtain ⟨rfl, rfl⟩ := trodVars_none hV
  obtain ⟨cs, rfl, hsz, _⟩ : ∃ cs, v0 = .agg cs ∧ cs.size = Try.prog.cellsOf 23 ∧ Row.okWide Try.prog W .any base 23 cs := by
    have := hval 0 23 v0 rfl rfl
    simpa [Value.okWide, Try.underlying23] using this
  rw [cells23] at hsz
  obtain ⟨l⟩ := cs
  obtain ⟨c0, c1, c2, c3, rfl⟩ := list4 l hsz
  obtain ⟨fuel, hf⟩ := h0
  obtain ⟨y0, y1, y2, y3, m, hx, hy0, hy1, hy2, hy3⟩ := trod_array4 Try.underlying23 cells22 hf
  obtain ⟨x0, e0, rfl, w0⟩ := DataW.trod_int Try.underlying22 hy0
  obtain ⟨x1, e1, rfl, w1⟩ := DataW.trod_int Try.underlying22 hy1
  obtain ⟨x2, e2, rfl, w2⟩ := DataW.trod_int Try.underlying22 hy2
  obtain ⟨x3, e3, rfl, w3⟩ := DataW.trod_int Try.underlying22 hy3
  simp at e0 e1 e2 e3
  subst e0 e1 e2 e3
  simp only [Prod.mk.injEq] at hx
  obtain ⟨rfl, rfl⟩ := hx
  obtain ⟨b0, rfl⟩ := word_of_wf w0
  obtain ⟨b1, rfl⟩ := word_of_wf w1
  obtain ⟨b2, rfl⟩ := word_of_wf w2
  obtain ⟨b3, rfl⟩ := word_of_wf w3
  clear hA0 hval0
  refine (law3 ⟨b0, b1, b2, b3⟩ W).mono fun e W' ⟨he, kp⟩ => ?_
  subst he
  have rdA : ∀ sp : Nat → Bool, DataW.Trod enc Try.prog W' 0 sp true 23 (.agg #[.int .u32 (b0.toNat : Int), .int .u32 (b1.toNat : Int), .int .u32 (b2.toNat : Int), .int .u32 (b3.toNat : Int)]) (DataW.agg [.lit (.int .u32 (b0.toNat : Int)), .lit (.int .u32 (b1.toNat : Int)), .lit (.int .u32 (b2.toNat : Int)), .lit (.int .u32 (b3.toNat : Int))]) [] := fun sp => ⟨2, by simp [DataW.trod, Value.cells, Try.underlying23, Try.underlying22, cells23, cells22, w0, w1, w2, w3, show List.range 4 = [0, 1, 2, 3] from rfl]⟩
  exact ⟨_, rfl, _, _, _, [], [], [], hW', trodAll_mk1 (shut_bool Try.underlying4 _), trodAll_mk1 (rdA _), rfl, kp.frame _, fun h => by cases h⟩

theorem over : Rows.fnLinearUndoneByInverseLinearAndSpreadsRow.holds Try.pinned (OpenSpec.ofChange Rows.fnLinearUndoneByInverseLinearAndSpreadsSpec) :=
  OpenClaim.holds_of_wide 3 Try.f3 rfl rfl rfl rfl rfl rfl rfl ⟨rfl, rfl, rfl, rfl, rfl⟩ rfl rfl rfl rfl rfl (by kernel_rfl) Try.func3 (by kernel_rfl)
    (of_decide_eq_true (by kernel_rfl)) (by unfold Func.isWrapper; first | (rw [if_pos (by decide +kernel)]; kernel_rfl) | (rw [if_neg (by decide +kernel)]; exact ⟨rfl, rfl⟩))
    (fun os started H enc _ => lifted os started H enc)

theorem proved : Rows.FnLinearUndoneByInverseLinearAndSpreadsSaid := over
#print axioms proved
end Go.Proofs.Qxb6618083a.linearUndone
