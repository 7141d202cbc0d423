/-
  THE ROW 'FnNumberNameOrderIsNumberOrderSaid' AND ITS TIED CARD. The frame after the kit's template, MapyProofs and MapyCard.
-/
import Derived.Test.Qxb6618041aDoorLift
import Derived.Test.Qxb6618041aDoorLaws3
import Derived.Test.Qxb6618041aDoorTie
import Derived.Test.Qxb6618041aDoorCards
import Derived.SevenTiedAt
namespace Go.Proofs.Qxb6618041aDoor.nameOrder
open Go.ChangeShapes Go.WideShapes Go.ChangeAt Go.RowKit
open Go.ChangeMaps (open_string shut_string)

set_option maxRecDepth 100000 in
theorem lifted (os : Os) (started : os.Started) (H : Type) (enc : TypeId × Value → H) :
    ReturnsInHanded {} Tryd.checked os 5 .any (fun w args => (Rows.fnNumberNameOrderIsNumberOrderSpec.pre enc Tryd.prog Tryd.f5 [] false w args ∧ laidMetH Tryd.prog laid5 w) ∧ sizedMet enc Tryd.prog Tryd.f5 (OpenSpec.ofChange Rows.fnNumberNameOrderIsNumberOrderSpec) false w args)
      (Rows.fnNumberNameOrderIsNumberOrderSpec.post enc Tryd.prog Tryd.f5 false true false false) := by
  refine returnsInHanded_of_change_and (C := Tryd.checked) (X := fun w _ => laidMetH Tryd.prog laid5 w) (fun _ _ _ hh h => h.of_heap hh) own started (by kernel_rfl) Tryd.func5
    (ChangeSpec.witness_shaped (enc := enc) (C := Tryd.checked) (os := os) (X := fun w _ => laidMetH Tryd.prog laid5 w) false (World.doorLaid Tryd.prog 62 os) #[.int .u64 0, .string ByteArray.empty] 8 rfl (World.shaped_of_RefB (by kernel_rfl) (by kernel_rfl)) (by kernel_rfl) (by kernel_rfl) (by kernel_rfl) (door_met os _)) ?_
  intro W base args ds gs before hval0 hW _ _ hL _
  have hval : ∀ (j : Nat) t v, Tryd.f5.params[j]? = some t → args[j]? = some v → Value.okWide Tryd.prog W .any base t v := hval0
  have hW' := hW
  obtain ⟨p, q, hA0, hV, rfl, hfz, hnd⟩ := hW
  have hA : DataW.TrodAll enc Tryd.prog W 0 (fun _ => true) true Tryd.f5.params.toList args.toList ds p := hA0
  rw [Tryd.params5] at hA hval
  obtain ⟨v0, v1, d0, d1, p0, p1, rfl, rfl, rfl, h0, h1⟩ := trodAll_two hA
  obtain ⟨rfl, rfl⟩ := trodVars_none hV
  obtain ⟨a0, rfl, rfl, rfl, w0⟩ := open_int Tryd.underlying22 (hval 0 22 v0 rfl rfl) h0
  obtain ⟨s, rfl, rfl, rfl, hs⟩ := open_string Tryd.underlying9 (hval 1 9 v1 rfl rfl) h1
  have he := of_laid hL
  obtain ⟨n, rfl, hn⟩ := nat_of_wf w0
  clear hA0 hval0
  refine (law5 n s W hn hs he).mono fun e W' ⟨he, bel⟩ => ?_
  subst he
  exact ⟨_, rfl, _, _, _, [], _, [], hW', trodAll_mk1 (shut_bool Tryd.underlying4 _), trodAll_mk2 (shut_int Tryd.underlying22 w0) (shut_string Tryd.underlying9 hs), rfl, bel.frame _, fun h => by cases h⟩

theorem over : Rows.fnNumberNameOrderIsNumberOrderRow.holds Tryd.pinned (OpenSpec.ofChange Rows.fnNumberNameOrderIsNumberOrderSpec) :=
  OpenClaim.holds_of_wide 5 Tryd.f5 rfl rfl rfl rfl rfl rfl rfl ⟨rfl, rfl, rfl, rfl, rfl⟩ rfl rfl rfl rfl rfl (by kernel_rfl) Tryd.func5 (by kernel_rfl)
    (of_decide_eq_true (by kernel_rfl)) (by unfold Func.isWrapper; first | (rw [if_pos (by decide +kernel)]; kernel_rfl) | (rw [if_neg (by decide +kernel)]; exact ⟨rfl, rfl⟩))
    (fun os started H enc _ => lifted os started H enc)

theorem proved : Rows.FnNumberNameOrderIsNumberOrderCardSaid :=
  Claim7.holds_tied_plain_at .later [] [.data, .data, .data, .sentinel, .sentinel] true (true, "8aeee23342804a48f387fd65811000baec88b8ca97562c75775cff41c0767813") true
    over (fun _ h => by cases h) (by kernel_rfl) (fun _ h => by cases h) fnNumberNameOrderIsNumberOrder_row_tie rfl ⟨rfl, rfl⟩ (by kernel_rfl) rfl
    (fun f fn hf hfn => by
      obtain rfl : f = 5 := Option.some.inj ((show Tryd.prog.funcNamed Tryd.f5.name = some 5 by kernel_rfl).symm.trans hf) |>.symm
      obtain rfl : fn = Tryd.f5 := (Option.some.inj (Tryd.func5.symm.trans hfn)).symm
      exact ⟨by kernel_rfl, fun j t ht => by
        rw [Tryd.params5] at ht
        have hm : t ∈ [22, 9] := by simpa using Array.mem_of_getElem? ht
        have hall : ([22, 9].all fun u => !Tryd.prog.wantsStandIn u) = true := by kernel_rfl
        exact (show Tryd.prog.wantsStandIn t = false by simpa using List.all_eq_true.1 hall t hm)⟩)
    (by kernel_rfl)
#print axioms proved
end Go.Proofs.Qxb6618041aDoor.nameOrder
