/-
  No cell of these rows narrows 'for every input' (looked for: loops, veiled, ifaces, maps, wideKeys, modest, calm, conditions, laid).
  DERIVED. THE GIVEN ROWS OF THIS SEAT. 3 by the template 'for every input the law returns true; each argument reads behind the call as it read before'; 0 by the template 'total and deterministic' (their statements: Qxb6619237aTotals.lean).
  GIVEN WITH THE SEED: the statements are not yours to turn. If you find one false, say at which input.
  Laid BY PROGRAM, IN A SANDBOX (cutbox-rows.mjs): the forced cells as the released guide's own fill.sh prints them over the translation 5ad3721ff9055234… (all of the seat's roots in one cut). By AI agents, Wed Nov 11 2026. No macro, syntax, notation, axiom, sorry.
-/
import Derived.Test.Qxb6619237aChecked
import GoSem.Claim
import GoSem.ClaimJoined
import GoSem.ClaimMapViews
import Derived.JoinedTies
import Derived.KernelRfl
namespace Go.Proofs.Qxb6619237a
/- THE CELL 'sum', in the pinned program and in every row, IS THE sha256 OF THE DUMP (.gsa) THAT Qxb6619237aProg.lean LOADS. Nothing in Lean hashes anything: it is a label: what it is worth is what the hold of that sum in a sandbox is worth. -/
noncomputable def Try.pinned : Pinned := { name := "qxb6619237a", sum := "5ad3721ff9055234d7a4db40036c38a0acd488ae3719d65d1d45c8505077b8a7", checked := Try.checked }
namespace Rows
def none {H : Type} : Left H := { results := [], args := [] }

/-- 'zzlaws_internal_phrase_b1.FnJoinListCutAtAnyPlace': WHATEVER THE INPUT: true; the input reads as it did. -/
def fnJoinListCutAtAnyPlaceSpec : ChangeSpec := { name := "fnJoinListCutAtAnyPlace", fn := fun _ => fun
  | [d1, d2, d3] => { results := [.lit (.bool true)], args := [d1, d2, d3] }
  | _ => none }
def fnJoinListCutAtAnyPlaceRow : OpenClaim := { program := "qxb6619237a", sum := "5ad3721ff9055234d7a4db40036c38a0acd488ae3719d65d1d45c8505077b8a7", func := "example.com/portcullis/portcullis/zzlaws_internal_phrase_b1.FnJoinListCutAtAnyPlace", spec := "fnJoinListCutAtAnyPlace", inPlace := ["internal/abi.NoEscape", "internal/bytealg.MakeNoZero"], apart := false }
def FnJoinListCutAtAnyPlaceSaid : Prop := fnJoinListCutAtAnyPlaceRow.holds Try.pinned (OpenSpec.ofChange fnJoinListCutAtAnyPlaceSpec)

/-- ITS FALSE NEIGHBOUR: 'it returns false'. Refute it at one input. -/
def fnJoinListCutAtAnyPlaceWrong : ChangeSpec := { name := "fnJoinListCutAtAnyPlace", fn := fun _ => fun
  | [d1, d2, d3] => { results := [.lit (.bool false)], args := [d1, d2, d3] }
  | _ => none }
def FnJoinListCutAtAnyPlaceWrongFalsely : Prop := fnJoinListCutAtAnyPlaceRow.holds Try.pinned (OpenSpec.ofChange fnJoinListCutAtAnyPlaceWrong)

/-- 'zzlaws_internal_phrase_b1.FnJoinListConjunctionIsOneSlot': WHATEVER THE INPUT: true; the input reads as it did. -/
def fnJoinListConjunctionIsOneSlotSpec : ChangeSpec := { name := "fnJoinListConjunctionIsOneSlot", fn := fun _ => fun
  | [d1, d2, d3] => { results := [.lit (.bool true)], args := [d1, d2, d3] }
  | _ => none }
def fnJoinListConjunctionIsOneSlotRow : OpenClaim := { program := "qxb6619237a", sum := "5ad3721ff9055234d7a4db40036c38a0acd488ae3719d65d1d45c8505077b8a7", func := "example.com/portcullis/portcullis/zzlaws_internal_phrase_b1.FnJoinListConjunctionIsOneSlot", spec := "fnJoinListConjunctionIsOneSlot", inPlace := ["internal/abi.NoEscape", "internal/bytealg.MakeNoZero"], apart := false }
def FnJoinListConjunctionIsOneSlotSaid : Prop := fnJoinListConjunctionIsOneSlotRow.holds Try.pinned (OpenSpec.ofChange fnJoinListConjunctionIsOneSlotSpec)

/-- ITS FALSE NEIGHBOUR: 'it returns false'. Refute it at one input. -/
def fnJoinListConjunctionIsOneSlotWrong : ChangeSpec := { name := "fnJoinListConjunctionIsOneSlot", fn := fun _ => fun
  | [d1, d2, d3] => { results := [.lit (.bool false)], args := [d1, d2, d3] }
  | _ => none }
def FnJoinListConjunctionIsOneSlotWrongFalsely : Prop := fnJoinListConjunctionIsOneSlotRow.holds Try.pinned (OpenSpec.ofChange fnJoinListConjunctionIsOneSlotWrong)

/-- 'zzlaws_internal_phrase_b1.FnAllowedCutAtAnyPlace': WHATEVER THE INPUT: true; the input reads as it did. -/
def fnAllowedCutAtAnyPlaceSpec : ChangeSpec := { name := "fnAllowedCutAtAnyPlace", fn := fun _ => fun
  | [d1, d2] => { results := [.lit (.bool true)], args := [d1, d2] }
  | _ => none }
def fnAllowedCutAtAnyPlaceRow : OpenClaim := { program := "qxb6619237a", sum := "5ad3721ff9055234d7a4db40036c38a0acd488ae3719d65d1d45c8505077b8a7", func := "example.com/portcullis/portcullis/zzlaws_internal_phrase_b1.FnAllowedCutAtAnyPlace", spec := "fnAllowedCutAtAnyPlace", inPlace := ["internal/abi.NoEscape", "internal/bytealg.MakeNoZero"], apart := false }
def FnAllowedCutAtAnyPlaceSaid : Prop := fnAllowedCutAtAnyPlaceRow.holds Try.pinned (OpenSpec.ofChange fnAllowedCutAtAnyPlaceSpec)

/-- ITS FALSE NEIGHBOUR: 'it returns false'. Refute it at one input. -/
def fnAllowedCutAtAnyPlaceWrong : ChangeSpec := { name := "fnAllowedCutAtAnyPlace", fn := fun _ => fun
  | [d1, d2] => { results := [.lit (.bool false)], args := [d1, d2] }
  | _ => none }
def FnAllowedCutAtAnyPlaceWrongFalsely : Prop := fnAllowedCutAtAnyPlaceRow.holds Try.pinned (OpenSpec.ofChange fnAllowedCutAtAnyPlaceWrong)

end Rows
end Go.Proofs.Qxb6619237a
