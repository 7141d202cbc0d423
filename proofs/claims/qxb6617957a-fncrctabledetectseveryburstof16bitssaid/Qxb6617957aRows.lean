/-
  No cell of these rows narrows 'for every input' (looked for: loops, veiled, ifaces, maps, wideKeys, modest, calm, conditions, laid).
  DERIVED. THE GIVEN ROWS OF THIS SEAT. 3 by the template 'for every input the law returns true; each argument reads behind the call as it read before'; 0 by the template 'total and deterministic' (their statements: Qxb6617957aTotals.lean).
  GIVEN WITH THE SEED: the statements are not yours to turn. If you find one false, say at which input.
  Laid BY PROGRAM, IN A SANDBOX (cutbox-rows.mjs): the forced cells as the released guide's own fill.sh prints them over the translation 05ea676290f772f6… (all of the seat's roots in one cut). By AI agents, Wed Nov 11 2026. No macro, syntax, notation, axiom, sorry.
-/
import Derived.Test.Qxb6617957aChecked
import GoSem.Claim
import GoSem.ClaimJoined
import GoSem.ClaimMapViews
import Derived.JoinedTies
import Derived.KernelRfl
namespace Go.Proofs.Qxb6617957a
/- THE CELL 'sum', in the pinned program and in every row, IS THE sha256 OF THE DUMP (.gsa) THAT Qxb6617957aProg.lean LOADS. Nothing in Lean hashes anything: it is a label: what it is worth is what the hold of that sum in a sandbox is worth. -/
noncomputable def Try.pinned : Pinned := { name := "qxb6617957a", sum := "05ea676290f772f6488de1147fb41b59de9f29ef889328ba9e0cbfe132638a44", checked := Try.checked }
namespace Rows
def none {H : Type} : Left H := { results := [], args := [] }

/-- 'zzlaws_pkg_slot_b1.FnCRCTableComputesXMODEMRemainder': WHATEVER THE INPUT: true; the input reads as it did. -/
def fnCRCTableComputesXMODEMRemainderSpec : ChangeSpec := { name := "fnCRCTableComputesXMODEMRemainder", fn := fun _ => fun
  | [d] => { results := [.lit (.bool true)], args := [d] }
  | _ => none }
def fnCRCTableComputesXMODEMRemainderRow : OpenClaim := { program := "qxb6617957a", sum := "05ea676290f772f6488de1147fb41b59de9f29ef889328ba9e0cbfe132638a44", func := "example.com/slotbus/slotbus/zzlaws_pkg_slot_b1.FnCRCTableComputesXMODEMRemainder", spec := "fnCRCTableComputesXMODEMRemainder", apart := false }
def FnCRCTableComputesXMODEMRemainderSaid : Prop := fnCRCTableComputesXMODEMRemainderRow.holds Try.pinned (OpenSpec.ofChange fnCRCTableComputesXMODEMRemainderSpec)

/-- ITS FALSE NEIGHBOUR: 'it returns false'. Refute it at one input. -/
def fnCRCTableComputesXMODEMRemainderWrong : ChangeSpec := { name := "fnCRCTableComputesXMODEMRemainder", fn := fun _ => fun
  | [d] => { results := [.lit (.bool false)], args := [d] }
  | _ => none }
def FnCRCTableComputesXMODEMRemainderWrongFalsely : Prop := fnCRCTableComputesXMODEMRemainderRow.holds Try.pinned (OpenSpec.ofChange fnCRCTableComputesXMODEMRemainderWrong)

/-- 'zzlaws_pkg_slot_b1.FnCRCTableDetectsEveryBurstOf16Bits': WHATEVER THE INPUT: true; the input reads as it did. -/
def fnCRCTableDetectsEveryBurstOf16BitsSpec : ChangeSpec := { name := "fnCRCTableDetectsEveryBurstOf16Bits", fn := fun _ => fun
  | [d1, d2, d3] => { results := [.lit (.bool true)], args := [d1, d2, d3] }
  | _ => none }
def fnCRCTableDetectsEveryBurstOf16BitsRow : OpenClaim := { program := "qxb6617957a", sum := "05ea676290f772f6488de1147fb41b59de9f29ef889328ba9e0cbfe132638a44", func := "example.com/slotbus/slotbus/zzlaws_pkg_slot_b1.FnCRCTableDetectsEveryBurstOf16Bits", spec := "fnCRCTableDetectsEveryBurstOf16Bits", apart := false }
def FnCRCTableDetectsEveryBurstOf16BitsSaid : Prop := fnCRCTableDetectsEveryBurstOf16BitsRow.holds Try.pinned (OpenSpec.ofChange fnCRCTableDetectsEveryBurstOf16BitsSpec)

/-- ITS FALSE NEIGHBOUR: 'it returns false'. Refute it at one input. -/
def fnCRCTableDetectsEveryBurstOf16BitsWrong : ChangeSpec := { name := "fnCRCTableDetectsEveryBurstOf16Bits", fn := fun _ => fun
  | [d1, d2, d3] => { results := [.lit (.bool false)], args := [d1, d2, d3] }
  | _ => none }
def FnCRCTableDetectsEveryBurstOf16BitsWrongFalsely : Prop := fnCRCTableDetectsEveryBurstOf16BitsRow.holds Try.pinned (OpenSpec.ofChange fnCRCTableDetectsEveryBurstOf16BitsWrong)

/-- 'zzlaws_pkg_slot_b1.FnHashTagIsFirstBracedNonemptyPiece': WHATEVER THE INPUT: true; the input reads as it did. -/
def fnHashTagIsFirstBracedNonemptyPieceSpec : ChangeSpec := { name := "fnHashTagIsFirstBracedNonemptyPiece", fn := fun _ => fun
  | [d1, d2, d3] => { results := [.lit (.bool true)], args := [d1, d2, d3] }
  | _ => none }
def fnHashTagIsFirstBracedNonemptyPieceRow : OpenClaim := { program := "qxb6617957a", sum := "05ea676290f772f6488de1147fb41b59de9f29ef889328ba9e0cbfe132638a44", func := "example.com/slotbus/slotbus/zzlaws_pkg_slot_b1.FnHashTagIsFirstBracedNonemptyPiece", spec := "fnHashTagIsFirstBracedNonemptyPiece", inPlace := ["internal/bytealg.IndexByte"], apart := false }
def FnHashTagIsFirstBracedNonemptyPieceSaid : Prop := fnHashTagIsFirstBracedNonemptyPieceRow.holds Try.pinned (OpenSpec.ofChange fnHashTagIsFirstBracedNonemptyPieceSpec)

/-- ITS FALSE NEIGHBOUR: 'it returns false'. Refute it at one input. -/
def fnHashTagIsFirstBracedNonemptyPieceWrong : ChangeSpec := { name := "fnHashTagIsFirstBracedNonemptyPiece", fn := fun _ => fun
  | [d1, d2, d3] => { results := [.lit (.bool false)], args := [d1, d2, d3] }
  | _ => none }
def FnHashTagIsFirstBracedNonemptyPieceWrongFalsely : Prop := fnHashTagIsFirstBracedNonemptyPieceRow.holds Try.pinned (OpenSpec.ofChange fnHashTagIsFirstBracedNonemptyPieceWrong)

end Rows
end Go.Proofs.Qxb6617957a
