/-
  No cell of these rows narrows 'for every input' (looked for: loops, veiled, ifaces, maps, wideKeys, modest, calm, conditions, laid).
  DERIVED. THE GIVEN ROWS OF THIS SEAT. 4 by the template 'for every input the law returns true; each argument reads behind the call as it read before'; 0 by the template 'total and deterministic' (their statements: Qxb6618083aTotals.lean).
  GIVEN WITH THE SEED: the statements are not yours to turn. If you find one false, say at which input.
  Laid BY PROGRAM, IN A SANDBOX (cutbox-rows.mjs): the forced cells as the released guide's own fill.sh prints them over the translation aecaa69e5843f734… (all of the seat's roots in one cut). By AI agents, Wed Nov 11 2026. No macro, syntax, notation, axiom, sorry.
-/
import Derived.Test.Qxb6618083aChecked
import GoSem.Claim
import GoSem.ClaimJoined
import GoSem.ClaimMapViews
import Derived.JoinedTies
import Derived.KernelRfl
namespace Go.Proofs.Qxb6618083a
/- THE CELL 'sum', in the pinned program and in every row, IS THE sha256 OF THE DUMP (.gsa) THAT Qxb6618083aProg.lean LOADS. Nothing in Lean hashes anything: it is a label: what it is worth is what the hold of that sum in a sandbox is worth. -/
noncomputable def Try.pinned : Pinned := { name := "qxb6618083a", sum := "aecaa69e5843f734722d5b0cdef7ef4ec52f95d97040db35cd538b13b47e21b3", checked := Try.checked }
namespace Rows
def none {H : Type} : Left H := { results := [], args := [] }

/-- 'zzlaws_serpent_b1.FnLinearUndoneByInverseLinearAndSpreads': WHATEVER THE INPUT: true; the input reads as it did. -/
def fnLinearUndoneByInverseLinearAndSpreadsSpec : ChangeSpec := { name := "fnLinearUndoneByInverseLinearAndSpreads", fn := fun _ => fun
  | [d] => { results := [.lit (.bool true)], args := [d] }
  | _ => none }
def fnLinearUndoneByInverseLinearAndSpreadsRow : OpenClaim := { program := "qxb6618083a", sum := "aecaa69e5843f734722d5b0cdef7ef4ec52f95d97040db35cd538b13b47e21b3", func := "example.com/tessera/tessera/zzlaws_serpent_b1.FnLinearUndoneByInverseLinearAndSpreads", spec := "fnLinearUndoneByInverseLinearAndSpreads", apart := false }
def FnLinearUndoneByInverseLinearAndSpreadsSaid : Prop := fnLinearUndoneByInverseLinearAndSpreadsRow.holds Try.pinned (OpenSpec.ofChange fnLinearUndoneByInverseLinearAndSpreadsSpec)

/-- ITS FALSE NEIGHBOUR: 'it returns false'. Refute it at one input. -/
def fnLinearUndoneByInverseLinearAndSpreadsWrong : ChangeSpec := { name := "fnLinearUndoneByInverseLinearAndSpreads", fn := fun _ => fun
  | [d] => { results := [.lit (.bool false)], args := [d] }
  | _ => none }
def FnLinearUndoneByInverseLinearAndSpreadsWrongFalsely : Prop := fnLinearUndoneByInverseLinearAndSpreadsRow.holds Try.pinned (OpenSpec.ofChange fnLinearUndoneByInverseLinearAndSpreadsWrong)

/-- 'zzlaws_serpent_b1.FnLinearIsXorLinearWithBranchNumberThree': WHATEVER THE INPUT: true; the input reads as it did. -/
def fnLinearIsXorLinearWithBranchNumberThreeSpec : ChangeSpec := { name := "fnLinearIsXorLinearWithBranchNumberThree", fn := fun _ => fun
  | [d1, d2] => { results := [.lit (.bool true)], args := [d1, d2] }
  | _ => none }
def fnLinearIsXorLinearWithBranchNumberThreeRow : OpenClaim := { program := "qxb6618083a", sum := "aecaa69e5843f734722d5b0cdef7ef4ec52f95d97040db35cd538b13b47e21b3", func := "example.com/tessera/tessera/zzlaws_serpent_b1.FnLinearIsXorLinearWithBranchNumberThree", spec := "fnLinearIsXorLinearWithBranchNumberThree", apart := false }
def FnLinearIsXorLinearWithBranchNumberThreeSaid : Prop := fnLinearIsXorLinearWithBranchNumberThreeRow.holds Try.pinned (OpenSpec.ofChange fnLinearIsXorLinearWithBranchNumberThreeSpec)

/-- ITS FALSE NEIGHBOUR: 'it returns false'. Refute it at one input. -/
def fnLinearIsXorLinearWithBranchNumberThreeWrong : ChangeSpec := { name := "fnLinearIsXorLinearWithBranchNumberThree", fn := fun _ => fun
  | [d1, d2] => { results := [.lit (.bool false)], args := [d1, d2] }
  | _ => none }
def FnLinearIsXorLinearWithBranchNumberThreeWrongFalsely : Prop := fnLinearIsXorLinearWithBranchNumberThreeRow.holds Try.pinned (OpenSpec.ofChange fnLinearIsXorLinearWithBranchNumberThreeWrong)

/-- 'zzlaws_serpent_b1.FnInverseLinearUndoneByLinearAndSpreads': WHATEVER THE INPUT: true; the input reads as it did. -/
def fnInverseLinearUndoneByLinearAndSpreadsSpec : ChangeSpec := { name := "fnInverseLinearUndoneByLinearAndSpreads", fn := fun _ => fun
  | [d] => { results := [.lit (.bool true)], args := [d] }
  | _ => none }
def fnInverseLinearUndoneByLinearAndSpreadsRow : OpenClaim := { program := "qxb6618083a", sum := "aecaa69e5843f734722d5b0cdef7ef4ec52f95d97040db35cd538b13b47e21b3", func := "example.com/tessera/tessera/zzlaws_serpent_b1.FnInverseLinearUndoneByLinearAndSpreads", spec := "fnInverseLinearUndoneByLinearAndSpreads", apart := false }
def FnInverseLinearUndoneByLinearAndSpreadsSaid : Prop := fnInverseLinearUndoneByLinearAndSpreadsRow.holds Try.pinned (OpenSpec.ofChange fnInverseLinearUndoneByLinearAndSpreadsSpec)

/-- ITS FALSE NEIGHBOUR: 'it returns false'. Refute it at one input. -/
def fnInverseLinearUndoneByLinearAndSpreadsWrong : ChangeSpec := { name := "fnInverseLinearUndoneByLinearAndSpreads", fn := fun _ => fun
  | [d] => { results := [.lit (.bool false)], args := [d] }
  | _ => none }
def FnInverseLinearUndoneByLinearAndSpreadsWrongFalsely : Prop := fnInverseLinearUndoneByLinearAndSpreadsRow.holds Try.pinned (OpenSpec.ofChange fnInverseLinearUndoneByLinearAndSpreadsWrong)

/-- 'zzlaws_serpent_b1.FnInverseLinearIsXorLinearWithBranchNumberThree': WHATEVER THE INPUT: true; the input reads as it did. -/
def fnInverseLinearIsXorLinearWithBranchNumberThreeSpec : ChangeSpec := { name := "fnInverseLinearIsXorLinearWithBranchNumberThree", fn := fun _ => fun
  | [d1, d2] => { results := [.lit (.bool true)], args := [d1, d2] }
  | _ => none }
def fnInverseLinearIsXorLinearWithBranchNumberThreeRow : OpenClaim := { program := "qxb6618083a", sum := "aecaa69e5843f734722d5b0cdef7ef4ec52f95d97040db35cd538b13b47e21b3", func := "example.com/tessera/tessera/zzlaws_serpent_b1.FnInverseLinearIsXorLinearWithBranchNumberThree", spec := "fnInverseLinearIsXorLinearWithBranchNumberThree", apart := false }
def FnInverseLinearIsXorLinearWithBranchNumberThreeSaid : Prop := fnInverseLinearIsXorLinearWithBranchNumberThreeRow.holds Try.pinned (OpenSpec.ofChange fnInverseLinearIsXorLinearWithBranchNumberThreeSpec)

/-- ITS FALSE NEIGHBOUR: 'it returns false'. Refute it at one input. -/
def fnInverseLinearIsXorLinearWithBranchNumberThreeWrong : ChangeSpec := { name := "fnInverseLinearIsXorLinearWithBranchNumberThree", fn := fun _ => fun
  | [d1, d2] => { results := [.lit (.bool false)], args := [d1, d2] }
  | _ => none }
def FnInverseLinearIsXorLinearWithBranchNumberThreeWrongFalsely : Prop := fnInverseLinearIsXorLinearWithBranchNumberThreeRow.holds Try.pinned (OpenSpec.ofChange fnInverseLinearIsXorLinearWithBranchNumberThreeWrong)

end Rows
end Go.Proofs.Qxb6618083a
