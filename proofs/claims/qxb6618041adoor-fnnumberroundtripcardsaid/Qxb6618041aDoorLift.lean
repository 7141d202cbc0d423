/-
  From the rows' listed variables to what the walks ask: the two error values of strconv are there. Own work for this seat, after the kit's MapyProofs.
-/
import Derived.Test.Qxb6618041aDoorRows
import Derived.Test.Qxb6618041aDoorLaws
import Derived.ProofKit
import Derived.LaidMore
import Derived.OpenShut
import Derived.ShutString
import Derived.Stop.Joined
import Derived.Stop.LaidErr
import Derived.Carry
namespace Go.Proofs.Qxb6618041aDoor
open Go.ChangeShapes Go.WideShapes Go.ChangeAt Go.RowKit

theorem own : ownKnob Tryd.prog.godebug = none := by kernel_rfl
theorem laidOut : laidOutB Tryd.prog = true := by kernel_rfl
theorem gSyn : Tryd.prog.globalNamed "strconv.ErrSyntax" = some 0 := by kernel_rfl
theorem gRng : Tryd.prog.globalNamed "strconv.ErrRange" = some 1 := by kernel_rfl
theorem tSyn : (Tryd.prog.globals[0]?).map (·.type) = some 35 := by kernel_rfl
theorem tRng : (Tryd.prog.globals[1]?).map (·.type) = some 35 := by kernel_rfl

/-- the list that all three rows bear -/
def laid5 : List (String × DataW Unit) := Rows.fnNumberRoundTripRow.laid

/-- The door's own heap meets the condition: closed facts. -/
theorem door_met (os : Os) (args : Array Value) : laidMetH Tryd.prog laid5 ((World.doorLaid Tryd.prog 62 os).forCall (fun _ _ => 0) ⟨#[], args, []⟩).memory :=
  laidMetH_of_parts3 (fuel := 8) (laidMet_of_run' 8 (by kernel_rfl) (by kernel_rfl)) (by kernel_rfl) (by kernel_rfl)

theorem head_iface {n nm : String} {d : DataW Unit} {r : List (String × DataW Unit)} {W : World} {g : Nat} (h : laidMet Tryd.prog ((n, .iface nm d) :: r) W)
    (hg : Tryd.prog.globalNamed n = some g) (ht : (Tryd.prog.globals[g]?).map (·.type) = some 35) : ∃ t p, W.cell? ⟨g, 0, none⟩ = some (.iface t p) := by
  obtain ⟨ps, ⟨g0, t0, cs0, f0, p0, q0, hg0, ht0, hv0, hd0, _, _⟩, _, _⟩ := h
  obtain rfl := Option.some.inj (hg.symm.trans hg0)
  obtain rfl := Option.some.inj (ht.symm.trans ht0)
  obtain ⟨f1, u, v, hcs, _, _⟩ := iface_of_trod Tryd.underlying35 hd0
  have := World.var?_cell hg0 hv0 0
  rw [Array.eq_one_of_toList hcs] at this
  exact ⟨u, v, by simpa using this⟩

theorem of_laid {W : World} (h : laidMetH Tryd.prog laid5 W) : Errs W := by
  rw [MakeChecks.laidMetH_plain _ _ _ (by kernel_rfl)] at h
  have h3 := laidMet.tail (laidMet.tail (laidMet.tail h))
  exact ⟨head_iface h3.tail gSyn tSyn, head_iface h3 gRng tRng⟩

theorem nat_of_wf {n : Int} (h : (Lit.int .u64 n).wf = true) : ∃ k : Nat, n = (k : Int) ∧ k ≤ Jn.M64 := by
  simp [Lit.wf, IntKind.min, IntKind.max, IntKind.signed, IntKind.bits] at h
  obtain ⟨k, rfl⟩ := Int.eq_ofNat_of_zero_le (show 0 ≤ n by omega)
  exact ⟨k, rfl, by unfold Jn.M64; omega⟩

end Go.Proofs.Qxb6618041aDoor
