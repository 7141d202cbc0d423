/-
  From what the row's reading gives of a slice of bytes to the walks' own words. Own work for this seat.
-/
import Derived.Test.Qxb6617957aWalks
import Derived.ProofKit
namespace Go.Proofs.Qxb6617957a
open Go.RowKit

/-- WHAT THE WALK IS TOLD OF A SLICE OF INTEGERS THAT CAME IN: it is nil; or it leads to a row of 'cap' cells, the numbers 'zs' (the first 'len' are its elements, the rest its spare room), each fitting its kind. -/
def IsRow (k : IntKind) (w : World) (a : Option Addr) (len cap : Nat) (zs : List Int) : Prop :=
  (a = none ∧ len = 0 ∧ cap = 0 ∧ zs = []) ∨
  ∃ x, a = some x ∧ len ≤ cap ∧ cap ≤ maxLen ∧ zs.length = cap ∧ (∀ i, i < zs.length → w.cell? (x.add i) = some (.int k (zs.getD i 0))) ∧ ∀ n ∈ zs, (Lit.int k n).wf = true

theorem byte_of_wf {n : Int} (h : (Lit.int .u8 n).wf = true) : 0 ≤ n ∧ n < 256 := by
  simp [Lit.wf, IntKind.min, IntKind.max, IntKind.signed, IntKind.bits] at h
  exact ⟨by omega, by omega⟩

theorem byte_back {n : Int} (h0 : 0 ≤ n) (h1 : n < 256) : (((BitVec.ofInt 8 n).toNat : Nat) : Int) = n := by
  obtain ⟨m, rfl⟩ := Int.eq_ofNat_of_zero_le h0
  rw [ofInt_u8 m (by omega)]

theorem row_of {w : World} {a : Option Addr} {len cap : Nat} {zs : List Int} (h : IsRow .u8 w a len cap zs) : ∃ ds, Row w a len ds := by
  rcases h with ⟨rfl, rfl, rfl, rfl⟩ | ⟨⟨b, off, spot⟩, rfl, hl, _, hz, hc, hw⟩
  · exact ⟨[], rfl, fun i h => by simp at h⟩
  · refine ⟨(zs.take len).map (BitVec.ofInt 8), by simp; omega, fun i h => ?_⟩
    have hi : i < zs.length := by simp at h; omega
    have hspot : spot = none := by simpa [Addr.add] using World.cell?_spot (hc 0 (by omega))
    subst hspot
    have hcell := hc i hi
    rw [Go.WideShapes.add_plain] at hcell
    refine ⟨b, off, rfl, ?_⟩
    rw [hcell]
    have hn := byte_of_wf (hw (zs[i]) (List.getElem_mem hi))
    simp only [List.getElem_map, List.getElem_take]
    rw [byte_back hn.1 hn.2]
    simp [List.getD, List.getElem?_eq_getElem hi]

theorem Row.lt {w : World} {a : Option Addr} {len : Nat} {ds : List (BitVec 8)} (h : Row w a len ds) : ∀ i, i < ds.length → ∃ b off, a = some ⟨b, off, none⟩ ∧ b < w.heap.size := by
  intro i hi
  obtain ⟨b, off, e, hc⟩ := h.2 i hi
  exact ⟨b, off, e, block_lt_of_cell hc⟩

/-- old cells read as before: so does the row -/
theorem Row.below {w w' : World} {a : Option Addr} {len : Nat} {ds : List (BitVec 8)} (h : Row w a len ds) (hb : Below w.heap.size w w') : Row w' a len ds := by
  refine ⟨h.1, fun i hi => ?_⟩
  obtain ⟨b, off, e, hc⟩ := h.2 i hi
  exact ⟨b, off, e, by rw [hb.cell (p := ⟨b, off + i, none⟩) (block_lt_of_cell hc)]; exact hc⟩

end Go.Proofs.Qxb6617957a
