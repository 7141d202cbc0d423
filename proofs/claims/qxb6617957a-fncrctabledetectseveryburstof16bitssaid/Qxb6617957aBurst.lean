/-
  The two byte rows that the second law lays, as lists of bytes. Own work for this seat.
-/
import Derived.Test.Qxb6617957aRowOf
import Derived.Deep.OwnRows
namespace Go.Proofs.Qxb6617957a
open Go.RowKit

/-- a row of bytes as cells -/
def bc (l : List (BitVec 8)) : Array Value := (l.map fun b => Value.int .u8 (b.toNat : Int)).toArray

theorem bc_size (l : List (BitVec 8)) : (bc l).size = l.length := by simp [bc]
theorem bc_get (l : List (BitVec 8)) (i : Nat) (h : i < l.length) : (bc l)[i]? = some (.int .u8 (l[i].toNat : Int)) := by
  simp [bc, h]
theorem bc_getD (l : List (BitVec 8)) (i : Nat) (h : i < l.length) : (bc l)[i]? = some (.int .u8 ((l.getD i 0#8).toNat : Int)) := by
  rw [bc_get l i h]
  simp [List.getD, List.getElem?_eq_getElem h]
theorem bc_set (l : List (BitVec 8)) (i : Nat) (b : BitVec 8) : (bc l).setIfInBounds i (.int .u8 (b.toNat : Int)) = bc (l.set i b) := by
  simp [bc, List.map_set]

theorem info5 : (Try.prog.info? 5).map (fun i => (i.zero, i.size, i.bytes)) = some (some (.int .u8 0), 1, 1) := by kernel_rfl

theorem made_bc (n : Nat) : madeCells #[Value.int .u8 0] n = bc (List.replicate n 0#8) := by
  apply Array.toList_inj.1
  rw [toList_madeCells_one]
  simp [bc]

theorem make_bytes (n : Nat) (h : n ≤ 1048576) (w : World) : (Instr.makeSlice 22 (.int .i64 (n : Int)) (.int .i64 (n : Int))).run Try.prog w = .ok (.slice (some ⟨w.heap.size, 0, none⟩) n n) (w.alloc (.cells (bc (List.replicate n 0#8)) 5)) := by
  rw [run_make_row' (P := Try.prog) 22 5 (.int .u8 0) 1 Try.underlying22 info5 rfl .i64 .i64 n (by omega) (by omega) w, made_bc]

/-- the copy after k rounds -/
def copied (ds : List (BitVec 8)) (k : Nat) : List (BitVec 8) := ds.take k ++ List.replicate (ds.length - k) 0#8
theorem copied_0 (ds : List (BitVec 8)) : copied ds 0 = List.replicate ds.length 0#8 := by simp [copied]
theorem copied_all (ds : List (BitVec 8)) (k : Nat) (h : ds.length ≤ k) : copied ds k = ds := by
  simp [copied, List.take_of_length_le h, show ds.length - k = 0 by omega]
theorem copied_length (ds : List (BitVec 8)) (k : Nat) : (copied ds k).length = ds.length := by simp [copied]; omega
theorem copied_set (ds : List (BitVec 8)) (k : Nat) (h : k < ds.length) : (copied ds k).set k ds[k] = copied ds (k + 1) := by
  unfold copied
  rw [List.set_append_right _ _ (by simp; omega), take_snoc ds k h, List.append_assoc]
  congr 1
  rw [show k - (ds.take k).length = 0 by simp; omega, show ds.length - k = (ds.length - (k + 1)) + 1 by omega, List.replicate_succ]
  rfl

theorem row_new (w : World) (b : Nat) (l : List (BitVec 8)) (hb : w.heap[b]? = some (.cells (bc l) 5 (0, 0))) : Row w (some ⟨b, 0, none⟩) l.length l := by
  refine ⟨rfl, fun i hi => ⟨b, 0, rfl, ?_⟩⟩
  rw [cell_of_row w b (0 + i) (bc l) 5 (0, 0) hb, Nat.zero_add, bc_get l i hi]

theorem hi_form (m : BitVec 16) : (m.toNat : Int) / (256 : Int) = ((((m >>> 8).setWidth 8 : BitVec 8).toNat : Nat) : Int) := by
  have hm := m.isLt
  rw [BitVec.toNat_setWidth, BitVec.toNat_ushiftRight, Nat.shiftRight_eq_div_pow]
  omega
theorem lo_form (m : BitVec 16) : (m.toNat : Int) % 256 = (((m.setWidth 8 : BitVec 8).toNat : Nat) : Int) := by
  rw [BitVec.toNat_setWidth]
  omega
theorem xor_form (x y : BitVec 8) : bits .xor .u8 (x.toNat : Int) (y.toNat : Int) = ((x ^^^ y).toNat : Int) := by
  rw [u8_xor_nat _ _ x.isLt y.isLt, BitVec.toNat_xor]
theorem xor_form16 (x y : BitVec 16) : bits .xor .u16 (x.toNat : Int) (y.toNat : Int) = ((x ^^^ y).toNat : Int) := by
  rw [u16_xor_nat _ _ x.isLt y.isLt, BitVec.toNat_xor]
theorem mask_of_wf {n : Int} (h : (Lit.int .u16 n).wf = true) : ∃ m : BitVec 16, n = (m.toNat : Int) := by
  simp [Lit.wf, IntKind.min, IntKind.max, IntKind.signed, IntKind.bits] at h
  obtain ⟨k, rfl⟩ := Int.eq_ofNat_of_zero_le (show 0 ≤ n by omega)
  exact ⟨BitVec.ofNat 16 k, by rw [BitVec.toNat_ofNat]; omega⟩

end Go.Proofs.Qxb6617957a
