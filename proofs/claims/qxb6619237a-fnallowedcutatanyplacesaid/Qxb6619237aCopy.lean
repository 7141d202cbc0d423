/-
  The law's own copy of its argument. Own work for this seat.
-/
import Derived.Test.Qxb6619237aJoins
import Derived.Laws.CopyRow
import Derived.Deep.OwnRows
import Derived.Deep.WholeRow
import Derived.WalkSpells
namespace Go.Proofs.Qxb6619237a
open Go.RowKit

theorem info9 : (Try.prog.info? 9).map (fun i => (i.zero, i.size, i.bytes)) = some (some (.string ⟨#[]⟩), 1, 16) := by kernel_rfl
theorem size9 : (Try.prog.info? 9).map (·.size) = some 1 := by kernel_rfl

/-- a row of strings -/
def sc (xs : List ByteArray) : Array Value := (xs.map Value.string).toArray
theorem sc_size (xs : List ByteArray) : (sc xs).size = xs.length := by simp [sc]
theorem sc_get (xs : List ByteArray) (k : Nat) (h : k < xs.length) : (sc xs)[k]? = some (.string xs[k]) := by simp [sc, h]
theorem made_sc (n : Nat) : madeCells #[.string ⟨#[]⟩] n = sc (List.replicate n ⟨#[]⟩) := by
  apply Array.toList_inj.1
  rw [toList_madeCells_one]
  simp [sc]

theorem make_strs (n : Nat) (h : n ≤ 65536) (w : World) : (Instr.makeSlice 22 (.int .i64 (n : Int)) (.int .i64 (n : Int))).run Try.prog w = .ok (.slice (some ⟨w.heap.size, 0, none⟩) n n) (w.alloc (.cells (sc (List.replicate n ⟨#[]⟩)) 9)) := by
  rw [run_make_row' (P := Try.prog) 22 9 (.string ⟨#[]⟩) 16 Try.underlying22 info9 rfl .i64 .i64 n (by omega) (by omega) w, made_sc]

theorem copy_strs (w : World) (p : Addr) (n cap : Nat) (xs : List ByteArray) (hrow : SRow w (some p) n xs) (ty : TypeId) :
    (Builtin.copy_ #[22, 22] ty #[.slice (some ⟨w.heap.size, 0, none⟩) n n, .slice (some p) n cap]).run Try.prog (w.alloc (.cells (sc (List.replicate n ⟨#[]⟩)) 9)) = .ok (.int .i64 (n : Int)) (w.alloc (.cells (sc xs) 9)) := by
  have hl := hrow.1
  rw [run_copy_row Try.prog _ 22 22 ty 9 w.heap.size 0 n n p n cap (sc (List.replicate n ⟨#[]⟩)) 9 (xs.map Value.string) Try.underlying22 size9 (heap_alloc_last w _) (by simp [hl]) ?_ (by simp [sc_size, hl]) (by simp; intro a _; rfl), World.setRow_alloc_new]
  · congr 1
    · simp [goInt, hl]
    · congr 2
      simp [sc, hl]
  · intro j v hj
    rw [List.getElem?_map] at hj
    obtain ⟨x, hx, rfl⟩ := Option.map_eq_some_iff.1 hj
    obtain ⟨hjl, rfl⟩ := List.getElem?_eq_some_iff.1 hx
    obtain ⟨b, off, e, hc⟩ := hrow.2 j hjl
    cases e
    rw [Go.WideShapes.add_plain, ((Below.refl w.heap.size w).alloc (Nat.le_refl _) _).cell (p := ⟨b, off + j, none⟩) (block_lt_of_cell hc)]
    exact hc

theorem row_copied (w : World) (n : Nat) (xs : List ByteArray) (hl : xs.length = n) : SRow (w.alloc (.cells (sc xs) 9)) (some ⟨w.heap.size, 0, none⟩) n xs := by
  refine ⟨hl, fun i hi => ⟨w.heap.size, 0, rfl, ?_⟩⟩
  rw [cell_of_row _ w.heap.size (0 + i) (sc xs) 9 (0, 0) (heap_alloc_last w _), Nat.zero_add, sc_get xs i hi]

theorem nil_no (n cap : Nat) (w : World) : (binOp .neq 22 (.slice none n cap) (.slice none 0 0)).run Try.prog w = .ok (.bool false) w := _root_.Go.run_neq_slice_nil_any w 22 9 none n cap 0 0 Try.underlying22
theorem nil_yes (p : Addr) (n cap : Nat) (w : World) : (binOp .neq 22 (.slice (some p) n cap) (.slice none 0 0)).run Try.prog w = .ok (.bool true) w := _root_.Go.run_neq_slice_nil_any w 22 9 (some p) n cap 0 0 Try.underlying22

set_option maxRecDepth 1000000 in
set_option maxHeartbeats 400000 in
/-- the law at no value -/
theorem law_none (a : Option Addr) (cap : Nat) (k : Int) (w : World) :
    Calls Try.prog 5 #[.slice a 0 cap, .int .i64 k] w fun e w' => e = .returned (.bool true) ∧ Below w.heap.size w w' := by
  have hrow : ∀ w a, SRow w a 0 [] := fun w a => ⟨rfl, fun i hi => absurd hi (by simp)⟩
  have HR : Hid (∀ w a, SRow w a 0 []) := hrow
  have HB : Hid (Below w.heap.size w w) := Below.refl _ _
  clear hrow
  have hmk : ∀ w, (Instr.makeSlice 22 (.int .i64 0) (.int .i64 0)).run Try.prog w = .ok (.slice (some ⟨w.heap.size, 0, none⟩) 0 0) (w.alloc (.cells (sc (List.replicate 0 ⟨#[]⟩)) 9)) := make_strs 0 (by omega)
  have hal := fun a c w => allowed_walk a 0 c [] w (HR.out w a) (Nat.zero_le _) (by simp [L, Ph.tot])
  have HA : Hid (∀ (a : Option Addr) (c : Nat) (w : World), Calls Try.prog 12 #[.slice a 0 c] w fun e w' => e = .returned (.string (bs (Ph.allowedL (L [])))) ∧ Below w.heap.size w w') := hal
  clear hal
  rw [show bs (Ph.allowedL (L [])) = ⟨#[116, 104, 101, 32, 118, 97, 108, 117, 101, 115, 32, 97, 114, 101, 32]⟩ from by rw [show L [] = [] from rfl, Ph.allowed_none]; rfl] at HA
  cases a with
  | none =>
    have hnil := nil_no 0 cap
    go_enter Try.func5, Try.ntmps5
    go_wp2_with (first
      | (go_at_call 11; refine (guard_walk _ 0 cap [] k w (HR.out _ _)).mono ?_; rintro e w' ⟨⟨b, rfl, -⟩, hw⟩; obtain rfl : w = w' := hw.symm; cases b)
      | (go_at_call 7; refine (bytes_walk _ 0 cap [] w (HR.out _ _)).mono ?_; rintro e w' ⟨⟨b, rfl, -⟩, hw⟩; obtain rfl : w = w' := hw.symm; cases b)
      | (go_at_call 12; refine (HA.out _ _ w).mono ?_; rintro e w' ⟨rfl, hw⟩))
    all_goals go_ret
    all_goals first
      | exact ⟨rfl, HB.out⟩
      | exact ⟨rfl, hw⟩
  | some p =>
    have hnil := nil_yes p 0 cap
    have hcp := copy_strs w p 0 cap [] (HR.out _ _)
    obtain ⟨Z, eZ⟩ : ∃ Z, sc (List.replicate 0 ⟨#[]⟩) = Z := ⟨_, rfl⟩
    rw [eZ] at hmk hcp
    obtain ⟨W, eW⟩ : ∃ W, w.alloc (.cells (sc []) 9) = W := ⟨_, rfl⟩
    rw [eW] at hcp
    have HW : Hid (Below w.heap.size w W) := by rw [← eW]; exact (Below.refl _ _).alloc (Nat.le_refl _) _
    clear eZ eW
    go_enter Try.func5, Try.ntmps5
    go_wp2_with (first
      | (go_at_call 11; refine (guard_walk _ 0 cap [] k w (HR.out _ _)).mono ?_; rintro e w' ⟨⟨b, rfl, -⟩, hw⟩; obtain rfl : w = w' := hw.symm; cases b)
      | (go_at_call 7; refine (bytes_walk _ 0 cap [] w (HR.out _ _)).mono ?_; rintro e w' ⟨⟨b, rfl, -⟩, hw⟩; obtain rfl : w = w' := hw.symm; cases b)
      | (go_at_call 12; refine (HA.out _ _ W).mono ?_; rintro e w' ⟨rfl, hw⟩))
    all_goals go_ret
    all_goals first
      | exact ⟨rfl, HB.out⟩
      | exact ⟨rfl, HW.out.trans (hw.mono HW.out.size)⟩

end Go.Proofs.Qxb6619237a
