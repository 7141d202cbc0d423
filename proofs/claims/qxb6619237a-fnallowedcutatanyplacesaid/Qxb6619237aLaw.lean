/-
  The law where its guards let by. Own work for this seat.
-/
import Derived.Test.Qxb6619237aCopy
namespace Go.Proofs.Qxb6619237a
open Go.RowKit

set_option maxRecDepth 1000000 in
theorem prefix_walk (t : ByteArray) (w : World) (hge : (15 : Int) ≤ (t.size : Int)) (hex : t.extract 0 15 = ⟨#[116, 104, 101, 32, 118, 97, 108, 117, 101, 115, 32, 97, 114, 101, 32]⟩) :
    Calls Try.prog 13 #[.string t, .string ⟨#[116, 104, 101, 32, 118, 97, 108, 117, 101, 115, 32, 97, 114, 101, 32]⟩] w fun e w' => e = .returned (.bool true) ∧ w' = w := by
  go_enter Try.func13, Try.ntmps13
  go_wp2
  go_ret
  exact ⟨rfl, rfl⟩

set_option maxRecDepth 1000000 in
set_option maxHeartbeats 400000 in
/-- the law at one value -/
theorem law_single (p : Addr) (cap : Nat) (x : ByteArray) (k : Int) (w : World) (hrow : SRow w (some p) 1 [x]) :
    Calls Try.prog 5 #[.slice (some p) 1 cap, .int .i64 k] w fun e w' => e = .returned (.bool true) ∧ Below w.heap.size w w' := by
  have HR : Hid (SRow w (some p) 1 [x]) := hrow
  have HB : Hid (Below w.heap.size w w) := Below.refl _ _
  clear hrow
  have hmk : ∀ w, (Instr.makeSlice 22 (.int .i64 1) (.int .i64 1)).run Try.prog w = .ok (.slice (some ⟨w.heap.size, 0, none⟩) 1 1) (w.alloc (.cells (sc (List.replicate 1 ⟨#[]⟩)) 9)) := make_strs 1 (by omega)
  have hnil := nil_yes p 1 cap
  have hcp := copy_strs w p 1 cap [x] HR.out
  obtain ⟨Z, eZ⟩ : ∃ Z, sc (List.replicate 1 ⟨#[]⟩) = Z := ⟨_, rfl⟩
  rw [eZ] at hmk hcp
  have hcpy := row_copied w 1 [x] rfl
  obtain ⟨W, eW⟩ : ∃ W, w.alloc (.cells (sc [x]) 9) = W := ⟨_, rfl⟩
  rw [eW] at hcp hcpy
  have HW : Hid (Below w.heap.size w W) := by rw [← eW]; exact (Below.refl _ _).alloc (Nat.le_refl _) _
  have HWs : Hid (w.heap.size < W.heap.size) := by rw [← eW]; show _ < _; simp
  have HC : Hid (SRow W (some ⟨w.heap.size, 0, none⟩) 1 [x]) := hcpy
  clear eZ eW hcpy
  obtain ⟨R, eR⟩ : ∃ R, (⟨#[116, 104, 101, 32, 111, 110, 101, 32, 118, 97, 108, 117, 101, 32, 105, 115, 32]⟩ : ByteArray) ++ x = R := ⟨_, rfl⟩
  have HE : Hid (bs (Ph.allowedL (L [x])) = R) := by
    show _ = _
    rw [← eR, show L [x] = [x.data.toList] from rfl, Ph.allowed_one, ← bs_app, bs_of]
    rfl
  have HX : Hid (∀ w1, Below W.heap.size W w1 → w1.cell? ⟨w.heap.size, 0, none⟩ = some (.string x)) := by
    intro w1 h1
    obtain ⟨b, o, e, hc⟩ := HC.out.2 0 (by simp)
    cases e
    rw [h1.cell (p := ⟨w.heap.size, 0, none⟩) HWs.out]
    exact hc
  have HAL : Hid (Ph.tot (L [x]) ≤ 1048576 → Calls Try.prog 12 #[.slice (some ⟨w.heap.size, 0, none⟩) 1 1] W fun e w' => e = .returned (.string R) ∧ Below W.heap.size W w') := by
    intro h
    rw [← HE.out]
    exact allowed_walk _ 1 1 [x] W HC.out (Nat.le_refl _) h
  have HS : Hid (Ph.tot (L [x]) ≤ 1048576 → ¬ (9223372036854775807 < 17 + x.size)) := by
    intro h
    simp only [L, List.map_cons, List.map_nil, Ph.tot, size_data] at h
    omega
  go_enter Try.func5, Try.ntmps5
  go_wp2_with (first
    | (go_at_call 11; refine (guard_walk _ 1 cap [x] k w HR.out).mono ?_; rintro e w' ⟨⟨b, rfl, -⟩, hw⟩; obtain rfl : w = w' := hw.symm; cases b)
    | (go_at_call 7; refine (bytes_walk _ 1 cap [x] w HR.out).mono ?_; rintro e w' ⟨⟨b, rfl, hb⟩, hw⟩; obtain rfl : w = w' := hw.symm; have HT : Hid (b = true → Ph.tot (L [x]) ≤ 1048576) := hb; clear hb; cases b)
    | (go_at_call 12; refine (HAL.out (HT.out (by first | trivial | rfl))).mono ?_; rintro e w1 ⟨rfl, hw1⟩; have hx := HX.out w1 hw1; have hs := HS.out (HT.out (by first | trivial | rfl))))
  all_goals go_ret
  all_goals first
    | exact ⟨rfl, HB.out⟩
    | exact ⟨rfl, HW.out.trans (hw1.mono HW.out.size)⟩

end Go.Proofs.Qxb6619237a
