/-
  The law at two values or more, the cut out of range. Own work for this seat.
-/
import Derived.Test.Qxb6619237aLaw
namespace Go.Proofs.Qxb6619237a
open Go.RowKit

set_option maxRecDepth 1000000 in
set_option maxHeartbeats 400000 in
theorem law_low (p : Addr) (n cap : Nat) (xs : List ByteArray) (k : Int) (w : World) (hrow : SRow w (some p) n xs) (hn : 2 ≤ n) (hk : k < 1) :
    Calls Try.prog 5 #[.slice (some p) n cap, .int .i64 k] w fun e w' => e = .returned (.bool true) ∧ Below w.heap.size w w' := by
  have HR : Hid (SRow w (some p) n xs) := hrow
  have HB : Hid (Below w.heap.size w w) := Below.refl _ _
  clear hrow
  have hn0 : ((n : Int) == 0) = false := by rw [beq_eq_false_iff_ne]; omega
  have hn1 : ((n : Int) == 1) = false := by rw [beq_eq_false_iff_ne]; omega
  by_cases hbig : (65536 : Int) < (n : Int)
  · go_enter Try.func5, Try.ntmps5
    go_wp2_with (first
      | (go_at_call 11; refine (guard_walk _ n cap xs k w HR.out).mono ?_; rintro e w' ⟨⟨b, rfl, -⟩, hw⟩; obtain rfl : w = w' := hw.symm; cases b))
    all_goals go_ret
    all_goals exact ⟨rfl, HB.out⟩
  have hmk := make_strs n (by omega)
  have hnil := nil_yes p n cap
  have hcp := copy_strs w p n cap xs HR.out
  obtain ⟨Z, eZ⟩ : ∃ Z, sc (List.replicate n ⟨#[]⟩) = Z := ⟨_, rfl⟩
  rw [eZ] at hmk hcp
  have hcpy := row_copied w n xs HR.out.1
  obtain ⟨W, eW⟩ : ∃ W, w.alloc (.cells (sc xs) 9) = W := ⟨_, rfl⟩
  rw [eW] at hcp hcpy
  have HW : Hid (Below w.heap.size w W) := by rw [← eW]; exact (Below.refl _ _).alloc (Nat.le_refl _) _
  have HC : Hid (SRow W (some ⟨w.heap.size, 0, none⟩) n xs) := hcpy
  clear eZ eW hcpy
  obtain ⟨R, eR⟩ : ∃ R, bs (Ph.allowedL (L xs)) = R := ⟨_, rfl⟩
  have ER : Hid (bs (Ph.allowedL (L xs)) = R) := eR
  clear eR
  have HAL : Hid (Ph.tot (L xs) ≤ 1048576 → Calls Try.prog 12 #[.slice (some ⟨w.heap.size, 0, none⟩) n n] W fun e w' => e = .returned (.string R) ∧ Below W.heap.size W w') := by
    intro h
    rw [← ER.out]
    exact allowed_walk _ n n xs W HC.out (Nat.le_refl _) h
  go_enter Try.func5, Try.ntmps5
  go_wp2_with (first
    | (go_at_call 11; refine (guard_walk _ n cap xs k w HR.out).mono ?_; rintro e w' ⟨⟨b, rfl, -⟩, hw⟩; obtain rfl : w = w' := hw.symm; cases b)
    | (go_at_call 7; refine (bytes_walk _ n cap xs w HR.out).mono ?_; rintro e w' ⟨⟨b, rfl, hb⟩, hw⟩; obtain rfl : w = w' := hw.symm; have HT : Hid (b = true → Ph.tot (L xs) ≤ 1048576) := hb; clear hb; cases b)
    | (go_at_call_of 12 (Value.slice (some ⟨w.heap.size, 0, none⟩) n n); refine (HAL.out (HT.out (by first | trivial | rfl))).mono ?_; rintro e w1 ⟨rfl, hw1⟩))
  all_goals go_ret
  all_goals first
    | exact ⟨rfl, HB.out⟩
    | exact ⟨rfl, HW.out.trans (hw1.mono HW.out.size)⟩

set_option maxRecDepth 1000000 in
set_option maxHeartbeats 400000 in
theorem law_high (p : Addr) (n cap : Nat) (xs : List ByteArray) (k : Int) (w : World) (hrow : SRow w (some p) n xs) (hn : 2 ≤ n) (hk1 : ¬ k < 1) (hk : (n : Int) - 1 < k) :
    Calls Try.prog 5 #[.slice (some p) n cap, .int .i64 k] w fun e w' => e = .returned (.bool true) ∧ Below w.heap.size w w' := by
  have HR : Hid (SRow w (some p) n xs) := hrow
  have HB : Hid (Below w.heap.size w w) := Below.refl _ _
  clear hrow
  have hn0 : ((n : Int) == 0) = false := by rw [beq_eq_false_iff_ne]; omega
  have hn1 : ((n : Int) == 1) = false := by rw [beq_eq_false_iff_ne]; omega
  by_cases hbig : (65536 : Int) < (n : Int)
  · go_enter Try.func5, Try.ntmps5
    go_wp2_with (first
      | (go_at_call 11; refine (guard_walk _ n cap xs k w HR.out).mono ?_; rintro e w' ⟨⟨b, rfl, -⟩, hw⟩; obtain rfl : w = w' := hw.symm; cases b))
    all_goals go_ret
    all_goals exact ⟨rfl, HB.out⟩
  have hmk := make_strs n (by omega)
  have hnil := nil_yes p n cap
  have hcp := copy_strs w p n cap xs HR.out
  obtain ⟨Z, eZ⟩ : ∃ Z, sc (List.replicate n ⟨#[]⟩) = Z := ⟨_, rfl⟩
  rw [eZ] at hmk hcp
  have hcpy := row_copied w n xs HR.out.1
  obtain ⟨W, eW⟩ : ∃ W, w.alloc (.cells (sc xs) 9) = W := ⟨_, rfl⟩
  rw [eW] at hcp hcpy
  have HW : Hid (Below w.heap.size w W) := by rw [← eW]; exact (Below.refl _ _).alloc (Nat.le_refl _) _
  have HC : Hid (SRow W (some ⟨w.heap.size, 0, none⟩) n xs) := hcpy
  clear eZ eW hcpy
  obtain ⟨R, eR⟩ : ∃ R, bs (Ph.allowedL (L xs)) = R := ⟨_, rfl⟩
  have ER : Hid (bs (Ph.allowedL (L xs)) = R) := eR
  clear eR
  have HAL : Hid (Ph.tot (L xs) ≤ 1048576 → Calls Try.prog 12 #[.slice (some ⟨w.heap.size, 0, none⟩) n n] W fun e w' => e = .returned (.string R) ∧ Below W.heap.size W w') := by
    intro h
    rw [← ER.out]
    exact allowed_walk _ n n xs W HC.out (Nat.le_refl _) h
  go_enter Try.func5, Try.ntmps5
  go_wp2_with (first
    | (go_at_call 11; refine (guard_walk _ n cap xs k w HR.out).mono ?_; rintro e w' ⟨⟨b, rfl, -⟩, hw⟩; obtain rfl : w = w' := hw.symm; cases b)
    | (go_at_call 7; refine (bytes_walk _ n cap xs w HR.out).mono ?_; rintro e w' ⟨⟨b, rfl, hb⟩, hw⟩; obtain rfl : w = w' := hw.symm; have HT : Hid (b = true → Ph.tot (L xs) ≤ 1048576) := hb; clear hb; cases b)
    | (go_at_call_of 12 (Value.slice (some ⟨w.heap.size, 0, none⟩) n n); refine (HAL.out (HT.out (by first | trivial | rfl))).mono ?_; rintro e w1 ⟨rfl, hw1⟩))
  all_goals go_ret
  all_goals first
    | exact ⟨rfl, HB.out⟩
    | exact ⟨rfl, HW.out.trans (hw1.mono HW.out.size)⟩

end Go.Proofs.Qxb6619237a
