/-
  The law at two values or more, the tail two values or more. Own work for this seat.
-/
import Derived.Test.Qxb6619237aInOne
namespace Go.Proofs.Qxb6619237a
open Go.RowKit

set_option maxRecDepth 1000000 in
set_option maxHeartbeats 400000 in
theorem law_many (p : Addr) (n cap k m : Nat) (xs : List ByteArray) (w : World) (hrow : SRow w (some p) n xs) (hk : k + m = n) (hk9 : 1 ≤ k) (hm9 : 2 ≤ m) :
    Calls Try.prog 5 #[.slice (some p) n cap, .int .i64 (k : Int)] w fun e w' => e = .returned (.bool true) ∧ Below w.heap.size w w' := by
  have hk0 : ¬ (k : Int) < 1 := by omega
  have hk1 : ¬ (n : Int) - 1 < (k : Int) := by omega
  have hk2 : (k : Int) ≤ (n : Int) := by omega
  have hk3 : k ≤ n := by omega
  have hm : n - k = m := by omega
  have hm' : (n : Int) - (k : Int) = (m : Int) := by omega
  have hm1 : ((m : Int) == 1) = false := by rw [beq_eq_false_iff_ne]; omega
  have hn : 2 ≤ n := by omega
  obtain ⟨ys, ey⟩ : ∃ ys, xs.drop k = ys := ⟨_, rfl⟩
  have EX : Hid (xs = xs.take k ++ ys) := by
    show _ = _
    rw [← ey, List.take_append_drop]
  have EY : Hid (xs.drop k = ys) := ey
  have HKL : Hid ((xs.take k).length = k) := by
    show _ = _
    rw [List.length_take, hrow.1]
    omega
  have HYL : Hid (ys.length = m) := by
    show _ = _
    rw [← ey, List.length_drop, hrow.1]
    omega
  have HK9 : Hid (1 ≤ k) := hk9
  have HM9 : Hid (2 ≤ m) := hm9
  clear ey hk hk9 hm9
  have HR : Hid (SRow w (some p) n xs) := hrow
  have HB : Hid (Below w.heap.size w w) := Below.refl _ _
  clear hrow
  have hn0 : ((n : Int) == 0) = false := by rw [beq_eq_false_iff_ne]; omega
  have hn1 : ((n : Int) == 1) = false := by rw [beq_eq_false_iff_ne]; omega
  by_cases hbig : (65536 : Int) < (n : Int)
  · go_enter Try.func5, Try.ntmps5
    go_wp2_with (first
      | (go_at_call 11; refine (guard_walk _ n cap xs _ w HR.out).mono ?_; rintro e w' ⟨⟨b, rfl, -⟩, hw⟩; obtain rfl : w = w' := hw.symm; cases b))
    all_goals go_ret
    all_goals exact ⟨rfl, HB.out⟩
  have hmk := make_strs n (by omega)
  have hnil := nil_yes p n cap
  have hcp := copy_strs w p n cap xs HR.out
  obtain ⟨Z, eZ⟩ : ∃ Z, sc (List.replicate n ⟨#[]⟩) = Z := ⟨_, rfl⟩
  rw [eZ] at hmk hcp
  have hcpy := row_copied w n xs HR.out.1
  obtain ⟨W, eW⟩ : ∃ W, w.alloc (.cells (sc xs) 9) = W := ⟨_, rfl⟩
  rw [eW] at hcp hcpy
  have HW : Hid (Below w.heap.size w W) := by rw [← eW]; exact (Below.refl _ _).alloc (Nat.le_refl _) _
  have HWs : Hid (w.heap.size < W.heap.size) := by rw [← eW]; show _ < _; simp
  have HC : Hid (SRow W (some ⟨w.heap.size, 0, none⟩) n xs) := hcpy
  clear eZ eW hcpy
  obtain ⟨R, eR⟩ : ∃ R, bs (Ph.allowedL (L xs)) = R := ⟨_, rfl⟩
  have ER : Hid (bs (Ph.allowedL (L xs)) = R) := eR
  clear eR
  have HAL : Hid (Ph.tot (L xs) ≤ 1048576 → Calls Try.prog 12 #[.slice (some ⟨w.heap.size, 0, none⟩) n n] W fun e w' => e = .returned (.string R) ∧ Below W.heap.size W w') := by
    intro h
    rw [← ER.out]
    exact allowed_walk _ n n xs W HC.out (Nat.le_refl _) h
  have HA : Hid (∀ w1, Below W.heap.size W w1 → SRow w1 (some ⟨w.heap.size, 0, none⟩) k (xs.take k)) := fun w1 h1 => (HC.out.below h1).take k hk3
  have HY : Hid (∀ w1, Below W.heap.size W w1 → SRow w1 (some ⟨w.heap.size, k, none⟩) m ys) := fun w1 h1 => by
    have := (HC.out.below h1).drop k
    rw [EY.out, hm, Nat.zero_add] at this
    exact this
  obtain ⟨J, eJ⟩ : ∃ J, Ph.jl (L ys) Ph.andW = J := ⟨_, rfl⟩
  obtain ⟨U, eU⟩ : ∃ U, bs J = U := ⟨_, rfl⟩
  obtain ⟨T, eT⟩ : ∃ T, bs (Ph.many ++ J) = T := ⟨_, rfl⟩
  obtain ⟨C, eC⟩ : ∃ C, bs (Ph.cj (L (xs.take k))) = C := ⟨_, rfl⟩
  obtain ⟨D1, eD1⟩ : ∃ D1, (⟨#[116, 104, 101, 32, 118, 97, 108, 117, 101, 115, 32, 97, 114, 101, 32]⟩ : ByteArray) ++ C = D1 := ⟨_, rfl⟩
  obtain ⟨D2, eD2⟩ : ∃ D2, D1 ++ (⟨#[44, 32]⟩ : ByteArray) = D2 := ⟨_, rfl⟩
  have hLx : L xs = L (xs.take k) ++ L ys := (congrArg L EX.out).trans (by simp [L])
  have hcut := Ph.cut_many (L (xs.take k)) (L ys) (by
      intro e
      have e2 := congrArg List.length e
      rw [L_length, HKL.out, List.length_nil] at e2
      have := HK9.out
      omega) (by rw [L_length, HYL.out]; exact HM9.out)
  have eR : D2 ++ U = R := by
    rw [← ER.out, hLx, hcut.1, eJ, ← eD2, ← eD1, ← eC, ← eU, ← bs_app, ← bs_app, ← bs_app]
    rfl
  have ET : Hid (bs (Ph.allowedL (L ys)) = T) := by
    show _ = _
    rw [← eT, hcut.2, eJ]
  have hTs : T.size = 15 + J.length := by rw [← eT, bs_size, List.length_append]; rfl
  have hUs : U.size = J.length := by rw [← eU, bs_size]
  have hex : T.extract 0 15 = ⟨#[116, 104, 101, 32, 118, 97, 108, 117, 101, 115, 32, 97, 114, 101, 32]⟩ := by
    rw [← eT]
    apply ByteArray.ext
    simp [bs, ByteArray.data_extract, Ph.many]
  have heU : T.extract 15 T.size = U := by
    rw [hTs, ← eT, ← eU]
    apply ByteArray.ext
    simp [bs, ByteArray.data_extract, Ph.many]
  have hge : (15 : Int) ≤ (T.size : Int) := by omega
  have hJL : J.length ≤ Ph.tot (L ys) + 8 := by rw [← eJ]; exact jl_le _
  have HS : Hid (Ph.tot (L xs) ≤ 1048576 → ¬ (9223372036854775807 < 15 + C.size) ∧ ¬ (9223372036854775807 < D1.size + 2) ∧ ¬ (9223372036854775807 < D2.size + U.size) ∧ (T.size : Int) ≤ 9223372036854775807) := by
    intro h
    rw [hLx, Ph.tot_app] at h
    have h1 := Ph.cj_le (L (xs.take k))
    have h2 : C.size = (Ph.cj (L (xs.take k))).length := by rw [← eC, bs_size]
    have h3 : D1.size = 15 + C.size := by rw [← eD1, ByteArray.size_append]; rfl
    have h4 : D2.size = D1.size + 2 := by rw [← eD2, ByteArray.size_append]; rfl
    refine ⟨?_, ?_, ?_, ?_⟩ <;> omega
  have HTA : Hid (Ph.tot (L xs) ≤ 1048576 → ∀ w1, Below W.heap.size W w1 → Calls Try.prog 12 #[.slice (some ⟨w.heap.size, k, none⟩) m m] w1 fun e w' => e = .returned (.string T) ∧ Below w1.heap.size w1 w') := by
    intro h w1 h1
    rw [← ET.out]
    refine allowed_walk _ m m ys w1 (HY.out w1 h1) (Nat.le_refl _) ?_
    rw [hLx, Ph.tot_app] at h
    omega
  have HCJ : Hid (Ph.tot (L xs) ≤ 1048576 → ∀ w1, Below W.heap.size W w1 → Calls Try.prog 9 #[.slice (some ⟨w.heap.size, 0, none⟩) k n] w1 fun e w' => e = .returned (.string C) ∧ w' = w1) := by
    intro h w1 h1
    rw [← eC]
    refine comma_walk _ k n (xs.take k) w1 (HA.out w1 h1) ?_
    rw [hLx, Ph.tot_app] at h
    omega
  have HPF : Hid (∀ w1, Calls Try.prog 13 #[.string T, .string ⟨#[116, 104, 101, 32, 118, 97, 108, 117, 101, 115, 32, 97, 114, 101, 32]⟩] w1 fun e w' => e = .returned (.bool true) ∧ w' = w1) := fun w1 => prefix_walk T w1 hge hex
  clear hcut hTs hUs hJL hex eJ eT eU eC hn
  clear hLx
  go_enter Try.func5, Try.ntmps5
  go_wp2_with (first
    | (go_at_call 11; refine (guard_walk _ n cap xs _ w HR.out).mono ?_; rintro e w' ⟨⟨b, rfl, -⟩, hw⟩; obtain rfl : w = w' := hw.symm; cases b)
    | (go_at_call 7; refine (bytes_walk _ n cap xs w HR.out).mono ?_; rintro e w' ⟨⟨b, rfl, hb⟩, hw⟩; obtain rfl : w = w' := hw.symm; have HT : Hid (b = true → Ph.tot (L xs) ≤ 1048576) := hb; clear hb; cases b)
    | (go_at_call_of 12 (Value.slice (some ⟨w.heap.size, 0, none⟩) n n); refine (HAL.out (HT.out (by first | trivial | rfl))).mono ?_; rintro e w1 ⟨rfl, hw1⟩)
    | (go_at_call_of 12 (Value.slice (some ⟨w.heap.size, k, none⟩) m m); refine (HTA.out (HT.out (by first | trivial | rfl)) w1 hw1).mono ?_; rintro e w2 ⟨rfl, hw2⟩; have hb2 : Below W.heap.size W w2 := hw1.trans (hw2.mono hw1.size); obtain ⟨s1, s2, s3, s4⟩ := HS.out (HT.out (by first | trivial | rfl)); clear hw2)
    | (go_at_call 13; refine (HPF.out w2).mono ?_; rintro e w3 ⟨rfl, hw3⟩; obtain rfl : w2 = w3 := hw3.symm))
  rotate_left 2
  · go_quiet ((go_at_call 9; exact Calls.quiet_of_same (HCJ.out (HT.out (by first | trivial | rfl)) _ (below_drewN hb2 _))))
    go_wp2
    go_ret
    exact ⟨rfl, below_drewN (HW.out.trans (hb2.mono HW.out.size)) _⟩
  all_goals go_ret
  all_goals exact ⟨rfl, HB.out⟩

end Go.Proofs.Qxb6619237a
