/-
  The third law's walk. Own work for this seat.
-/
import Derived.Test.Qxb6618041aDoorLaws2
namespace Go.Proofs.Qxb6618041aDoor
open Go.RowKit

set_option maxRecDepth 100000 in
set_option maxHeartbeats 800000 in
theorem law5 (n : Nat) (s : ByteArray) (w : World) (hn : n ≤ Jn.M64) (hs : s.size ≤ maxLen) (he : Errs w) :
    Calls Tryd.prog 5 #[.int .u64 (n : Int), .string s] w fun e w' => e = .returned (.bool true) ∧ Below w.heap.size w w' := by
  unfold maxLen at hs
  by_cases hlen : (1048576 : Int) < (s.size : Int)
  · clear he
    go_enter Tryd.func5, Tryd.ntmps5
    go_wp2
    go_ret
    exact ⟨rfl, Below.refl _ _⟩
  have HE : Hid (Errs w) := he
  have hs' : s.size ≤ 1048600 := by omega
  have hnn : ((n : Int) != (n : Int)) = false := by simp
  clear he
  obtain ⟨r, er⟩ : ∃ r : ByteArray, (⟨(Jn.nm n false).toArray⟩ : ByteArray) = r := ⟨_, rfl⟩
  obtain ⟨rd, erd⟩ : ∃ rd : ByteArray, (⟨(Jn.nm n true).toArray⟩ : ByteArray) = rd := ⟨_, rfl⟩
  have hname := fun w => name_walk n false w hn
  have hz1 := fun w => zz_nm n false w hn
  have hrs := nm_size n false
  have hcat := dot_nm n
  rw [er] at hname hz1 hrs hcat
  rw [erd] at hcat
  have hrs1 : (1 : Int) + (r.size : Int) ≤ 9223372036854775807 := by omega
  have H1 : Hid (∀ w, Calls Tryd.prog 8 #[.int .u64 (n : Int), .bool false] w fun e w' => e = .returned (.string r) ∧ Below w.heap.size w w') := hname
  have H2 : Hid (∀ w, Errs w → Calls Tryd.prog 7 #[.string r] w fun e w' => e = .returned (.tuple #[.int .u64 (n : Int), .bool true, .bool (!false)]) ∧ Below w.heap.size w w') := hz1
  have hn1 := fun w => zznumber_walk s w hs'
  obtain ⟨u, ok, b, eR⟩ : ∃ u ok b, Jn.num s.data.toList = (u, ok, b) := ⟨_, _, _, rfl⟩
  rw [eR] at hn1
  have H4 : Hid (∀ w, Errs w → Calls Tryd.prog 7 #[.string s] w fun e w' => e = .returned (.tuple #[.int .u64 (u : Int), .bool ok, .bool b]) ∧ Below w.heap.size w w') := hn1
  clear hname hz1 hn1
  cases ok with
  | false =>
    clear er erd eR hn
    go_enter Tryd.func5, Tryd.ntmps5
    go_wp2_with (first
      | (go_at_call 10; go_in)
      | (go_at_call 8; refine (H1.out _).mono ?_; rintro e w1 ⟨rfl, hb1⟩))
    refine (H2.out _ (HE.out.below hb1)).mono ?_
    rintro e w2 ⟨rfl, hb2⟩
    have hb12 : Below w.heap.size w w2 := hb1.trans (hb2.mono hb1.size)
    clear hb1 hb2
    go_wp2_with (fail)
    refine (H4.out _ (HE.out.below hb12)).mono ?_
    rintro e w4 ⟨rfl, hb4⟩
    have hb14 : Below w.heap.size w w4 := hb12.trans (hb4.mono hb12.size)
    clear hb12 hb4
    go_wp2_with (fail)
    go_ret
    exact ⟨rfl, hb14⟩
  | true =>
    obtain ⟨hnm, hu⟩ := Jn.nm_num _ _ _ eR
    cases b with
    | true =>
      have hlt : Op.bytesLess s.toList r.toList = decide ((u : Int) < (n : Int)) := by
        rw [Lib.toList_data, Lib.toList_data, hnm, ← er]
        show Op.bytesLess (Jn.nm u false) (Jn.nm n false) = _
        rw [Jn.nm_less u n false hu hn]
        exact decide_eq_decide.2 (by omega)
      have heq : (s.toList == r.toList) = ((u : Int) == (n : Int)) := by
        rw [Lib.toList_data, Lib.toList_data, hnm, ← er]
        show (Jn.nm u false == Jn.nm n false) = _
        rw [Bool.eq_iff_iff, beq_iff_eq, beq_iff_eq, Jn.nm_eq u n false hu hn]
        omega
      clear er erd eR hn hnm hu
      rcases Int.lt_trichotomy (u : Int) (n : Int) with h1 | h1 | h1
      · have d1 : decide ((u : Int) < (n : Int)) = true := decide_eq_true h1
        have d2 : ((u : Int) == (n : Int)) = false := by rw [beq_eq_false_iff_ne]; omega
        rw [d1] at hlt
        rw [d2] at heq
        go_enter Tryd.func5, Tryd.ntmps5
        go_wp2_with (first
          | (go_at_call 10; go_in)
          | (go_at_call 8; refine (H1.out _).mono ?_; rintro e w1 ⟨rfl, hb1⟩))
        refine (H2.out _ (HE.out.below hb1)).mono ?_
        rintro e w2 ⟨rfl, hb2⟩
        have hb12 : Below w.heap.size w w2 := hb1.trans (hb2.mono hb1.size)
        clear hb1 hb2
        go_wp2_with (fail)
        refine (H4.out _ (HE.out.below hb12)).mono ?_
        rintro e w4 ⟨rfl, hb4⟩
        have hb14 : Below w.heap.size w w4 := hb12.trans (hb4.mono hb12.size)
        clear hb12 hb4
        go_wp2_with (fail)
        go_ret
        exact ⟨rfl, hb14⟩
      · have d1 : decide ((u : Int) < (n : Int)) = false := decide_eq_false (by omega)
        have d2 : ((u : Int) == (n : Int)) = true := by rw [beq_iff_eq]; exact h1
        have h1' : ¬ (u : Int) < (n : Int) := by omega
        rw [d1] at hlt
        rw [d2] at heq
        clear h1
        go_enter Tryd.func5, Tryd.ntmps5
        go_wp2_with (first
          | (go_at_call 10; go_in)
          | (go_at_call 8; refine (H1.out _).mono ?_; rintro e w1 ⟨rfl, hb1⟩))
        refine (H2.out _ (HE.out.below hb1)).mono ?_
        rintro e w2 ⟨rfl, hb2⟩
        have hb12 : Below w.heap.size w w2 := hb1.trans (hb2.mono hb1.size)
        clear hb1 hb2
        go_wp2_with (fail)
        refine (H4.out _ (HE.out.below hb12)).mono ?_
        rintro e w4 ⟨rfl, hb4⟩
        have hb14 : Below w.heap.size w w4 := hb12.trans (hb4.mono hb12.size)
        clear hb12 hb4
        go_wp2_with (fail)
        go_ret
        exact ⟨rfl, hb14⟩
      · have d1 : decide ((u : Int) < (n : Int)) = false := decide_eq_false (by omega)
        have d2 : ((u : Int) == (n : Int)) = false := by rw [beq_eq_false_iff_ne]; omega
        have h1' : ¬ (u : Int) < (n : Int) := by omega
        rw [d1] at hlt
        rw [d2] at heq
        go_enter Tryd.func5, Tryd.ntmps5
        go_wp2_with (first
          | (go_at_call 10; go_in)
          | (go_at_call 8; refine (H1.out _).mono ?_; rintro e w1 ⟨rfl, hb1⟩))
        refine (H2.out _ (HE.out.below hb1)).mono ?_
        rintro e w2 ⟨rfl, hb2⟩
        have hb12 : Below w.heap.size w w2 := hb1.trans (hb2.mono hb1.size)
        clear hb1 hb2
        go_wp2_with (fail)
        refine (H4.out _ (HE.out.below hb12)).mono ?_
        rintro e w4 ⟨rfl, hb4⟩
        have hb14 : Below w.heap.size w w4 := hb12.trans (hb4.mono hb12.size)
        clear hb12 hb4
        go_wp2_with (fail)
        go_ret
        exact ⟨rfl, hb14⟩
    | false =>
      have hlt : Op.bytesLess s.toList rd.toList = decide ((u : Int) < (n : Int)) := by
        rw [Lib.toList_data, Lib.toList_data, hnm, ← erd]
        show Op.bytesLess (Jn.nm u true) (Jn.nm n true) = _
        rw [Jn.nm_less u n true hu hn]
        exact decide_eq_decide.2 (by omega)
      have heq : (s.toList == rd.toList) = ((u : Int) == (n : Int)) := by
        rw [Lib.toList_data, Lib.toList_data, hnm, ← erd]
        show (Jn.nm u true == Jn.nm n true) = _
        rw [Bool.eq_iff_iff, beq_iff_eq, beq_iff_eq, Jn.nm_eq u n true hu hn]
        omega
      clear er erd eR hn hnm hu
      rcases Int.lt_trichotomy (u : Int) (n : Int) with h1 | h1 | h1
      · have d1 : decide ((u : Int) < (n : Int)) = true := decide_eq_true h1
        have d2 : ((u : Int) == (n : Int)) = false := by rw [beq_eq_false_iff_ne]; omega
        rw [d1] at hlt
        rw [d2] at heq
        go_enter Tryd.func5, Tryd.ntmps5
        go_wp2_with (first
          | (go_at_call 10; go_in)
          | (go_at_call 8; refine (H1.out _).mono ?_; rintro e w1 ⟨rfl, hb1⟩))
        refine (H2.out _ (HE.out.below hb1)).mono ?_
        rintro e w2 ⟨rfl, hb2⟩
        have hb12 : Below w.heap.size w w2 := hb1.trans (hb2.mono hb1.size)
        clear hb1 hb2
        go_wp2_with (fail)
        refine (H4.out _ (HE.out.below hb12)).mono ?_
        rintro e w4 ⟨rfl, hb4⟩
        have hb14 : Below w.heap.size w w4 := hb12.trans (hb4.mono hb12.size)
        clear hb12 hb4
        go_wp2_with (fail)
        go_ret
        exact ⟨rfl, hb14⟩
      · have d1 : decide ((u : Int) < (n : Int)) = false := decide_eq_false (by omega)
        have d2 : ((u : Int) == (n : Int)) = true := by rw [beq_iff_eq]; exact h1
        have h1' : ¬ (u : Int) < (n : Int) := by omega
        rw [d1] at hlt
        rw [d2] at heq
        clear h1
        go_enter Tryd.func5, Tryd.ntmps5
        go_wp2_with (first
          | (go_at_call 10; go_in)
          | (go_at_call 8; refine (H1.out _).mono ?_; rintro e w1 ⟨rfl, hb1⟩))
        refine (H2.out _ (HE.out.below hb1)).mono ?_
        rintro e w2 ⟨rfl, hb2⟩
        have hb12 : Below w.heap.size w w2 := hb1.trans (hb2.mono hb1.size)
        clear hb1 hb2
        go_wp2_with (fail)
        refine (H4.out _ (HE.out.below hb12)).mono ?_
        rintro e w4 ⟨rfl, hb4⟩
        have hb14 : Below w.heap.size w w4 := hb12.trans (hb4.mono hb12.size)
        clear hb12 hb4
        go_wp2_with (fail)
        go_ret
        exact ⟨rfl, hb14⟩
      · have d1 : decide ((u : Int) < (n : Int)) = false := decide_eq_false (by omega)
        have d2 : ((u : Int) == (n : Int)) = false := by rw [beq_eq_false_iff_ne]; omega
        have h1' : ¬ (u : Int) < (n : Int) := by omega
        rw [d1] at hlt
        rw [d2] at heq
        go_enter Tryd.func5, Tryd.ntmps5
        go_wp2_with (first
          | (go_at_call 10; go_in)
          | (go_at_call 8; refine (H1.out _).mono ?_; rintro e w1 ⟨rfl, hb1⟩))
        refine (H2.out _ (HE.out.below hb1)).mono ?_
        rintro e w2 ⟨rfl, hb2⟩
        have hb12 : Below w.heap.size w w2 := hb1.trans (hb2.mono hb1.size)
        clear hb1 hb2
        go_wp2_with (fail)
        refine (H4.out _ (HE.out.below hb12)).mono ?_
        rintro e w4 ⟨rfl, hb4⟩
        have hb14 : Below w.heap.size w w4 := hb12.trans (hb4.mono hb12.size)
        clear hb12 hb4
        go_wp2_with (fail)
        go_ret
        exact ⟨rfl, hb14⟩

end Go.Proofs.Qxb6618041aDoor
