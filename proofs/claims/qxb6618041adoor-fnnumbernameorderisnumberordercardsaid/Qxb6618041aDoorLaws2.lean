/-
  The second and the third law's walks. Own work for this seat.
-/
import Derived.Test.Qxb6618041aDoorLaws
import Derived.Lib.IndexBytes
namespace Go.Proofs.Qxb6618041aDoor
open Go.RowKit

theorem dot_cat (s : ByteArray) : ((⟨#[46]⟩ : ByteArray) ++ s).data.toList = 46 :: s.data.toList := by
  simp
theorem dot_nm (n : Nat) : (⟨#[46]⟩ : ByteArray) ++ ⟨(Jn.nm n false).toArray⟩ = ⟨(Jn.nm n true).toArray⟩ := by
  rw [← Jn.nm_dot]
  exact bytes_eq (dot_cat _)
theorem nm_size (n : Nat) (d : Bool) : (⟨(Jn.nm n d).toArray⟩ : ByteArray).size ≤ 29 := by
  show (Jn.nm n d).toArray.size ≤ _
  rw [List.size_toArray]
  exact nm_len n d

/-- the first byte, and whether it is a dot -/
theorem first_byte (s : ByteArray) (h : 0 < s.size) : Lib.hasPrefix s.data.toList Jn.dot = ((46 : UInt8) == s[0]'h) := by
  have e := Lib.data_getElem? s 0 h
  cases hl : s.data.toList with
  | nil => rw [hl] at e; simp at e
  | cons c r =>
    rw [hl] at e
    rw [Jn.hasPrefix_dot_cons]
    have : c = s[0]'h := by simpa using e
    rw [this]
theorem no_byte (s : ByteArray) (h : s.size = 0) : Lib.hasPrefix s.data.toList Jn.dot = false := by
  have : s.data.toList = [] := List.length_eq_zero_iff.1 (by rw [← Lib.size_eq]; exact h)
  rw [this]
  rfl

set_option maxRecDepth 100000 in
set_option maxHeartbeats 800000 in
theorem law4 (n : Nat) (s : ByteArray) (w : World) (hn : n ≤ Jn.M64) (hs : s.size ≤ maxLen) (he : Errs w) :
    Calls Tryd.prog 4 #[.int .u64 (n : Int), .string s] w fun e w' => e = .returned (.bool true) ∧ Below w.heap.size w w' := by
  unfold maxLen at hs
  by_cases hlen : (1048576 : Int) < (s.size : Int)
  · clear he
    go_enter Tryd.func4, Tryd.ntmps4
    go_wp2
    go_ret
    exact ⟨rfl, Below.refl _ _⟩
  have HE : Hid (Errs w) := he
  have hs' : s.size ≤ 1048600 := by omega
  have hnn : ((n : Int) != (n : Int)) = false := by simp
  clear he
  -- the names under names
  obtain ⟨r, er⟩ : ∃ r : ByteArray, (⟨(Jn.nm n false).toArray⟩ : ByteArray) = r := ⟨_, rfl⟩
  obtain ⟨rd, erd⟩ : ∃ rd : ByteArray, (⟨(Jn.nm n true).toArray⟩ : ByteArray) = rd := ⟨_, rfl⟩
  have hname := fun w => name_walk n false w hn
  have hz1 := fun w => zz_nm n false w hn
  have hz2 := fun w => zz_nm n true w hn
  have hrs := nm_size n false
  have hcat := dot_nm n
  rw [er] at hname hz1 hrs hcat
  rw [erd] at hz2 hcat
  have hrs1 : (1 : Int) + (r.size : Int) ≤ 9223372036854775807 := by omega
  have H1 : Hid (∀ w, Calls Tryd.prog 8 #[.int .u64 (n : Int), .bool false] w fun e w' => e = .returned (.string r) ∧ Below w.heap.size w w') := hname
  have H2 : Hid (∀ w, Errs w → Calls Tryd.prog 7 #[.string r] w fun e w' => e = .returned (.tuple #[.int .u64 (n : Int), .bool true, .bool (!false)]) ∧ Below w.heap.size w w') := hz1
  have H3 : Hid (∀ w, Errs w → Calls Tryd.prog 7 #[.string rd] w fun e w' => e = .returned (.tuple #[.int .u64 (n : Int), .bool true, .bool (!true)]) ∧ Below w.heap.size w w') := hz2
  clear er erd hname hz1 hz2 hn
  obtain ⟨sd, esd⟩ : ∃ sd : ByteArray, (⟨#[46]⟩ : ByteArray) ++ s = sd := ⟨_, rfl⟩
  have hsdl : sd.data.toList = 46 :: s.data.toList := by rw [← esd]; exact dot_cat s
  have hsds : sd.size ≤ 1048600 := by rw [Lib.size_eq, hsdl, List.length_cons, ← Lib.size_eq]; omega
  have hss1 : (1 : Int) + (s.size : Int) ≤ 9223372036854775807 := by omega
  -- what 'number' makes of the two
  have hn1 := fun w => zznumber_walk s w hs'
  have hn2 := fun w => zznumber_walk sd w hsds
  rw [hsdl] at hn2
  obtain ⟨u, ok, b, eR⟩ : ∃ u ok b, Jn.num s.data.toList = (u, ok, b) := ⟨_, _, _, rfl⟩
  rw [eR] at hn1
  have H4 : Hid (∀ w, Errs w → Calls Tryd.prog 7 #[.string s] w fun e w' => e = .returned (.tuple #[.int .u64 (u : Int), .bool ok, .bool b]) ∧ Below w.heap.size w w') := hn1
  clear hn1 hsdl
  by_cases hpre : Lib.hasPrefix s.data.toList Jn.dot = true
  · rw [Jn.num_dot_dot hpre] at hn2
    have H5 : Hid (∀ w, Errs w → Calls Tryd.prog 7 #[.string sd] w fun e w' => e = .returned (.tuple #[.int .u64 ((0 : Nat) : Int), .bool false, .bool false]) ∧ Below w.heap.size w w') := hn2
    clear hn2 eR
    have hpos : 0 < s.size := by
      apply Nat.pos_of_ne_zero
      intro e
      rw [no_byte s e] at hpre
      cases hpre
    rw [first_byte s hpos] at hpre
    obtain ⟨c, hc⟩ : ∃ c, s[0]'hpos = c := ⟨_, rfl⟩
    rw [hc] at hpre
    have hc46 : ((c.toNat : Int) == 46) = true := by
      obtain rfl : 46 = c := by simpa using hpre
      rfl
    have hposI : (0 : Int) < (s.size : Int) := by omega
    clear hpre
    go_enter Tryd.func4, Tryd.ntmps4
    go_wp2_with (first
      | (go_at_call 9; go_in)
      | (go_at_call 8; refine (H1.out _).mono ?_; rintro e w1 ⟨rfl, hb1⟩))
    refine (H2.out _ (HE.out.below hb1)).mono ?_
    rintro e w2 ⟨rfl, hb2⟩
    have hb12 : Below w.heap.size w w2 := hb1.trans (hb2.mono hb1.size)
    clear hb1 hb2
    go_wp2_with (fail)
    refine (H3.out _ (HE.out.below hb12)).mono ?_
    rintro e w3 ⟨rfl, hb3⟩
    have hb13 : Below w.heap.size w w3 := hb12.trans (hb3.mono hb12.size)
    clear hb12 hb3
    go_wp2_with (fail)
    refine (H4.out _ (HE.out.below hb13)).mono ?_
    rintro e w4 ⟨rfl, hb4⟩
    have hb14 : Below w.heap.size w w4 := hb13.trans (hb4.mono hb13.size)
    clear hb13 hb4
    go_wp2_with (fail)
    refine (H5.out _ (HE.out.below hb14)).mono ?_
    rintro e w5 ⟨rfl, hb5⟩
    have hb15 : Below w.heap.size w w5 := hb14.trans (hb5.mono hb14.size)
    clear hb14 hb5
    go_wp2_with (fail)
    go_ret
    exact ⟨rfl, hb15⟩
  · have hpre' : Lib.hasPrefix s.data.toList Jn.dot = false := by simpa using hpre
    obtain ⟨f1, f2, f3, f4⟩ := Jn.num_dot_none hpre'
    rw [eR] at f1 f2 f4
    have eR2 : Jn.num (46 :: s.data.toList) = (u, ok, false) := Prod.ext f1 (Prod.ext f2 f3)
    rw [eR2] at hn2
    have H5 : Hid (∀ w, Errs w → Calls Tryd.prog 7 #[.string sd] w fun e w' => e = .returned (.tuple #[.int .u64 (u : Int), .bool ok, .bool false]) ∧ Below w.heap.size w w') := hn2
    have huu : ((u : Int) != (u : Int)) = false := by simp
    have hok : ok = true → b = true := f4
    clear hn2 eR eR2 f1 f2 f3 f4 hpre
    by_cases hpos : 0 < s.size
    · rw [first_byte s hpos] at hpre'
      obtain ⟨c, hc⟩ : ∃ c, s[0]'hpos = c := ⟨_, rfl⟩
      rw [hc] at hpre'
      have hc46 : ((c.toNat : Int) == 46) = false := by
        rw [beq_eq_false_iff_ne] at hpre' ⊢
        intro e
        apply hpre'
        apply UInt8.toNat_inj.1
        have : c.toNat = 46 := by omega
        rw [this]
        rfl
      have hposI : (0 : Int) < (s.size : Int) := by omega
      clear hpre'
      cases ok with
      | false =>
        clear hok
        go_enter Tryd.func4, Tryd.ntmps4
        go_wp2_with (first
          | (go_at_call 9; go_in)
          | (go_at_call 8; refine (H1.out _).mono ?_; rintro e w1 ⟨rfl, hb1⟩))
        refine (H2.out _ (HE.out.below hb1)).mono ?_
        rintro e w2 ⟨rfl, hb2⟩
        have hb12 : Below w.heap.size w w2 := hb1.trans (hb2.mono hb1.size)
        clear hb1 hb2
        go_wp2_with (fail)
        refine (H3.out _ (HE.out.below hb12)).mono ?_
        rintro e w3 ⟨rfl, hb3⟩
        have hb13 : Below w.heap.size w w3 := hb12.trans (hb3.mono hb12.size)
        clear hb12 hb3
        go_wp2_with (fail)
        refine (H4.out _ (HE.out.below hb13)).mono ?_
        rintro e w4 ⟨rfl, hb4⟩
        have hb14 : Below w.heap.size w w4 := hb13.trans (hb4.mono hb13.size)
        clear hb13 hb4
        go_wp2_with (fail)
        refine (H5.out _ (HE.out.below hb14)).mono ?_
        rintro e w5 ⟨rfl, hb5⟩
        have hb15 : Below w.heap.size w w5 := hb14.trans (hb5.mono hb14.size)
        clear hb14 hb5
        go_wp2_with (fail)
        go_ret
        exact ⟨rfl, hb15⟩
      | true =>
        obtain rfl := hok rfl
        clear hok
        go_enter Tryd.func4, Tryd.ntmps4
        go_wp2_with (first
          | (go_at_call 9; go_in)
          | (go_at_call 8; refine (H1.out _).mono ?_; rintro e w1 ⟨rfl, hb1⟩))
        refine (H2.out _ (HE.out.below hb1)).mono ?_
        rintro e w2 ⟨rfl, hb2⟩
        have hb12 : Below w.heap.size w w2 := hb1.trans (hb2.mono hb1.size)
        clear hb1 hb2
        go_wp2_with (fail)
        refine (H3.out _ (HE.out.below hb12)).mono ?_
        rintro e w3 ⟨rfl, hb3⟩
        have hb13 : Below w.heap.size w w3 := hb12.trans (hb3.mono hb12.size)
        clear hb12 hb3
        go_wp2_with (fail)
        refine (H4.out _ (HE.out.below hb13)).mono ?_
        rintro e w4 ⟨rfl, hb4⟩
        have hb14 : Below w.heap.size w w4 := hb13.trans (hb4.mono hb13.size)
        clear hb13 hb4
        go_wp2_with (fail)
        refine (H5.out _ (HE.out.below hb14)).mono ?_
        rintro e w5 ⟨rfl, hb5⟩
        have hb15 : Below w.heap.size w w5 := hb14.trans (hb5.mono hb14.size)
        clear hb14 hb5
        go_wp2_with (fail)
        go_ret
        exact ⟨rfl, hb15⟩
    · have hposI : ¬ (0 : Int) < (s.size : Int) := by omega
      clear hpre' hpos
      cases ok with
      | false =>
        clear hok
        go_enter Tryd.func4, Tryd.ntmps4
        go_wp2_with (first
          | (go_at_call 9; go_in)
          | (go_at_call 8; refine (H1.out _).mono ?_; rintro e w1 ⟨rfl, hb1⟩))
        refine (H2.out _ (HE.out.below hb1)).mono ?_
        rintro e w2 ⟨rfl, hb2⟩
        have hb12 : Below w.heap.size w w2 := hb1.trans (hb2.mono hb1.size)
        clear hb1 hb2
        go_wp2_with (fail)
        refine (H3.out _ (HE.out.below hb12)).mono ?_
        rintro e w3 ⟨rfl, hb3⟩
        have hb13 : Below w.heap.size w w3 := hb12.trans (hb3.mono hb12.size)
        clear hb12 hb3
        go_wp2_with (fail)
        refine (H4.out _ (HE.out.below hb13)).mono ?_
        rintro e w4 ⟨rfl, hb4⟩
        have hb14 : Below w.heap.size w w4 := hb13.trans (hb4.mono hb13.size)
        clear hb13 hb4
        go_wp2_with (fail)
        refine (H5.out _ (HE.out.below hb14)).mono ?_
        rintro e w5 ⟨rfl, hb5⟩
        have hb15 : Below w.heap.size w w5 := hb14.trans (hb5.mono hb14.size)
        clear hb14 hb5
        go_wp2_with (fail)
        go_ret
        exact ⟨rfl, hb15⟩
      | true =>
        obtain rfl := hok rfl
        clear hok
        go_enter Tryd.func4, Tryd.ntmps4
        go_wp2_with (first
          | (go_at_call 9; go_in)
          | (go_at_call 8; refine (H1.out _).mono ?_; rintro e w1 ⟨rfl, hb1⟩))
        refine (H2.out _ (HE.out.below hb1)).mono ?_
        rintro e w2 ⟨rfl, hb2⟩
        have hb12 : Below w.heap.size w w2 := hb1.trans (hb2.mono hb1.size)
        clear hb1 hb2
        go_wp2_with (fail)
        refine (H3.out _ (HE.out.below hb12)).mono ?_
        rintro e w3 ⟨rfl, hb3⟩
        have hb13 : Below w.heap.size w w3 := hb12.trans (hb3.mono hb12.size)
        clear hb12 hb3
        go_wp2_with (fail)
        refine (H4.out _ (HE.out.below hb13)).mono ?_
        rintro e w4 ⟨rfl, hb4⟩
        have hb14 : Below w.heap.size w w4 := hb13.trans (hb4.mono hb13.size)
        clear hb13 hb4
        go_wp2_with (fail)
        refine (H5.out _ (HE.out.below hb14)).mono ?_
        rintro e w5 ⟨rfl, hb5⟩
        have hb15 : Below w.heap.size w w5 := hb14.trans (hb5.mono hb14.size)
        clear hb14 hb5
        go_wp2_with (fail)
        go_ret
        exact ⟨rfl, hb15⟩

end Go.Proofs.Qxb6618041aDoor
