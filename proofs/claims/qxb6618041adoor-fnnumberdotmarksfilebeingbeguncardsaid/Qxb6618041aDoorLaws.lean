/-
  The three laws' own walks. Own work for this seat.
-/
import Derived.Test.Qxb6618041aDoorName
namespace Go.Proofs.Qxb6618041aDoor
open Go.RowKit

theorem nm_len (n : Nat) (d : Bool) : (Jn.nm n d).length ≤ 29 := by
  rw [nm_pre]
  cases d <;> simp [Jn.digs_length, Jn.dot, Jn.sfx]

/-- 'ZZNumber' at a documented name -/
theorem zz_nm (n : Nat) (d : Bool) (w : World) (hn : n ≤ Jn.M64) (he : Errs w) :
    Calls Tryd.prog 7 #[.string ⟨(Jn.nm n d).toArray⟩] w fun e w' => e = .returned (.tuple #[.int .u64 (n : Int), .bool true, .bool (!d)]) ∧ Below w.heap.size w w' := by
  have h := zznumber_walk ⟨(Jn.nm n d).toArray⟩ w (by show (Jn.nm n d).toArray.size ≤ _; rw [List.size_toArray]; have := nm_len n d; omega) he
  have e : Jn.num (⟨(Jn.nm n d).toArray⟩ : ByteArray).data.toList = (n, true, !d) := Jn.num_nm n d hn
  rw [e] at h
  exact h

theorem bytes_eq {s : ByteArray} {l : List UInt8} (h : s.data.toList = l) : s = ⟨l.toArray⟩ := by
  rw [← h]

set_option maxRecDepth 100000 in
set_option maxHeartbeats 800000 in
theorem law3 (n : Nat) (d : Bool) (s : ByteArray) (w : World) (hn : n ≤ Jn.M64) (hs : s.size ≤ maxLen) (he : Errs w) :
    Calls Tryd.prog 3 #[.int .u64 (n : Int), .bool d, .string s] w fun e w' => e = .returned (.bool true) ∧ Below w.heap.size w w' := by
  unfold maxLen at hs
  by_cases hlen : (1048576 : Int) < (s.size : Int)
  · clear he
    go_enter Tryd.func3, Tryd.ntmps3
    go_wp2
    go_ret
    exact ⟨rfl, Below.refl _ _⟩
  have HN : Hid (n ≤ Jn.M64) := hn
  have HE : Hid (Errs w) := he
  have hs' : s.size ≤ 1048600 := by omega
  have hnn : ((n : Int) != (n : Int)) = false := by simp
  clear hn he
  obtain ⟨R, hR⟩ : ∃ R, Jn.num s.data.toList = R := ⟨_, rfl⟩
  obtain ⟨u, ok, b⟩ := R
  cases ok with
  | false =>
    have HR : Hid (Jn.num s.data.toList = (u, false, b)) := hR
    clear hR
    cases d
    all_goals
      go_enter Tryd.func3, Tryd.ntmps3
      go_wp2_with (first
        | (go_at_call 6; go_in)
        | (go_at_call 8; refine (name_walk n _ _ HN.out).mono ?_; rintro e w1 ⟨rfl, hb1⟩))
      refine (zz_nm n _ _ HN.out (HE.out.below hb1)).mono ?_
      rintro e w2 ⟨rfl, hb2⟩
      have hb12 : Below w.heap.size w w2 := hb1.trans (hb2.mono hb1.size)
      clear hb1 hb2
      go_wp2_with (fail)
      refine (zznumber_walk s _ hs' (HE.out.below hb12)).mono ?_
      rw [HR.out]
      rintro e w3 ⟨rfl, hb3⟩
      have hb13 : Below w.heap.size w w3 := hb12.trans (hb3.mono hb12.size)
      clear hb12 hb3
      go_wp2_with (fail)
      go_ret
      exact ⟨rfl, hb13⟩
  | true =>
    obtain ⟨hnm, hu⟩ := Jn.nm_num _ _ _ hR
    have HR : Hid (Jn.num s.data.toList = (u, true, b)) := hR
    have HU : Hid (u ≤ Jn.M64) := hu
    have HS : Hid ((⟨(Jn.nm u (!b)).toArray⟩ : ByteArray) = s) := (bytes_eq hnm).symm
    clear hR hnm hu
    have hss : (s.toList == s.toList) = true := by simp
    cases d
    all_goals
      go_enter Tryd.func3, Tryd.ntmps3
      go_wp2_with (first
        | (go_at_call 6; go_in)
        | (go_at_call 8; refine (name_walk n _ _ HN.out).mono ?_; rintro e w1 ⟨rfl, hb1⟩))
      refine (zz_nm n _ _ HN.out (HE.out.below hb1)).mono ?_
      rintro e w2 ⟨rfl, hb2⟩
      have hb12 : Below w.heap.size w w2 := hb1.trans (hb2.mono hb1.size)
      clear hb1 hb2
      go_wp2_with (fail)
      refine (zznumber_walk s _ hs' (HE.out.below hb12)).mono ?_
      rw [HR.out]
      rintro e w3 ⟨rfl, hb3⟩
      have hb13 : Below w.heap.size w w3 := hb12.trans (hb3.mono hb12.size)
      clear hb12 hb3
      go_wp2_with (fail)
      refine (name_walk u (!b) _ HU.out).mono ?_
      rw [HS.out]
      rintro e w4 ⟨rfl, hb4⟩
      have hb14 : Below w.heap.size w w4 := hb13.trans (hb4.mono hb13.size)
      clear hb13 hb4
      go_wp2_with (fail)
      go_ret
      exact ⟨rfl, hb14⟩

end Go.Proofs.Qxb6618041aDoor
