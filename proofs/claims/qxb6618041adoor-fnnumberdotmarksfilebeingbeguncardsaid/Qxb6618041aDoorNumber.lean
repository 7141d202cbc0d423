/-
  'number' and 'ZZNumber' compute the plain function 'Jn.num'. Own work for this seat.
-/
import Derived.Test.Qxb6618041aDoorShelf
import Derived.WalkKit
import Derived.WalkSpells
import Derived.WalkLawsBesides
import Derived.OpenShut
import Derived.Below
import Derived.BigQuiet
import Derived.Deep.QuietTactic
namespace Go.Proofs.Qxb6618041aDoor
open Go.RowKit

/-- the two error values of strconv are there -/
def Errs (w : World) : Prop := (∃ t p, w.cell? ⟨0, 0, none⟩ = some (.iface t p)) ∧ (∃ t p, w.cell? ⟨1, 0, none⟩ = some (.iface t p))
theorem Errs.below {w w' : World} (h : Errs w) (hb : Below w.heap.size w w') : Errs w' := by
  obtain ⟨⟨t, p, h0⟩, ⟨t1, p1, h1⟩⟩ := h
  exact ⟨⟨t, p, by rw [hb.cell (p := ⟨0, 0, none⟩) (block_lt_of_cell h0)]; exact h0⟩, ⟨t1, p1, by rw [hb.cell (p := ⟨1, 0, none⟩) (block_lt_of_cell h1)]; exact h1⟩⟩

theorem below_bytes (w : World) (t : TypeId) (s : ByteArray) : Below w.heap.size w (Lib.bytesWorld w t s) := Lib.bytesWorld_below _ _ _

theorem dot_bytes : (⟨#[46]⟩ : ByteArray).data.toList = Jn.dot := rfl
theorem sfx_bytes : (⟨#[46, 106, 111, 117, 114, 110, 97, 108]⟩ : ByteArray).data.toList = Jn.sfx := rfl

set_option maxRecDepth 100000 in
set_option maxHeartbeats 400000 in
theorem number_walk (s : ByteArray) (w : World) (hs : s.size ≤ 1048600) (he : Errs w) :
    Calls Tryd.prog 11 #[.string s] w fun e w' => e = .returned (.tuple #[.int .u64 ((Jn.num s.data.toList).1 : Int), .bool (Jn.num s.data.toList).2.1, .bool (Jn.num s.data.toList).2.2]) ∧ Below w.heap.size w w' := by
  obtain ⟨⟨t0, p0, h0⟩, ⟨t1, p1, h1⟩⟩ := he
  have hH := hasPrefix s ⟨#[46]⟩ w
  have hT := trimPrefix s ⟨#[46]⟩ w
  rw [dot_bytes] at hH hT
  obtain ⟨T, eT⟩ : ∃ T : ByteArray, (⟨(Lib.trimPrefix s.data.toList Jn.dot).toArray⟩ : ByteArray) = T := ⟨_, rfl⟩
  have hTl : T.data.toList = Lib.trimPrefix s.data.toList Jn.dot := by rw [← eT]
  have hTs : T.size ≤ 1048600 := by
    rw [Lib.size_eq, hTl]
    have := Lib.trimPrefix_le s.data.toList Jn.dot
    rw [Lib.size_eq] at hs
    omega
  have hC := cutSuffix T ⟨#[46, 106, 111, 117, 114, 110, 97, 108]⟩ w (by omega)
  rw [sfx_bytes, hTl] at hC
  obtain ⟨D, eD⟩ : ∃ D : ByteArray, (⟨(Lib.trimSuffix (Lib.trimPrefix s.data.toList Jn.dot) Jn.sfx).toArray⟩ : ByteArray) = D := ⟨_, rfl⟩
  have hDl : D.data.toList = Lib.trimSuffix (Lib.trimPrefix s.data.toList Jn.dot) Jn.sfx := by rw [← eD]
  have hDs : D.size ≤ 1048600 := by
    rw [Lib.size_eq, hDl]
    have := Lib.trimSuffix_le (Lib.trimPrefix s.data.toList Jn.dot) Jn.sfx
    rw [Lib.size_eq, hTl] at hTs
    omega
  rw [eT] at hT
  rw [eD] at hC
  have hnum : Jn.num s.data.toList = if Lib.hasSuffix (Lib.trimPrefix s.data.toList Jn.dot) Jn.sfx = true ∧ D.size = 20 then Jn.outcome (Lib.parseUintB 64 D.data.toList) (!Lib.hasPrefix s.data.toList Jn.dot) else (0, false, false) := by
    rw [Lib.size_eq, hDl]; rfl
  generalize Jn.num s.data.toList = R at hnum ⊢
  generalize Lib.hasPrefix s.data.toList Jn.dot = b at hnum hH
  generalize Lib.hasSuffix (Lib.trimPrefix s.data.toList Jn.dot) Jn.sfx = f at hnum hC
  clear eT eD hTl hDl
  have HN : Hid (R = if f = true ∧ D.size = 20 then Jn.outcome (Lib.parseUintB 64 D.data.toList) (!b) else (0, false, false)) := hnum
  clear hnum
  have HH : Hid (Calls Tryd.prog 12 #[.string s, .string ⟨#[46]⟩] w fun e w' => e = .returned (.bool b) ∧ w' = w) := hH
  have HT : Hid (Calls Tryd.prog 14 #[.string s, .string ⟨#[46]⟩] w fun e w' => e = .returned (.string T) ∧ w' = w) := hT
  have HC : Hid (Calls Tryd.prog 13 #[.string T, .string ⟨#[46, 106, 111, 117, 114, 110, 97, 108]⟩] w fun e w' => e = .returned (.tuple #[.string D, .bool f]) ∧ w' = w) := hC
  clear hH hT hC
  cases hf : f with
  | false =>
    subst hf
    obtain rfl : R = (0, false, false) := by rw [HN.out, if_neg (by simp)]
    clear HN
    go_enter Tryd.func11, Tryd.ntmps11
    go_wp2_with (first
      | (go_at_call 12; refine HH.out.mono ?_; rintro e w' ⟨rfl, hw⟩; obtain rfl : w = w' := hw.symm; clear hw)
      | (go_at_call 14; refine HT.out.mono ?_; rintro e w' ⟨rfl, hw⟩; obtain rfl : w = w' := hw.symm; clear hw)
      | (go_at_call 13; refine HC.out.mono ?_; rintro e w' ⟨rfl, hw⟩; obtain rfl : w = w' := hw.symm; clear hw))
    go_ret3
    exact ⟨rfl, Below.refl _ _⟩
  | true =>
    subst hf
    by_cases hD : D.size = 20
    · rcases Jn.ends (Lib.parseUintB 64 D.data.toList) with ⟨u, hp⟩ | hp | hp
      · obtain rfl : R = (u, true, !b) := by rw [HN.out, if_pos ⟨rfl, hD⟩, hp, Jn.outcome_ok]
        clear HN
        have HP : Hid (Lib.parseUintB 64 D.data.toList = .ok u) := hp
        have hDn : ((D.size : Int) != 20) = false := by rw [bne_eq_false_iff_eq]; omega
        clear hp hD
        go_enter Tryd.func11, Tryd.ntmps11
        go_wp2_with (first
          | (go_at_call 12; refine HH.out.mono ?_; rintro e w' ⟨rfl, hw⟩; obtain rfl : w = w' := hw.symm; clear hw)
          | (go_at_call 14; refine HT.out.mono ?_; rintro e w' ⟨rfl, hw⟩; obtain rfl : w = w' := hw.symm; clear hw)
          | (go_at_call 13; refine HC.out.mono ?_; rintro e w' ⟨rfl, hw⟩; obtain rfl : w = w' := hw.symm; clear hw))
        refine (parseUint_ok D (by omega) u HP.out _).mono ?_
        rintro e w1 ⟨rfl, hw1⟩
        have hb1 : Below w.heap.size w w1 := by
          rcases hw1 with rfl | rfl
          · exact Below.refl _ _
          · exact below_bytes _ _ _
        clear hw1
        go_wp2
        go_quiet (fail)
        go_wp2
        go_ret3
        exact ⟨rfl, below_drewN hb1 _⟩
      · obtain rfl : R = (Jn.M64, false, !b) := by rw [HN.out, if_pos ⟨rfl, hD⟩, hp, Jn.outcome_range]
        clear HN
        have HP : Hid (Lib.parseUintB 64 D.data.toList = .range) := hp
        have hDn : ((D.size : Int) != 20) = false := by rw [bne_eq_false_iff_eq]; omega
        have H1 : Hid (w.cell? ⟨1, 0, none⟩ = some (.iface t1 p1)) := h1
        clear hp hD h0 h1
        go_enter Tryd.func11, Tryd.ntmps11
        go_wp2_with (first
          | (go_at_call 12; refine HH.out.mono ?_; rintro e w' ⟨rfl, hw⟩; obtain rfl : w = w' := hw.symm; clear hw)
          | (go_at_call 14; refine HT.out.mono ?_; rintro e w' ⟨rfl, hw⟩; obtain rfl : w = w' := hw.symm; clear hw)
          | (go_at_call 13; refine HC.out.mono ?_; rintro e w' ⟨rfl, hw⟩; obtain rfl : w = w' := hw.symm; clear hw))
        refine (parseUint_range D (by omega) HP.out _ _ H1.out (.inr ⟨_, _, rfl⟩)).mono ?_
        rintro e w1 ⟨N, rfl, _, _, hb1⟩
        go_wp2
        go_quiet (fail)
        go_wp2
        go_ret3
        exact ⟨rfl, below_drewN hb1 _⟩
      · obtain rfl : R = (0, false, !b) := by rw [HN.out, if_pos ⟨rfl, hD⟩, hp, Jn.outcome_bad]
        clear HN
        have HP : Hid (Lib.parseUintB 64 D.data.toList = Jn.bad) := hp
        have hDn : ((D.size : Int) != 20) = false := by rw [bne_eq_false_iff_eq]; omega
        have H0 : Hid (w.cell? ⟨0, 0, none⟩ = some (.iface t0 p0)) := h0
        clear hp hD h0 h1
        go_enter Tryd.func11, Tryd.ntmps11
        go_wp2_with (first
          | (go_at_call 12; refine HH.out.mono ?_; rintro e w' ⟨rfl, hw⟩; obtain rfl : w = w' := hw.symm; clear hw)
          | (go_at_call 14; refine HT.out.mono ?_; rintro e w' ⟨rfl, hw⟩; obtain rfl : w = w' := hw.symm; clear hw)
          | (go_at_call 13; refine HC.out.mono ?_; rintro e w' ⟨rfl, hw⟩; obtain rfl : w = w' := hw.symm; clear hw))
        refine (parseUint_bad D (by omega) HP.out _ _ H0.out (.inr ⟨_, _, rfl⟩)).mono ?_
        rintro e w1 ⟨N, rfl, _, _, hb1⟩
        go_wp2
        go_quiet (fail)
        go_wp2
        go_ret3
        exact ⟨rfl, below_drewN hb1 _⟩
    · obtain rfl : R = (0, false, false) := by rw [HN.out, if_neg (by simp [hD])]
      clear HN
      have hDn : ((D.size : Int) != 20) = true := by rw [bne_iff_ne]; omega
      go_enter Tryd.func11, Tryd.ntmps11
      go_wp2_with (first
        | (go_at_call 12; refine HH.out.mono ?_; rintro e w' ⟨rfl, hw⟩; obtain rfl : w = w' := hw.symm; clear hw)
        | (go_at_call 14; refine HT.out.mono ?_; rintro e w' ⟨rfl, hw⟩; obtain rfl : w = w' := hw.symm; clear hw)
        | (go_at_call 13; refine HC.out.mono ?_; rintro e w' ⟨rfl, hw⟩; obtain rfl : w = w' := hw.symm; clear hw))
      go_ret3
      exact ⟨rfl, Below.refl _ _⟩

set_option maxRecDepth 100000 in
set_option maxHeartbeats 400000 in
theorem zznumber_walk (s : ByteArray) (w : World) (hs : s.size ≤ 1048600) (he : Errs w) :
    Calls Tryd.prog 7 #[.string s] w fun e w' => e = .returned (.tuple #[.int .u64 ((Jn.num s.data.toList).1 : Int), .bool (Jn.num s.data.toList).2.1, .bool (Jn.num s.data.toList).2.2]) ∧ Below w.heap.size w w' := by
  have hN := number_walk s w hs he
  generalize Jn.num s.data.toList = R at hN ⊢
  have HN : Hid (Calls Tryd.prog 11 #[.string s] w fun e w' => e = .returned (.tuple #[.int .u64 (R.1 : Int), .bool R.2.1, .bool R.2.2]) ∧ Below w.heap.size w w') := hN
  clear hN he
  go_enter Tryd.func7, Tryd.ntmps7
  go_wp2_with (go_at_call 11; refine HN.out.mono ?_; rintro e w1 ⟨rfl, hb⟩)
  go_ret3
  exact ⟨rfl, hb⟩
end Go.Proofs.Qxb6618041aDoor
