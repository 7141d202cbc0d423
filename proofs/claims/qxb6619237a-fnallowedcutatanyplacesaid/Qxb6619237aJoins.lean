/-
  'joinList', 'AndList' and 'Allowed'. Own work for this seat.
-/
import Derived.Test.Qxb6619237aLoops
import Derived.Deep.RegionHeld3
namespace Go.Proofs.Qxb6619237a
open Go.RowKit

theorem below_drew_iff {B : Nat} {a w : World} : Below B a w.drew ↔ Below B a w := ⟨fun h => ⟨h.os, h.tape, h.output, h.size, h.block⟩, Below.drew⟩

set_option maxRecDepth 1000000 in
set_option maxHeartbeats 400000 in
theorem joinList_walk (bk off m len cap : Nat) (J c z A1 A2 A3 A4 : ByteArray) (w : World) (hm0 : (0 : Int) < (m : Int)) (hm1 : (len : Int) ≤ 1048576) (hlen : (len : Int) - 1 = (m : Int)) (hcap : len ≤ cap) (hz : w.cell? ⟨bk, off + m, none⟩ = some (.string z)) (hbk : bk < w.heap.size)
    (hJ : ∀ w', Below w.heap.size w w' → Calls Try.prog 16 #[.slice (some ⟨bk, off, none⟩) m cap, .string ⟨#[44, 32]⟩] w' fun e w'' => e = .returned (.string J) ∧ Below w.heap.size w w'')
    (e1 : J ++ ⟨#[32]⟩ = A1) (e2 : A1 ++ c = A2) (e3 : A2 ++ ⟨#[32]⟩ = A3) (e4 : A3 ++ z = A4)
    (s1 : ¬ (9223372036854775807 < J.size + 1)) (s2 : ¬ (9223372036854775807 < A1.size + c.size)) (s3 : ¬ (9223372036854775807 < A2.size + 1)) (s4 : ¬ (9223372036854775807 < A3.size + z.size)) :
    Calls Try.prog 14 #[.slice (some ⟨bk, off, none⟩) len cap, .string c] w fun e w' => e = .returned (.string A4) ∧ Below w.heap.size w w' := by
  have HJ : Hid (∀ w', Below w.heap.size w w' → Calls Try.prog 16 #[.slice (some ⟨bk, off, none⟩) m cap, .string ⟨#[44, 32]⟩] w' fun e w'' => e = .returned (.string J) ∧ Below w.heap.size w w'') := hJ
  have HZ : Hid (w.cell? ⟨bk, off + m, none⟩ = some (.string z)) := hz
  have HB : Hid (bk < w.heap.size) := hbk
  clear hJ hbk
  have hm0' : 0 < m := by omega
  have hw := Below.refl w.heap.size w
  have hmI : (m : Int) < (len : Int) := by omega
  have hmN : m ≤ cap := by omega
  have hmC : (m : Int) ≤ (cap : Int) := by omega
  have H : Hid ((J ++ ⟨#[32]⟩ = A1) ∧ (A1 ++ c = A2) ∧ (A2 ++ ⟨#[32]⟩ = A3) ∧ (A3 ++ z = A4) ∧ (¬ (9223372036854775807 < J.size + 1)) ∧ (¬ (9223372036854775807 < A1.size + c.size)) ∧ (¬ (9223372036854775807 < A2.size + 1)) ∧ (¬ (9223372036854775807 < A3.size + z.size))) := ⟨e1, e2, e3, e4, s1, s2, s3, s4⟩
  clear e1 e2 e3 e4 s1 s2 s3 s4
  go_enter Try.func14, Try.ntmps14
  go_wp2
  obtain ⟨e1, e2, e3, e4, s1, s2, s3, s4⟩ := H.out
  go_region_held3 (fun w' => w'.cell? ⟨bk, off + m, none⟩ = some (.string z) ∧ Below w.heap.size w w') (simp [below_drew_iff, go_sem, *])
    (first
      | (go_at_call 16; refine (HJ.out _ (by simp [*])).mono ?_; rintro e w' ⟨rfl, hw'⟩; have hz' : w'.cell? ⟨bk, off + m, none⟩ = some (.string z) := (by rw [hw'.cell (p := ⟨bk, off + m, none⟩) HB.out]; exact HZ.out)))
  all_goals go_wp2
  all_goals go_ret
  all_goals exact ⟨rfl, by assumption⟩

theorem SRow.length {w : World} {a : Option Addr} {len : Nat} {xs : List ByteArray} (h : SRow w a len xs) : xs.length = len := h.1
theorem SRow.below {w w' : World} {a : Option Addr} {len : Nat} {xs : List ByteArray} (h : SRow w a len xs) (hb : Below w.heap.size w w') : SRow w' a len xs := by
  refine ⟨h.1, fun i hi => ?_⟩
  obtain ⟨b, off, ha, hc⟩ := h.2 i hi
  exact ⟨b, off, ha, by rw [hb.cell (p := ⟨b, off + i, none⟩) (block_lt_of_cell hc)]; exact hc⟩

/-- no item -/
theorem joinList_none (a : Option Addr) (cap : Nat) (c : ByteArray) (w : World) :
    Calls Try.prog 14 #[.slice a 0 cap, .string c] w fun e w' => e = .returned (.string ⟨#[]⟩) ∧ Below w.heap.size w w' := by
  go_enter Try.func14, Try.ntmps14
  go_wp2_with (first
    | (go_at_call 16; refine (stringsJoin_none a cap _ w).mono ?_; rintro e w' ⟨rfl, hw⟩; obtain rfl : w = w' := hw.symm))
  go_ret
  exact ⟨rfl, Below.refl _ _⟩

theorem andList_of (a : Option Addr) (len cap : Nat) (T : ByteArray) (w : World)
    (h : Calls Try.prog 14 #[.slice a len cap, .string ⟨#[97, 110, 100]⟩] w fun e w' => e = .returned (.string T) ∧ Below w.heap.size w w') :
    Calls Try.prog 15 #[.slice a len cap] w fun e w' => e = .returned (.string T) ∧ Below w.heap.size w w' := by
  have H : Hid (Calls Try.prog 14 #[.slice a len cap, .string ⟨#[97, 110, 100]⟩] w fun e w' => e = .returned (.string T) ∧ Below w.heap.size w w') := h
  clear h
  go_enter Try.func15, Try.ntmps15
  go_wp2_with (first
    | (go_at_call 14; refine H.out.mono ?_; rintro e w' ⟨rfl, hw⟩))
  go_ret
  exact ⟨rfl, hw⟩

theorem allowed_of (a : Option Addr) (len cap : Nat) (T R : ByteArray) (w : World) (hlen : ((len : Int) == 1) = false)
    (h : Calls Try.prog 15 #[.slice a len cap] w fun e w' => e = .returned (.string T) ∧ Below w.heap.size w w')
    (e : ⟨#[116, 104, 101, 32, 118, 97, 108, 117, 101, 115, 32, 97, 114, 101, 32]⟩ ++ T = R) (hs : ¬ (9223372036854775807 < 15 + T.size)) :
    Calls Try.prog 12 #[.slice a len cap] w fun e w' => e = .returned (.string R) ∧ Below w.heap.size w w' := by
  have H : Hid (Calls Try.prog 15 #[.slice a len cap] w fun e w' => e = .returned (.string T) ∧ Below w.heap.size w w') := h
  clear h
  go_enter Try.func12, Try.ntmps12
  go_wp2_with (first
    | (go_at_call 15; refine H.out.mono ?_; rintro e w' ⟨rfl, hw⟩))
  go_ret
  exact ⟨rfl, hw⟩

theorem allowed_single (bk off cap : Nat) (x R : ByteArray) (w : World) (hc : w.cell? ⟨bk, off, none⟩ = some (.string x))
    (e : ⟨#[116, 104, 101, 32, 111, 110, 101, 32, 118, 97, 108, 117, 101, 32, 105, 115, 32]⟩ ++ x = R) (hs : ¬ (9223372036854775807 < 17 + x.size)) :
    Calls Try.prog 12 #[.slice (some ⟨bk, off, none⟩) 1 cap] w fun e w' => e = .returned (.string R) ∧ Below w.heap.size w w' := by
  go_enter Try.func12, Try.ntmps12
  go_wp2
  go_ret
  exact ⟨rfl, Below.refl _ _⟩

theorem jl_le (l : List (List UInt8)) : (Ph.jl l Ph.andW).length ≤ Ph.tot l + 8 := by
  unfold Ph.jl
  split
  · rename_i h
    rcases List.eq_nil_or_concat l with rfl | ⟨c, x, rfl⟩
    · simp at h
    · have h1 := Ph.cj_le c
      simp only [List.concat_eq_append, List.dropLast_concat, Ph.tot_app, List.length_append, Ph.tot, Ph.andW] at *
      simp
      omega
  · have := Ph.join_le [] (by decide) l
    omega

theorem allowed_walk (a : Option Addr) (len cap : Nat) (xs : List ByteArray) (w : World) (hrow : SRow w a len xs) (hcap : len ≤ cap) (hb : Ph.tot (L xs) ≤ 1048576) :
    Calls Try.prog 12 #[.slice a len cap] w fun e w' => e = .returned (.string (bs (Ph.allowedL (L xs)))) ∧ Below w.heap.size w w' := by
  have hmany : (⟨#[116, 104, 101, 32, 118, 97, 108, 117, 101, 115, 32, 97, 114, 101, 32]⟩ : ByteArray) = bs Ph.many := rfl
  rcases List.eq_nil_or_concat xs with rfl | ⟨ys, z, rfl⟩
  · obtain rfl : 0 = len := hrow.1
    refine allowed_of a 0 cap ⟨#[]⟩ _ w rfl (andList_of a 0 cap _ w (joinList_none a cap _ w)) ?_ (by decide)
    rw [hmany, show (⟨#[]⟩ : ByteArray) = bs [] from rfl, bs_app, show L [] = [] from rfl, Ph.allowed_none, List.append_nil]
  · rw [List.concat_eq_append] at hrow hb ⊢
    obtain ⟨hl, hcell⟩ := hrow
    have hl' : ys.length + 1 = len := by rw [← hl]; simp
    have hL : L (ys ++ [z]) = L ys ++ [z.data.toList] := by simp [L]
    have htot : Ph.tot (L ys) + (8 + z.size) ≤ 1048576 := by
      rw [hL, Ph.tot_app] at hb
      simp only [Ph.tot, size_data] at hb
      exact hb
    obtain ⟨bk, off, ha, hz⟩ := hcell ys.length (by simp)
    rw [List.getElem_append_right (Nat.le_refl _)] at hz
    simp only [Nat.sub_self, List.getElem_cons_zero] at hz
    subst ha
    have hbk := block_lt_of_cell hz
    by_cases hy : ys = []
    · subst hy
      obtain rfl : 1 = len := hl'
      refine allowed_single bk off cap z _ w hz ?_ (by omega)
      rw [hL, show L [] = [] from rfl, List.nil_append, Ph.allowed_one, ← bs_app, bs_of]
      rfl
    · have hm : 0 < ys.length := List.length_pos_iff.2 hy
      have hyl := Ph.len_le (L ys)
      rw [L_length] at hyl
      have hcj := Ph.cj_le (L ys)
      have hjl := jl_le (L (ys ++ [z]))
      refine allowed_of _ len cap (bs (Ph.jl (L (ys ++ [z])) Ph.andW)) _ w (by rw [beq_eq_false_iff_ne]; omega) (andList_of _ len cap _ w ?_) ?_ (by rw [bs_size]; omega)
      · rw [Ph.jl_two (by rw [L_length]; simp; omega), hL, List.dropLast_concat]
        have hge : (L ys ++ [z.data.toList]).getLastD [] = z.data.toList := by simp
        rw [hge, ← bs_app, ← bs_app, ← bs_app, ← bs_app, bs_of]
        have h0 := bs_size (Ph.cj (L ys))
        have h1 : (bs (Ph.cj (L ys)) ++ bs [32]).size = (Ph.cj (L ys)).length + 1 := by rw [bs_app, bs_size]; simp
        have h2 : (bs (Ph.cj (L ys)) ++ bs [32] ++ bs Ph.andW).size = (Ph.cj (L ys)).length + 4 := by rw [bs_app, bs_app, bs_size]; simp [Ph.andW]
        have h3 : (bs (Ph.cj (L ys)) ++ bs [32] ++ bs Ph.andW ++ bs [32]).size = (Ph.cj (L ys)).length + 5 := by rw [bs_app, bs_app, bs_app, bs_size]; simp [Ph.andW]
        have h4 : (bs Ph.andW).size = 3 := rfl
        refine joinList_walk bk off ys.length len cap (bs (Ph.cj (L ys))) (bs Ph.andW) z (bs (Ph.cj (L ys)) ++ bs [32]) (bs (Ph.cj (L ys)) ++ bs [32] ++ bs Ph.andW) (bs (Ph.cj (L ys)) ++ bs [32] ++ bs Ph.andW ++ bs [32]) _ w (by omega) (by omega) (by omega) hcap hz hbk ?_ rfl rfl rfl rfl (by omega) (by omega) (by omega) (by omega)
        intro w' hw'
        refine (stringsJoin bk off cap ys (bs Ph.comma) w' ?_ (Nat.lt_of_lt_of_le hbk hw'.size) (by omega) (by omega) ?_).mono ?_
        · intro j x hj
          obtain ⟨hjl, rfl⟩ := List.getElem?_eq_some_iff.1 hj
          obtain ⟨b2, o2, e2, hc2⟩ := hcell j (by simp; omega)
          cases e2
          rw [hw'.cell (p := ⟨bk, off + j, none⟩) hbk, hc2, List.getElem_append_left hjl]
        · exact Nat.le_trans hcj (by omega)
        · rintro e w'' ⟨rfl, hw''⟩
          exact ⟨rfl, hw'.trans (hw''.mono hw'.size)⟩
      · rw [hmany, bs_app, Ph.allowed_many (by rw [L_length]; simp; omega)]

end Go.Proofs.Qxb6619237a
