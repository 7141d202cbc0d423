/-
  The count of set bits, the active columns, the test for zero. Own work for this seat.
-/
import Derived.Test.Qxb6618083aBase
import Derived.Deep.LoopGhost
namespace Go.Proofs.Qxb6618083a
open Go.RowKit

theorem or_form (x y : BitVec 32) : bits .or .u32 (x.toNat : Int) (y.toNat : Int) = ((x ||| y).toNat : Int) := by
  rw [u32_or_nat _ _ x.isLt y.isLt, BitVec.toNat_or]

/-- one round of the count -/
theorem and_form (v : BitVec 32) (h : v ≠ 0#32) : bits .and .u32 (v.toNat : Int) ((v.toNat : Int) - 1) = ((v &&& (v - 1#32)).toNat : Int) := by
  have hv := v.isLt
  have hn : v.toNat ≠ 0 := fun e => h (BitVec.eq_of_toNat_eq (by simpa using e))
  have hs : (v - 1#32).toNat = v.toNat - 1 := by
    rw [BitVec.toNat_sub]
    have : (1#32).toNat = 1 := rfl
    rw [this]
    omega
  rw [show (v.toNat : Int) - 1 = ((v.toNat - 1 : Nat) : Int) by omega, u32_and_nat _ _ hv (by omega), BitVec.toNat_and, hs]
theorem and_lt (v : BitVec 32) (h : v ≠ 0#32) : (v &&& (v - 1#32)).toNat < v.toNat := by
  have hv := v.isLt
  have hn : v.toNat ≠ 0 := fun e => h (BitVec.eq_of_toNat_eq (by simpa using e))
  have hs : (v - 1#32).toNat = v.toNat - 1 := by
    rw [BitVec.toNat_sub]
    have : (1#32).toNat = 1 := rfl
    rw [this]
    omega
  rw [BitVec.toNat_and, hs]
  have := Nat.and_le_right (n := v.toNat) (m := v.toNat - 1)
  omega

/-- what holds after k rounds -/
def Rnd (v u : BitVec 32) (k : Nat) : Prop := (k = 0 → u = v) ∧ (k = 1 → u = v &&& (v - 1#32)) ∧ k + u.toNat ≤ v.toNat
theorem rnd_next {v u : BitVec 32} {k : Nat} (h : Rnd v u k) (hu : u ≠ 0#32) : Rnd v (u &&& (u - 1#32)) (k + 1) := by
  obtain ⟨h0, h1, h2⟩ := h
  have := and_lt u hu
  refine ⟨fun e => by omega, fun e => ?_, by omega⟩
  rw [h0 (by omega)]
theorem rnd_end {v : BitVec 32} {k : Nat} (h : Rnd v 0#32 k) : Sp.Cnt v k := ⟨fun e => (h.1 e).symm, fun e => (h.2.1 e).symm⟩

set_option maxRecDepth 100000 in
set_option maxHeartbeats 400000 in
theorem ones_walk (v : BitVec 32) (w : World) :
    Calls Try.prog 14 #[.int .u32 (v.toNat : Int)] w fun e w' => ∃ r : Nat, e = .returned (.int .i64 (r : Int)) ∧ Sp.Cnt v r ∧ r ≤ 4294967296 ∧ w' = w := by
  go_enter Try.func14, Try.ntmps14
  go_wp2
  go_loopg [0, 3] v.toNat (fun g s n wx => ∃ (u : BitVec 32) (k : Nat), g = u.toNat ∧ s = .int .u32 (u.toNat : Int) ∧ n = .int .i64 (k : Int) ∧ Rnd v u k ∧ wx = w)
  case atStart => exact ⟨v, 0, rfl, rfl, rfl, ⟨fun _ => rfl, fun e => absurd e (by decide), by omega⟩, rfl⟩
  case round =>
    obtain ⟨u, k, rfl, rfl, rfl, hR, rfl⟩ := hrel
    have hvl := v.isLt
    have hkl : (k : Int) ≤ 4294967296 := by have := hR.2.2; omega
    have HR : Hid (Rnd v u k) := hR
    have HK : Hid (k ≤ 4294967296) := by show k ≤ _; omega
    clear hR hvl
    by_cases hu : u = 0#32
    · subst hu
      have ht : (((0#32).toNat : Int) != 0) = false := rfl
      go_wp2
      go_ret
      exact ⟨k, rfl, rnd_end HR.out, HK.out, rfl⟩
    · have hn : u.toNat ≠ 0 := fun e => hu (BitVec.eq_of_toNat_eq (by simpa using e))
      have ht : ((u.toNat : Int) != 0) = true := by rw [bne_iff_ne]; omega
      have hf := and_form u hu
      have hul : (u.toNat : Int) < 4294967296 := by have := u.isLt; omega
      have hup : (1 : Int) ≤ (u.toNat : Int) := by omega
      have HN : Hid (Rnd v (u &&& (u - 1#32)) (k + 1)) := rnd_next HR.out hu
      have HL : Hid ((u &&& (u - 1#32)).toNat < u.toNat) := and_lt u hu
      generalize u &&& (u - 1#32) = u2 at hf HN HL
      clear hu hn
      go_wp2
      go_roundg (u2.toNat)
      case measure => exact HL.out
      case rel => exact ⟨u2, k + 1, rfl, rfl, by go_num, HN.out, rfl⟩

set_option maxRecDepth 100000 in
set_option maxHeartbeats 400000 in
theorem cols_walk (x : Sp.B4) (w : World) :
    Calls Try.prog 10 #[.agg (c4 x.a x.b x.c x.d)] w fun e w' => ∃ r : Nat, e = .returned (.int .i64 (r : Int)) ∧ Sp.Cnt (Sp.ors x) r ∧ r ≤ 4294967296 ∧ w' = w.alloc (.cells (c4 x.a x.b x.c x.d) 23) := by
  obtain ⟨x0, x1, x2, x3⟩ := x
  simp only [Sp.ors]
  have h1 := or_form x0 x1
  have h2 := or_form (x0 ||| x1) x2
  have h3 := or_form (x0 ||| x1 ||| x2) x3
  generalize x0 ||| x1 ||| x2 ||| x3 = v at h3 ⊢
  generalize x0 ||| x1 ||| x2 = t2 at h2 h3
  generalize x0 ||| x1 = t1 at h1 h2
  unfold c4
  go_enter Try.func10, Try.ntmps10
  go_wp2_with (go_at_call 14; refine (ones_walk v _).mono ?_; rintro e w' ⟨r, rfl, hc, hr, hw⟩; subst hw)
  go_ret
  exact ⟨r, rfl, hc, hr, rfl⟩

set_option maxRecDepth 100000 in
set_option maxHeartbeats 400000 in
theorem nonzero_walk (x : Sp.B4) (w : World) :
    Calls Try.prog 9 #[.agg (c4 x.a x.b x.c x.d)] w fun e w' => e = .returned (.bool (Sp.ors x != 0#32)) ∧ w' = w.alloc (.cells (c4 x.a x.b x.c x.d) 23) := by
  obtain ⟨x0, x1, x2, x3⟩ := x
  simp only [Sp.ors]
  have h1 := or_form x0 x1
  have h2 := or_form (x0 ||| x1) x2
  have h3 := or_form (x0 ||| x1 ||| x2) x3
  generalize x0 ||| x1 ||| x2 ||| x3 = v at h3 ⊢
  generalize x0 ||| x1 ||| x2 = t2 at h2 h3
  generalize x0 ||| x1 = t1 at h1 h2
  have hv : (v != 0#32) = ((v.toNat : Int) != 0) := by
    rw [Bool.eq_iff_iff, bne_iff_ne, bne_iff_ne]
    constructor
    · intro h e
      exact h (BitVec.eq_of_toNat_eq (by have : v.toNat = 0 := by omega
                                         simpa using this))
    · intro h e
      subst e
      exact h rfl
  rw [hv]
  clear hv
  unfold c4
  go_enter Try.func9, Try.ntmps9
  go_wp2
  go_ret
  exact ⟨rfl, rfl⟩

end Go.Proofs.Qxb6618083a
