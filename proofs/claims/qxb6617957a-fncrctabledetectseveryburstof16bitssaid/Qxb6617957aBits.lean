/-
  THE WALK's OWN SPELLINGS of shifts and exclusive ors, turned into the plain layer's words. Own work for this seat.
-/
import Derived.Test.Qxb6617957aPlain
import Derived.Laws.BitsAllLaws
namespace Go.Proofs.Qxb6617957a.Crc

theorem even_xor (e : Nat) (b : Bool) (h : e % 2 = 0) : e + b.toNat = e ^^^ b.toNat := by
  cases b with
  | false => simp
  | true =>
    apply Nat.eq_of_testBit_eq
    intro i
    rw [Nat.testBit_xor]
    cases i with
    | zero =>
      rw [Nat.testBit_zero, Nat.testBit_zero]
      have h1 : (e + true.toNat) % 2 = 1 := by simp; omega
      rw [h1, h]
      simp
    | succ i =>
      have h0 : Nat.testBit true.toNat (i + 1) = false := by rw [Nat.testBit_succ]; simp
      rw [h0, Nat.testBit_succ, Nat.testBit_succ, show (e + true.toNat) / 2 = e / 2 by simp; omega]
      simp

theorem xor8 (r : BitVec 16) (c : BitVec 8) : bits .xor .u8 ((r.toNat : Int) / 256) (c.toNat : Int) = (((r >>> 8).setWidth 8 ^^^ c).toNat : Int) := by
  have hr := r.isLt
  have hc := c.isLt
  rw [show (r.toNat : Int) / 256 = ((r.toNat / 256 : Nat) : Int) by omega, u8_xor_nat _ _ (by omega) (by omega)]
  rw [BitVec.toNat_xor, BitVec.toNat_setWidth, BitVec.toNat_ushiftRight, Nat.shiftRight_eq_div_pow, Nat.mod_eq_of_lt (by omega)]

theorem shl8 (r t : BitVec 16) : bits .xor .u16 (IntKind.u16.wrap ((r.toNat : Int) * 256)) (t.toNat : Int) = ((r <<< 8 ^^^ t).toNat : Int) := by
  have hr := r.isLt
  have ht := t.isLt
  rw [IntKind.wrap_u16, show (r.toNat : Int) * 256 % 65536 = ((r.toNat * 256 % 65536 : Nat) : Int) by omega, u16_xor_nat _ _ (by omega) (by omega)]
  rw [BitVec.toNat_xor, BitVec.toNat_shiftLeft, Nat.shiftLeft_eq]

/-- one bit brought down -/
theorem orForm (q : BitVec 16) (c : BitVec 8) (i : Nat) :
    bits .or .u32 ((q.toNat : Int) * 2) (bits .and .u8 ((c.toNat : Int) / 2 ^ i) 1 % 4294967296) = ((q.toNat * 2 + (c.getLsbD i).toNat : Nat) : Int) := by
  have hq := q.isLt
  have hc := c.isLt
  have h1 : c.toNat / 2 ^ i < 256 := Nat.lt_of_le_of_lt (Nat.div_le_self _ _) hc
  have hb : (c.getLsbD i).toNat = c.toNat / 2 ^ i % 2 := by
    rw [BitVec.getLsbD, Nat.testBit_eq_decide_div_mod_eq]
    have : c.toNat / 2 ^ i % 2 < 2 := Nat.mod_lt _ (by omega)
    by_cases h : c.toNat / 2 ^ i % 2 = 1
    · simp [h]
    · have : c.toNat / 2 ^ i % 2 = 0 := by omega
      simp [this]
  have e1 : (c.toNat : Int) / 2 ^ i = ((c.toNat / 2 ^ i : Nat) : Int) := by simp
  rw [e1, show (1 : Int) = ((1 : Nat) : Int) from rfl, u8_and_nat _ _ h1 (by omega), nat_mask1, ← hb]
  have hb2 : (c.getLsbD i).toNat < 2 := Bool.toNat_lt _
  rw [show (((c.getLsbD i).toNat : Nat) : Int) % 4294967296 = (((c.getLsbD i).toNat : Nat) : Int) by omega]
  rw [show (q.toNat : Int) * 2 = ((q.toNat * 2 : Nat) : Int) by omega, u32_or_nat _ _ (by omega) (by omega), nat_join 1 _ _ (by omega) (by omega)]

theorem msbForm (q : BitVec 16) (b : Bool) : (bits .and .u32 ((q.toNat * 2 + b.toNat : Nat) : Int) 65536 != 0) = q.msb := by
  have hq := q.isLt
  have hb : b.toNat < 2 := Bool.toNat_lt _
  rw [show (65536 : Int) = ((65536 : Nat) : Int) from rfl, u32_and_nat _ _ (by omega) (by omega), show 65536 = 2 ^ 16 from rfl, nat_bit, BitVec.msb_eq_decide]
  by_cases h : 2 ^ (16 - 1) ≤ q.toNat
  · have e : (q.toNat * 2 + b.toNat) / 2 ^ 16 = 1 := by omega
    rw [e]
    simp at h ⊢
    omega
  · have e : (q.toNat * 2 + b.toNat) / 2 ^ 16 = 0 := by omega
    rw [e]
    simp at h ⊢
    omega

theorem pbit_lo (q : BitVec 16) (b : Bool) (h : q.msb = false) : ((q.toNat * 2 + b.toNat : Nat) : Int) = ((pbit q b).toNat : Int) := by
  have hq := q.isLt
  have hm : q.toNat < 2 ^ 15 := by
    rw [BitVec.msb_eq_decide] at h
    simp at h
    omega
  unfold pbit s1
  rw [h]
  simp only [Bool.false_eq_true, ↓reduceIte]
  rw [BitVec.toNat_xor, BitVec.toNat_shiftLeft, Nat.shiftLeft_eq, Nat.mod_eq_of_lt (by omega), even_xor _ _ (by omega)]
  cases b <;> rfl

theorem pbit_hi (q : BitVec 16) (b : Bool) (h : q.msb = true) : bits .xor .u32 ((q.toNat * 2 + b.toNat : Nat) : Int) 69665 = ((pbit q b).toNat : Int) := by
  have hq := q.isLt
  have hb : b.toNat < 2 := Bool.toNat_lt _
  have hm : 2 ^ 15 ≤ q.toNat := by
    rw [BitVec.msb_eq_decide] at h
    simpa using h
  rw [show (69665 : Int) = ((69665 : Nat) : Int) from rfl, u32_xor_nat _ _ (by omega) (by omega)]
  have e1 : ((q.toNat * 2 + b.toNat) ^^^ 69665) / 2 ^ 16 = 0 := by
    rw [← Nat.shiftRight_eq_div_pow, Nat.shiftRight_xor_distrib, Nat.shiftRight_eq_div_pow, Nat.shiftRight_eq_div_pow]
    rw [show (q.toNat * 2 + b.toNat) / 2 ^ 16 = 1 by omega]
    rfl
  have e2 : ((q.toNat * 2 + b.toNat) ^^^ 69665) % 2 ^ 16 = (q.toNat * 2 + b.toNat) % 2 ^ 16 ^^^ 69665 % 2 ^ 16 := Nat.xor_mod_two_pow ..
  have e3 : (q.toNat * 2 + b.toNat) ^^^ 69665 = (q.toNat * 2 + b.toNat) % 2 ^ 16 ^^^ 4129 := by
    rw [show 69665 % 2 ^ 16 = 4129 from rfl] at e2
    rw [← e2]
    omega
  rw [e3]
  have e4 : (q.toNat * 2 + b.toNat) % 2 ^ 16 = q.toNat * 2 % 2 ^ 16 + b.toNat := by omega
  rw [e4, even_xor _ _ (by omega)]
  unfold pbit s1
  rw [h]
  simp only [↓reduceIte]
  rw [BitVec.toNat_xor, BitVec.toNat_xor, BitVec.toNat_shiftLeft, Nat.shiftLeft_eq, Nat.xor_assoc, Nat.xor_assoc, Nat.xor_comm b.toNat]
  cases b <;> rfl

/-- the table's own step -/
theorem top16 (x : BitVec 16) : (bits .and .u16 (x.toNat : Int) 32768 != 0) = x.msb := by
  have hx := x.isLt
  rw [show (32768 : Int) = ((32768 : Nat) : Int) from rfl, u16_and_nat _ _ (by omega) (by omega), show 32768 = 2 ^ 15 from rfl, nat_bit, BitVec.msb_eq_decide]
  by_cases h : 2 ^ (16 - 1) ≤ x.toNat
  · have e : x.toNat / 2 ^ 15 = 1 := by omega
    rw [e]
    simp at h ⊢
    omega
  · have e : x.toNat / 2 ^ 15 = 0 := by omega
    rw [e]
    simp at h ⊢
    omega
theorem s1_hi (x : BitVec 16) (h : x.msb = true) : bits .xor .u16 (IntKind.u16.wrap ((x.toNat : Int) * 2)) 4129 = ((s1 x).toNat : Int) := by
  have hx := x.isLt
  rw [IntKind.wrap_u16, show (x.toNat : Int) * 2 % 65536 = ((x.toNat * 2 % 65536 : Nat) : Int) by omega, show (4129 : Int) = ((4129 : Nat) : Int) from rfl, u16_xor_nat _ _ (by omega) (by omega)]
  unfold s1
  rw [h]
  simp only [↓reduceIte]
  rw [BitVec.toNat_xor, BitVec.toNat_shiftLeft, Nat.shiftLeft_eq]
  rfl
theorem s1_lo (x : BitVec 16) (h : x.msb = false) : IntKind.u16.wrap ((x.toNat : Int) * 2) = ((s1 x).toNat : Int) := by
  have hx := x.isLt
  rw [IntKind.wrap_u16, show (x.toNat : Int) * 2 % 65536 = ((x.toNat * 2 % 65536 : Nat) : Int) by omega]
  unfold s1
  rw [h]
  simp only [Bool.false_eq_true, ↓reduceIte]
  rw [BitVec.toNat_shiftLeft, Nat.shiftLeft_eq]

end Go.Proofs.Qxb6617957a.Crc
