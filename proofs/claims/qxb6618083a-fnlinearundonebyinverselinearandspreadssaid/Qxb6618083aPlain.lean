/-
  THE PLAIN LAYER of the two Serpent laws: no Go in sight. Own work for this seat.
-/
namespace Go.Proofs.Qxb6618083a.Sp

def rot (m : Nat) (x : BitVec 32) : BitVec 32 := (x <<< m) ||| (x >>> (32 - m))

theorem rot_bit (m : Nat) (x : BitVec 32) (h1 : m < 32) (h0 : 0 < m) (j : Nat) (hj : j < 32) : (rot m x).getLsbD j = if j < m then x.getLsbD (32 - m + j) else x.getLsbD (j - m) := by
  unfold rot
  rw [BitVec.getLsbD_or, BitVec.getLsbD_shiftLeft, BitVec.getLsbD_ushiftRight]
  by_cases h : j < m
  · simp [h]
  · have e : x.getLsbD (32 - m + j) = false := BitVec.getLsbD_of_ge _ _ (by omega)
    simp [h, hj, e]

theorem rot_back (m : Nat) (x : BitVec 32) (h1 : m < 32) (h0 : 0 < m) : rot (32 - m) (rot m x) = x := by
  apply BitVec.eq_of_getLsbD_eq
  intro j hj
  rw [rot_bit (32 - m) _ (by omega) (by omega) j hj]
  by_cases h : j < 32 - m
  · rw [if_pos h, rot_bit m x h1 h0 _ (by omega), if_neg (by omega)]
    congr 1
    omega
  · rw [if_neg h, rot_bit m x h1 h0 _ (by omega), if_pos (by omega)]
    congr 1
    omega

/-- four words -/
structure B4 where
  a : BitVec 32
  b : BitVec 32
  c : BitVec 32
  d : BitVec 32

def lin (x : B4) : B4 :=
  let a0 := rot 13 x.a
  let a2 := rot 3 x.c
  let a1 := x.b ^^^ (a0 ^^^ a2)
  let a3 := x.d ^^^ (a2 ^^^ (a0 <<< 3))
  let b1 := rot 1 a1
  let b3 := rot 7 a3
  let b0 := a0 ^^^ (b1 ^^^ b3)
  let b2 := a2 ^^^ (b3 ^^^ (b1 <<< 7))
  ⟨rot 5 b0, b1, rot 22 b2, b3⟩

def inv (x : B4) : B4 :=
  let a2 := rot 10 x.c
  let a0 := rot 27 x.a
  let b2 := a2 ^^^ (x.d ^^^ (x.b <<< 7))
  let b0 := a0 ^^^ (x.b ^^^ x.d)
  let a3 := rot 25 x.d
  let a1 := rot 31 x.b
  let b3 := a3 ^^^ (b2 ^^^ (b0 <<< 3))
  let b1 := a1 ^^^ (b0 ^^^ b2)
  ⟨rot 19 b0, b1, rot 29 b2, b3⟩

theorem xx (p q : BitVec 32) : (p ^^^ q) ^^^ q = p := by rw [BitVec.xor_assoc, BitVec.xor_self, BitVec.xor_zero]

theorem inv_lin (x : B4) : inv (lin x) = x := by
  obtain ⟨x0, x1, x2, x3⟩ := x
  simp only [inv, lin]
  rw [rot_back 5 _ (by decide) (by decide), rot_back 22 _ (by decide) (by decide), rot_back 1 _ (by decide) (by decide), rot_back 7 _ (by decide) (by decide)]
  rw [xx (rot 13 x0), xx (rot 3 x2), xx, xx, rot_back 13 _ (by decide) (by decide), rot_back 3 _ (by decide) (by decide)]

theorem lin_inv (x : B4) : lin (inv x) = x := by
  obtain ⟨x0, x1, x2, x3⟩ := x
  simp only [inv, lin]
  rw [rot_back 19 _ (by decide) (by decide), rot_back 29 _ (by decide) (by decide)]
  rw [xx (rot 31 x1), xx (rot 25 x3), rot_back 31 _ (by decide) (by decide), rot_back 25 _ (by decide) (by decide)]
  rw [xx (rot 27 x0), xx (rot 10 x2), rot_back 27 _ (by decide) (by decide), rot_back 10 _ (by decide) (by decide)]

def ors (x : B4) : BitVec 32 := x.a ||| x.b ||| x.c ||| x.d

/-- one bit alone -/
def One (v : BitVec 32) : Prop := v ≠ 0#32 ∧ v &&& (v - 1#32) = 0#32

theorem one_pow {v : BitVec 32} (h : One v) : ∃ i, i < 32 ∧ v = 1#32 <<< i := by
  obtain ⟨h0, h1⟩ := h
  have hn : v.toNat ≠ 0 := fun e => h0 (BitVec.eq_of_toNat_eq (by simpa using e))
  have hlt := v.isLt
  have hs : (v - 1#32).toNat = v.toNat - 1 := by
    rw [BitVec.toNat_sub]
    have : (1#32).toNat = 1 := rfl
    rw [this]
    omega
  have ha : v.toNat &&& (v.toNat - 1) = 0 := by
    have := congrArg BitVec.toNat h1
    rw [BitVec.toNat_and, hs] at this
    simpa using this
  have hlo : 2 ^ v.toNat.log2 ≤ v.toNat := Nat.log2_self_le hn
  have hhi : v.toNat < 2 ^ (v.toNat.log2 + 1) := Nat.lt_log2_self
  have hi : v.toNat.log2 < 32 := (Nat.log2_lt hn).2 hlt
  refine ⟨v.toNat.log2, hi, ?_⟩
  have heq : v.toNat = 2 ^ v.toNat.log2 := by
    apply Classical.byContradiction
    intro hne
    have b1 : v.toNat.testBit v.toNat.log2 = true := Nat.testBit_of_two_pow_le_and_two_pow_add_one_gt hlo hhi
    have b2 : (v.toNat - 1).testBit v.toNat.log2 = true := Nat.testBit_of_two_pow_le_and_two_pow_add_one_gt (by omega) (by omega)
    have b3 : (v.toNat &&& (v.toNat - 1)).testBit v.toNat.log2 = true := by rw [Nat.testBit_and, b1, b2]; rfl
    rw [ha] at b3
    simp at b3
  apply BitVec.eq_of_toNat_eq
  rw [BitVec.toNat_shiftLeft, Nat.shiftLeft_eq]
  have h1 : (1#32).toNat = 1 := rfl
  rw [h1, Nat.one_mul, ← heq, Nat.mod_eq_of_lt hlt]

/-- what lies under one bit is nothing or that bit -/
theorem under {i : Nat} (hi : i < 32) {x r : BitVec 32} (h : x ||| r = 1#32 <<< i) : x = 0#32 ∨ x = 1#32 <<< i := by
  have hb : ∀ j, j < 32 → j ≠ i → x.getLsbD j = false := by
    intro j hj hne
    have := congrArg (fun z : BitVec 32 => z.getLsbD j) h
    simp only [BitVec.getLsbD_or, BitVec.getLsbD_shiftLeft] at this
    have e : (decide (j < 32) && !decide (j < i) && (1#32).getLsbD (j - i)) = false := by
      by_cases hl : j < i
      · simp [hl]
      · have : j - i ≠ 0 := by omega
        simp [BitVec.getLsbD_one, this]
    rw [e] at this
    simp at this
    exact this.1
  by_cases hx : x.getLsbD i = true
  · right
    apply BitVec.eq_of_getLsbD_eq
    intro j hj
    by_cases e : j = i
    · subst e
      rw [hx]
      simp [hj]
    · rw [hb j hj e]
      have h2 := congrArg (fun z : BitVec 32 => z.getLsbD j) h
      by_cases hl : j < i
      · simp [BitVec.getLsbD_shiftLeft, hl]
      · have : j - i ≠ 0 := by omega
        simp [BitVec.getLsbD_shiftLeft, BitVec.getLsbD_one, this]
  · left
    apply BitVec.eq_of_getLsbD_eq
    intro j hj
    by_cases e : j = i
    · subst e
      simpa using hx
    · rw [hb j hj e]; simp

/-- the words of a block with one active column: the column and the nibble -/
def col (i n : Nat) : B4 :=
  ⟨if n.testBit 0 then 1#32 <<< i else 0#32, if n.testBit 1 then 1#32 <<< i else 0#32, if n.testBit 2 then 1#32 <<< i else 0#32, if n.testBit 3 then 1#32 <<< i else 0#32⟩
def oneB (v : BitVec 32) : Bool := v != 0#32 && (v &&& (v - 1#32)) == 0#32

theorem spread_all : ∀ i, i < 32 → ∀ n, n < 16 → oneB (ors (col i n)) = true → oneB (ors (lin (col i n))) = false := by decide +kernel

theorem one_iff (v : BitVec 32) : oneB v = true ↔ One v := by
  unfold oneB One
  simp

theorem col_of {x : B4} (h : One (ors x)) : ∃ i, i < 32 ∧ ∃ n, n < 16 ∧ x = col i n := by
  obtain ⟨i, hi, e⟩ := one_pow h
  obtain ⟨x0, x1, x2, x3⟩ := x
  unfold ors at e
  simp only at e
  have e0 := under hi (x := x0) (r := x1 ||| x2 ||| x3) (by rw [← e]; simp only [BitVec.or_assoc])
  have e1 := under hi (x := x1) (r := x0 ||| x2 ||| x3) (by rw [← e, ← BitVec.or_assoc, ← BitVec.or_assoc, BitVec.or_comm x1 x0])
  have e2 := under hi (x := x2) (r := x0 ||| x1 ||| x3) (by rw [← e, ← BitVec.or_assoc, BitVec.or_comm x2, BitVec.or_assoc, BitVec.or_assoc])
  have e3 := under hi (x := x3) (r := x0 ||| x1 ||| x2) (by rw [← e, BitVec.or_comm])
  refine ⟨i, hi, ?_⟩
  rcases e0 with rfl | rfl <;> rcases e1 with rfl | rfl <;> rcases e2 with rfl | rfl <;> rcases e3 with rfl | rfl
  · exact ⟨0, by decide, rfl⟩
  · exact ⟨8, by decide, rfl⟩
  · exact ⟨4, by decide, rfl⟩
  · exact ⟨12, by decide, rfl⟩
  · exact ⟨2, by decide, rfl⟩
  · exact ⟨10, by decide, rfl⟩
  · exact ⟨6, by decide, rfl⟩
  · exact ⟨14, by decide, rfl⟩
  · exact ⟨1, by decide, rfl⟩
  · exact ⟨9, by decide, rfl⟩
  · exact ⟨5, by decide, rfl⟩
  · exact ⟨13, by decide, rfl⟩
  · exact ⟨3, by decide, rfl⟩
  · exact ⟨11, by decide, rfl⟩
  · exact ⟨7, by decide, rfl⟩
  · exact ⟨15, by decide, rfl⟩

/-- THE SPREAD. -/
theorem spread (x : B4) (h : One (ors x)) : ¬ One (ors (lin x)) := by
  obtain ⟨i, hi, n, hn, rfl⟩ := col_of h
  have := spread_all i hi n hn ((one_iff _).2 h)
  intro h2
  rw [(one_iff _).2 h2] at this
  cases this

def zero4 : B4 := ⟨0#32, 0#32, 0#32, 0#32⟩
theorem lin_zero : lin zero4 = zero4 := by
  show B4.mk _ _ _ _ = _
  simp [zero4, rot]
theorem or0 {x y : BitVec 32} (h : x ||| y = 0#32) : x = 0#32 ∧ y = 0#32 := by
  constructor
  · apply BitVec.eq_of_getLsbD_eq
    intro j hj
    have := congrArg (fun z : BitVec 32 => z.getLsbD j) h
    simp at this
    simp [this]
  · apply BitVec.eq_of_getLsbD_eq
    intro j hj
    have := congrArg (fun z : BitVec 32 => z.getLsbD j) h
    simp at this
    simp [this]
theorem ors_zero {x : B4} (h : ors x = 0#32) : x = zero4 := by
  obtain ⟨x0, x1, x2, x3⟩ := x
  unfold ors at h
  simp only at h
  obtain ⟨g1, g2⟩ := or0 h
  obtain ⟨g3, g4⟩ := or0 g1
  obtain ⟨g5, g6⟩ := or0 g3
  rw [g2, g4, g5, g6]
  rfl

/-- what the count of set bits says -/
def Cnt (v : BitVec 32) (r : Nat) : Prop := (r = 0 → v = 0#32) ∧ (r = 1 → v &&& (v - 1#32) = 0#32)

/-- THE LAW's SECOND HALF, both ways. -/
theorem three (x : B4) (h : ors x ≠ 0#32 ∨ ors (lin x) ≠ 0#32) (r1 r2 : Nat) (c1 : Cnt (ors x) r1) (c2 : Cnt (ors (lin x)) r2) : 3 ≤ r1 + r2 := by
  have n1 : ors x ≠ 0#32 := by
    rcases h with h | h
    · exact h
    · intro e
      rw [ors_zero e, lin_zero] at h
      exact h rfl
  have n2 : ors (lin x) ≠ 0#32 := by
    intro e
    apply n1
    have e2 := ors_zero e
    have : x = zero4 := by
      have e3 := congrArg inv e2
      rw [inv_lin] at e3
      have e4 := congrArg inv lin_zero
      rw [inv_lin] at e4
      rw [e3, ← e4]
    rw [this]; rfl
  have a1 : r1 ≠ 0 := fun e => n1 (c1.1 e)
  have a2 : r2 ≠ 0 := fun e => n2 (c2.1 e)
  apply Classical.byContradiction
  intro hlt
  have b1 : r1 = 1 := by omega
  have b2 : r2 = 1 := by omega
  exact spread x ⟨n1, c1.2 b1⟩ ⟨n2, c2.2 b2⟩

end Go.Proofs.Qxb6618083a.Sp
