/-
  THE PLAIN LAYER of the two CRC laws: no Go in sight. 's1': one shift of a 16-bit word, reduced by 0x1021. Own work for this seat.
-/
namespace Go.Proofs.Qxb6617957a.Crc

def s1 (x : BitVec 16) : BitVec 16 := if x.msb then (x <<< 1) ^^^ 4129#16 else x <<< 1
def itn : Nat → BitVec 16 → BitVec 16
  | 0, x => x
  | n + 1, x => s1 (itn n x)
def tab (b : BitVec 8) : BitVec 16 := itn 8 ((b.setWidth 16) <<< 8)
def stepT (c : BitVec 16) (b : BitVec 8) : BitVec 16 := (c <<< 8) ^^^ tab ((c >>> 8).setWidth 8 ^^^ b)
def crcT (l : List (BitVec 8)) : BitVec 16 := l.foldl stepT 0#16
/-- one bit of the long division -/
def pbit (r : BitVec 16) (b : Bool) : BitVec 16 := s1 r ^^^ (if b then 1#16 else 0#16)
/-- the first n bits of a byte, the greatest first -/
def pbits (c : BitVec 8) : Nat → BitVec 16 → BitVec 16
  | 0, r => r
  | n + 1, r => pbit (pbits c n r) (c.getLsbD (7 - n))
def pbyte (r : BitVec 16) (c : BitVec 8) : BitVec 16 := pbits c 8 r
def rem (l : List (BitVec 8)) : BitVec 16 := l.foldl pbyte 0#16

theorem s1_xor (x y : BitVec 16) : s1 (x ^^^ y) = s1 x ^^^ s1 y := by
  unfold s1
  rw [BitVec.msb_xor, BitVec.shiftLeft_xor_distrib]
  cases x.msb <;> cases y.msb <;> simp [BitVec.xor_assoc]
  · rw [BitVec.xor_comm (y <<< 1) 4129#16]
  · rw [← BitVec.xor_assoc 4129#16, BitVec.xor_comm 4129#16 (y <<< 1), BitVec.xor_assoc (y <<< 1), BitVec.xor_self, BitVec.xor_zero]

theorem s1_zero : s1 0#16 = 0#16 := by decide

theorem s1_ne (x : BitVec 16) (h : x ≠ 0#16) : s1 x ≠ 0#16 := by
  unfold s1
  intro e
  by_cases m : x.msb
  · rw [if_pos m] at e
    have := congrArg (fun z : BitVec 16 => z.getLsbD 0) e
    simp at this
  · rw [if_neg m] at e
    apply h
    apply BitVec.eq_of_getLsbD_eq
    intro i hi
    by_cases h15 : i = 15
    · subst h15
      have : x.msb = false := by simpa using m
      rw [BitVec.msb_eq_getLsbD_last] at this
      simpa using this
    · have := congrArg (fun z : BitVec 16 => z.getLsbD (i + 1)) e
      simp at this
      have h2 := this (by omega)
      simpa using h2

theorem itn_xor (n : Nat) (x y : BitVec 16) : itn n (x ^^^ y) = itn n x ^^^ itn n y := by
  induction n with
  | zero => rfl
  | succ n ih => simp only [itn]; rw [ih, s1_xor]
theorem itn_zero (n : Nat) : itn n 0#16 = 0#16 := by
  induction n with
  | zero => rfl
  | succ n ih => simp only [itn]; rw [ih, s1_zero]
theorem itn_ne (n : Nat) (x : BitVec 16) (h : x ≠ 0#16) : itn n x ≠ 0#16 := by
  induction n with
  | zero => exact h
  | succ n ih => exact s1_ne _ ih
theorem itn_add (m n : Nat) (x : BitVec 16) : itn (m + n) x = itn m (itn n x) := by
  induction m with
  | zero => simp [itn]
  | succ m ih => rw [Nat.add_right_comm]; simp only [itn]; rw [ih]

/-- a byte shifted eight times meets no reduction -/
theorem itn8_byte : ∀ b : BitVec 8, itn 8 (b.setWidth 16) = (b.setWidth 16) <<< 8 := by decide +kernel

theorem tab_xor (a b : BitVec 8) : tab (a ^^^ b) = tab a ^^^ tab b := by
  unfold tab
  rw [BitVec.setWidth_xor, BitVec.shiftLeft_xor_distrib, itn_xor]

theorem split16 (c : BitVec 16) : c = ((c.setWidth 8).setWidth 16) ^^^ ((((c >>> 8).setWidth 8).setWidth 16) <<< 8) := by
  apply BitVec.eq_of_getLsbD_eq
  intro i hi
  simp [BitVec.getLsbD_shiftLeft, BitVec.getLsbD_setWidth]
  by_cases h : i < 8
  · simp [h, hi]
  · have h8 : i - 8 < 8 := by omega
    simp [h, hi, h8, show i - 8 < 16 by omega, show 8 + (i - 8) = i by omega]

theorem low8 (c : BitVec 16) : ((c.setWidth 8).setWidth 16) <<< 8 = c <<< 8 := by
  apply BitVec.eq_of_getLsbD_eq
  intro i hi
  simp [BitVec.getLsbD_shiftLeft, BitVec.getLsbD_setWidth]
  by_cases h : i < 8
  · simp [h]
  · simp [h, hi, show i - 8 < 16 by omega, show i - 8 < 8 by omega]

/-- the table-driven step is eight plain steps over the word with the byte laid at its head -/
theorem stepT_eq (c : BitVec 16) (b : BitVec 8) : stepT c b = itn 8 c ^^^ tab b := by
  unfold stepT
  rw [tab_xor, ← BitVec.xor_assoc]
  congr 1
  conv => rhs; rw [split16 c]
  rw [itn_xor, itn8_byte, low8]
  rfl

theorem pbits_xor (c : BitVec 8) (n : Nat) (r : BitVec 16) : pbits c n r = itn n r ^^^ pbits c n 0#16 := by
  induction n with
  | zero => simp [pbits, itn]
  | succ n ih =>
    simp only [pbits, itn, pbit]
    rw [ih, s1_xor, BitVec.xor_assoc]
theorem pbyte_byte : ∀ c : BitVec 8, pbits c 8 0#16 = c.setWidth 16 := by decide +kernel
theorem pbyte_eq (r : BitVec 16) (c : BitVec 8) : pbyte r c = itn 8 r ^^^ c.setWidth 16 := by
  unfold pbyte
  rw [pbits_xor, pbyte_byte]

theorem crc_rem_aux (l : List (BitVec 8)) (c r : BitVec 16) (h : c = itn 16 r) : l.foldl stepT c = itn 16 (l.foldl pbyte r) := by
  induction l generalizing c r with
  | nil => exact h
  | cons b l ih =>
    simp only [List.foldl]
    apply ih
    rw [stepT_eq, pbyte_eq, itn_xor, h, ← itn_add, ← itn_add, show 8 + 16 = 16 + 8 from rfl]
    congr 1
    have e : itn 16 (b.setWidth 16) = itn 8 (itn 8 (b.setWidth 16)) := itn_add 8 8 _
    rw [e, itn8_byte]
    rfl

theorem foldl_two (l : List (BitVec 8)) : rem (l ++ [0#8, 0#8]) = itn 16 (rem l) := by
  unfold rem
  rw [List.foldl_append]
  simp only [List.foldl]
  rw [pbyte_eq, pbyte_eq]
  simp only [show (0#8).setWidth 16 = 0#16 from rfl, BitVec.xor_zero]
  rw [← itn_add]

/-- THE FIRST LAW, PLAIN. -/
theorem crc_eq_rem (l : List (BitVec 8)) : crcT l = rem (l ++ [0#8, 0#8]) := by
  rw [foldl_two]
  exact crc_rem_aux l _ _ (itn_zero 16).symm

/-! THE SECOND LAW, PLAIN. -/
theorem xor4 (p q r t : BitVec 16) : (p ^^^ q) ^^^ (r ^^^ t) = (p ^^^ r) ^^^ (q ^^^ t) := by
  rw [BitVec.xor_assoc, ← BitVec.xor_assoc q, BitVec.xor_comm q r, BitVec.xor_assoc r, ← BitVec.xor_assoc p]
theorem stepT_xor (c d : BitVec 16) (x y : BitVec 8) : stepT (c ^^^ d) (x ^^^ y) = stepT c x ^^^ stepT d y := by
  rw [stepT_eq, stepT_eq, stepT_eq, itn_xor, tab_xor, xor4]
theorem crc_xor_aux (a b : List (BitVec 8)) (h : a.length = b.length) (c d : BitVec 16) :
    (List.zipWith (fun x y => x ^^^ y) a b).foldl stepT (c ^^^ d) = a.foldl stepT c ^^^ b.foldl stepT d := by
  induction a generalizing b c d with
  | nil =>
    cases b with
    | nil => rfl
    | cons y b => simp at h
  | cons x a ih =>
    cases b with
    | nil => simp at h
    | cons y b =>
      simp only [List.zipWith, List.foldl]
      rw [stepT_xor]
      exact ih b (by simpa using h) _ _
theorem crc_xor (a b : List (BitVec 8)) (h : a.length = b.length) : crcT (List.zipWith (fun x y => x ^^^ y) a b) = crcT a ^^^ crcT b := by
  have := crc_xor_aux a b h 0#16 0#16
  simpa [crcT] using this

def errP (n pos : Nat) (hi lo : BitVec 8) : List (BitVec 8) := ((List.replicate n 0#8).set pos hi).set (pos + 1) lo
def flipP (l : List (BitVec 8)) (pos : Nat) (hi lo : BitVec 8) : List (BitVec 8) := (l.set pos (l.getD pos 0#8 ^^^ hi)).set (pos + 1) (l.getD (pos + 1) 0#8 ^^^ lo)

theorem flip_eq (l : List (BitVec 8)) (pos : Nat) (hi lo : BitVec 8) : flipP l pos hi lo = List.zipWith (fun x y => x ^^^ y) l (errP l.length pos hi lo) := by
  apply List.ext_getElem
  · simp [flipP, errP]
  · intro i h1 h2
    simp only [flipP, errP, List.getElem_zipWith, List.getElem_set, List.getElem_replicate]
    have hi' : i < l.length := by simpa [flipP] using h1
    by_cases e1 : pos + 1 = i
    · subst e1
      simp [List.getD, List.getElem?_eq_getElem hi']
    · by_cases e2 : pos = i
      · subst e2
        simp [List.getD, List.getElem?_eq_getElem hi']
      · simp [e1, e2]

theorem err_split (n pos : Nat) (hi lo : BitVec 8) (h : pos + 2 ≤ n) : errP n pos hi lo = List.replicate pos 0#8 ++ hi :: lo :: List.replicate (n - pos - 2) 0#8 := by
  obtain ⟨m, rfl⟩ : ∃ m, n = pos + (m + 2) := ⟨n - pos - 2, by omega⟩
  rw [show pos + (m + 2) - pos - 2 = m by omega]
  unfold errP
  rw [← List.replicate_append_replicate, List.set_append_right _ _ (by simp), List.set_append_right _ _ (by simp)]
  congr 1
  simp [List.replicate_succ]

theorem foldl_zeros (k : Nat) (c : BitVec 16) (h : c ≠ 0#16) : (List.replicate k 0#8).foldl stepT c ≠ 0#16 := by
  induction k generalizing c with
  | zero => exact h
  | succ k ih =>
    simp only [List.replicate_succ, List.foldl]
    apply ih
    rw [stepT_eq, show tab 0#8 = 0#16 from by decide, BitVec.xor_zero]
    exact itn_ne 8 c h
theorem foldl_zeros0 (k : Nat) : (List.replicate k 0#8).foldl stepT 0#16 = 0#16 := by
  induction k with
  | zero => rfl
  | succ k ih =>
    simp only [List.replicate_succ, List.foldl]
    rw [show stepT 0#16 0#8 = 0#16 from by decide]
    exact ih

theorem err_ne (n pos : Nat) (m : BitVec 16) (hm : m ≠ 0#16) (h : pos + 2 ≤ n) : crcT (errP n pos ((m >>> 8).setWidth 8) (m.setWidth 8)) ≠ 0#16 := by
  rw [err_split n pos _ _ h]
  unfold crcT
  rw [List.foldl_append, foldl_zeros0]
  simp only [List.foldl]
  apply foldl_zeros
  rw [stepT_eq, stepT_eq, itn_zero, BitVec.zero_xor]
  unfold tab
  rw [← itn_xor, ← itn8_byte (m.setWidth 8), ← itn_xor]
  apply itn_ne
  apply itn_ne
  rw [BitVec.xor_comm, ← split16]
  exact hm

/-- what the second law asks: the sums differ, they differ by the error's own sum, which is its remainder -/
theorem burst (l : List (BitVec 8)) (pos : Nat) (m : BitVec 16) (hm : m ≠ 0#16) (h : pos + 2 ≤ l.length) :
    crcT l ≠ crcT (flipP l pos ((m >>> 8).setWidth 8) (m.setWidth 8)) ∧
    crcT l ^^^ crcT (flipP l pos ((m >>> 8).setWidth 8) (m.setWidth 8)) = crcT (errP l.length pos ((m >>> 8).setWidth 8) (m.setWidth 8)) := by
  have hl : l.length = (errP l.length pos ((m >>> 8).setWidth 8) (m.setWidth 8)).length := by simp [errP]
  have e := crc_xor l _ hl
  rw [← flip_eq] at e
  have hne := err_ne l.length pos m hm h
  have e2 : crcT l ^^^ crcT (flipP l pos ((m >>> 8).setWidth 8) (m.setWidth 8)) = crcT (errP l.length pos ((m >>> 8).setWidth 8) (m.setWidth 8)) := by
    rw [e, ← BitVec.xor_assoc, BitVec.xor_self, BitVec.zero_xor]
  refine ⟨fun hx => hne ?_, e2⟩
  rw [← e2, ← hx, BitVec.xor_self]

end Go.Proofs.Qxb6617957a.Crc
