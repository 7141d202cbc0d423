/-
  THE PLAIN LAYER of the three journal laws: names of twenty digits; no Go in sight. Own work for this seat.
-/
import Derived.Lib.ParseIntBCases
import Derived.Lib.Strings
import GoSem.Op.String
namespace Go.Proofs.Qxb6618041aDoor.Jn
open Go.Lib

/-- the last l decimal digits of n -/
def digs : Nat → Nat → List UInt8
  | 0, _ => []
  | l + 1, n => digs l (n / 10) ++ [UInt8.ofNat (48 + n % 10)]

theorem digs_length (l n : Nat) : (digs l n).length = l := by
  induction l generalizing n with
  | zero => rfl
  | succ l ih => simp [digs, ih]

theorem dig_toNat (d : Nat) (h : d < 10) : (UInt8.ofNat (48 + d)).toNat = 48 + d := by
  rw [UInt8.toNat_ofNat']
  omega

def M64 : Nat := 18446744073709551615

theorem parse_append (M : Nat) (a b : List UInt8) (acc : Nat) : parseUintM M acc (a ++ b) = match parseUintM M acc a with | .ok v => parseUintM M v b | e => e := by
  induction a generalizing acc with
  | nil => rfl
  | cons c a ih =>
    simp only [List.cons_append, parseUintM]
    by_cases h1 : 48 ≤ c.toNat ∧ c.toNat ≤ 57
    · rw [if_pos h1, if_pos h1]
      by_cases h2 : 1844674407370955162 ≤ acc
      · rw [if_pos h2, if_pos h2]
      · rw [if_neg h2, if_neg h2]
        by_cases h3 : M < acc * 10 + (c.toNat - 48)
        · rw [if_pos h3, if_pos h3]
        · rw [if_neg h3, if_neg h3, ih]
    · rw [if_neg h1, if_neg h1]

theorem parse_one (acc d : Nat) (hd : d < 10) (h : acc * 10 + d ≤ M64) : parseUintM M64 acc [UInt8.ofNat (48 + d)] = .ok (acc * 10 + d) := by
  unfold M64 at *
  simp only [parseUintM]
  rw [dig_toNat d hd, if_pos ⟨by omega, by omega⟩, if_neg (by omega), if_neg (by omega)]
  congr 1
  omega

theorem parse_digs (l n : Nat) (hn : n < 10 ^ l) (h : n ≤ M64) : parseUintM M64 0 (digs l n) = .ok n := by
  induction l generalizing n with
  | zero =>
    have : n = 0 := by simpa using hn
    subst this
    rfl
  | succ l ih =>
    rw [digs, parse_append, ih (n / 10) (by rw [Nat.pow_succ] at hn; omega) (by omega)]
    show parseUintM M64 (n / 10) _ = _
    rw [parse_one (n / 10) (n % 10) (by omega) (by omega)]
    congr 1
    omega

/-- what is read as u is just u's digits -/
theorem digs_of_parse (k : Nat) : ∀ (l : List UInt8) (u : Nat), l.length = k → parseUintM M64 0 l = .ok u → l = digs k u ∧ u < 10 ^ k := by
  induction k with
  | zero =>
    intro l u hl h
    obtain rfl : l = [] := List.length_eq_zero_iff.1 hl
    have hu : u = 0 := by simpa [parseUintM] using h.symm
    subst hu
    exact ⟨rfl, by decide⟩
  | succ k ih =>
    intro l u hl h
    rcases List.eq_nil_or_concat l with rfl | ⟨a, c, rfl⟩
    · simp at hl
    · have ha : a.length = k := by simpa using hl
      rw [List.concat_eq_append, parse_append] at h
      cases hp : parseUintM M64 0 a with
      | ok v =>
        rw [hp] at h
        obtain ⟨e1, e2⟩ := ih a v ha hp
        have h' : parseUintM M64 v [c] = .ok u := h
        simp only [parseUintM] at h'
        by_cases h1 : 48 ≤ c.toNat ∧ c.toNat ≤ 57
        · rw [if_pos h1] at h'
          by_cases h2 : 1844674407370955162 ≤ v
          · rw [if_pos h2] at h'; cases h'
          · rw [if_neg h2] at h'
            by_cases h3 : M64 < v * 10 + (c.toNat - 48)
            · rw [if_pos h3] at h'; cases h'
            · rw [if_neg h3] at h'
              injection h' with h'
              have hu : u = v * 10 + (c.toNat - 48) := h'.symm
              have hv : u / 10 = v := by omega
              have hd : u % 10 = c.toNat - 48 := by omega
              have hc : UInt8.ofNat (48 + u % 10) = c := by
                apply UInt8.toNat_inj.1
                rw [dig_toNat _ (by omega), hd]
                omega
              refine ⟨?_, by rw [Nat.pow_succ]; omega⟩
              rw [digs, hv, hc, ← e1, List.concat_eq_append]
        · rw [if_neg h1] at h'; cases h'
      | _ => rw [hp] at h; cases h

theorem p20 : (10 : Nat) ^ 20 = 100000000000000000000 := by decide

def sfx : List UInt8 := [46, 106, 111, 117, 114, 110, 97, 108]
def dot : List UInt8 := [46]

/-- the documented name of file n -/
def nm (n : Nat) (dotted : Bool) : List UInt8 := (if dotted then dot else []) ++ (digs 20 n ++ sfx)

/-- the third way a parse ends: no row of digits -/
def bad : NumEnd Nat := parseUintB 64 []
theorem ends (e : NumEnd Nat) : (∃ u, e = .ok u) ∨ e = .range ∨ e = bad := by
  cases e
  · exact .inl ⟨_, rfl⟩
  · exact .inr (.inr rfl)
  · exact .inr (.inl rfl)
def outcome (e : NumEnd Nat) (b : Bool) : Nat × Bool × Bool :=
  match e with
  | .ok u => (u, true, b)
  | .range => (M64, false, b)
  | _ => (0, false, b)
theorem outcome_ok (u : Nat) (b : Bool) : outcome (.ok u) b = (u, true, b) := rfl
theorem outcome_range (b : Bool) : outcome .range b = (M64, false, b) := rfl
theorem outcome_bad (b : Bool) : outcome bad b = (0, false, b) := rfl

/-- what 'number' makes of a name -/
def num (l : List UInt8) : Nat × Bool × Bool :=
  if hasSuffix (trimPrefix l dot) sfx = true ∧ (trimSuffix (trimPrefix l dot) sfx).length = 20 then
    outcome (parseUintB 64 (trimSuffix (trimPrefix l dot) sfx)) (!hasPrefix l dot)
  else (0, false, false)

theorem parseB_ne {l : List UInt8} (h : l ≠ []) : parseUintB 64 l = parseUintM M64 0 l := by
  unfold parseUintB
  rw [if_neg h]
  rfl

theorem parseB_20 {l : List UInt8} (h : l.length = 20) : parseUintB 64 l = parseUintM M64 0 l :=
  parseB_ne (fun e => by rw [e] at h; simp at h)

theorem digs_head (n : Nat) : ∃ c r, digs 20 n = c :: r ∧ 48 ≤ c.toNat := by
  have hl := digs_length 20 n
  have key : ∀ l n, ∀ c ∈ digs l n, 48 ≤ c.toNat := by
    intro l
    induction l with
    | zero => intro n c hc; simp [digs] at hc
    | succ l ih =>
      intro n c hc
      rw [digs, List.mem_append] at hc
      rcases hc with hc | hc
      · exact ih _ c hc
      · rw [List.mem_singleton] at hc
        subst hc
        rw [dig_toNat _ (Nat.mod_lt _ (by omega))]
        omega
  cases e : digs 20 n with
  | nil => rw [e] at hl; simp at hl
  | cons c r => exact ⟨c, r, rfl, key 20 n c (by rw [e]; exact List.mem_cons_self)⟩

theorem hasSuffix_app (a s : List UInt8) : hasSuffix (a ++ s) s = true := by
  unfold hasSuffix
  rw [List.isSuffixOf_iff_suffix]
  exact ⟨a, rfl⟩
theorem trimSuffix_app (a s : List UInt8) : trimSuffix (a ++ s) s = a := by
  unfold trimSuffix
  rw [if_pos (hasSuffix_app a s)]
  simp
theorem hasSuffix_split {l s : List UInt8} (h : hasSuffix l s = true) : l = trimSuffix l s ++ s := by
  unfold hasSuffix at h
  rw [List.isSuffixOf_iff_suffix] at h
  obtain ⟨a, rfl⟩ := h
  rw [trimSuffix_app]

theorem hasPrefix_dot_cons (c : UInt8) (r : List UInt8) : hasPrefix (c :: r) dot = (46 == c) := by
  simp only [hasPrefix, dot, List.isPrefixOf, Bool.and_true]
theorem hasPrefix_digs (n : Nat) (s : List UInt8) : hasPrefix (digs 20 n ++ s) dot = false := by
  obtain ⟨c, r, e, hc⟩ := digs_head n
  rw [e, List.cons_append, hasPrefix_dot_cons, beq_eq_false_iff_ne]
  intro e
  rw [← e] at hc
  exact absurd hc (by decide)
theorem hasPrefix_dot (l : List UInt8) : hasPrefix (46 :: l) dot = true := by simp [hasPrefix, dot]
theorem trimPrefix_dot (l : List UInt8) : trimPrefix (46 :: l) dot = l := by
  unfold trimPrefix
  rw [if_pos (hasPrefix_dot l)]
  rfl
theorem trimPrefix_none {l : List UInt8} (h : hasPrefix l dot = false) : trimPrefix l dot = l := by
  unfold trimPrefix
  rw [if_neg (by simp [h])]

theorem nm_false (n : Nat) : nm n false = digs 20 n ++ sfx := by simp [nm]
theorem nm_true (n : Nat) : nm n true = 46 :: (digs 20 n ++ sfx) := by simp [nm, dot]

theorem nm_trim (n : Nat) (d : Bool) : trimPrefix (nm n d) dot = digs 20 n ++ sfx := by
  cases d with
  | false => rw [nm_false]; exact trimPrefix_none (hasPrefix_digs n sfx)
  | true => rw [nm_true]; exact trimPrefix_dot _
theorem nm_prefix (n : Nat) (d : Bool) : hasPrefix (nm n d) dot = d := by
  cases d with
  | false => rw [nm_false]; exact hasPrefix_digs n sfx
  | true => rw [nm_true]; exact hasPrefix_dot _

/-- A NAME READS BACK. -/
theorem num_nm (n : Nat) (d : Bool) (h : n ≤ M64) : num (nm n d) = (n, true, !d) := by
  unfold num
  rw [nm_trim, nm_prefix, trimSuffix_app, hasSuffix_app, parseB_20 (digs_length 20 n), parse_digs 20 n (by rw [p20]; unfold M64 at h; omega) h]
  rw [if_pos ⟨rfl, digs_length 20 n⟩, outcome_ok]

theorem hasPrefix_split {l : List UInt8} (h : hasPrefix l dot = true) : l = 46 :: trimPrefix l dot := by
  cases l with
  | nil => simp [hasPrefix, dot] at h
  | cons c r =>
    rw [hasPrefix_dot_cons] at h
    obtain rfl : 46 = c := by simpa using h
    rw [trimPrefix_dot]

/-- WHAT IS ACCEPTED IS A NAME. -/
theorem nm_num (l : List UInt8) (u : Nat) (b : Bool) (h : num l = (u, true, b)) : l = nm u (!b) ∧ u ≤ M64 := by
  unfold num at h
  by_cases hc : hasSuffix (trimPrefix l dot) sfx = true ∧ (trimSuffix (trimPrefix l dot) sfx).length = 20
  · rw [if_pos hc] at h
    rcases ends (parseUintB 64 (trimSuffix (trimPrefix l dot) sfx)) with ⟨v, hp⟩ | hp | hp
    · rw [hp, outcome_ok] at h
      have hle := parseUintB_le hp
      rw [parseB_20 hc.2] at hp
      obtain ⟨e1, _⟩ := digs_of_parse 20 _ _ hc.2 hp
      have e2 := hasSuffix_split hc.1
      rw [e1] at e2
      have hu : v = u := congrArg (fun t => t.1) h
      have hb : (!hasPrefix l dot) = b := congrArg (fun t => t.2.2) h
      subst hu
      refine ⟨?_, hle⟩
      rw [← hb, Bool.not_not]
      by_cases hd : hasPrefix l dot = true
      · rw [hd, nm_true, ← e2]
        exact hasPrefix_split hd
      · have hd' : hasPrefix l dot = false := by simpa using hd
        rw [hd', nm_false, ← e2, trimPrefix_none hd']
    · rw [hp, outcome_range] at h
      have := congrArg (fun t => t.2.1) h
      simp at this
    · rw [hp, outcome_bad] at h
      have := congrArg (fun t => t.2.1) h
      simp at this
  · rw [if_neg hc] at h
    have := congrArg (fun t => t.2.1) h
    simp at this

theorem num_le (l : List UInt8) : (num l).1 ≤ M64 := by
  unfold num
  by_cases hc : hasSuffix (trimPrefix l dot) sfx = true ∧ (trimSuffix (trimPrefix l dot) sfx).length = 20
  · rw [if_pos hc]
    rcases ends (parseUintB 64 (trimSuffix (trimPrefix l dot) sfx)) with ⟨v, hp⟩ | hp | hp
    · rw [hp, outcome_ok]; exact parseUintB_le hp
    · rw [hp, outcome_range]; exact Nat.le_refl _
    · rw [hp, outcome_bad]; exact Nat.zero_le _
  · rw [if_neg hc]; exact Nat.zero_le _

/-! THE DOT -/
theorem outcome_fst (e : NumEnd Nat) (b c : Bool) : (outcome e b).1 = (outcome e c).1 := by cases e <;> rfl
theorem outcome_snd (e : NumEnd Nat) (b c : Bool) : (outcome e b).2.1 = (outcome e c).2.1 := by cases e <;> rfl
theorem outcome_thd (e : NumEnd Nat) (b : Bool) : (outcome e b).2.2 = b := by cases e <;> rfl

theorem num_dot_none {l : List UInt8} (h : hasPrefix l dot = false) : (num (46 :: l)).1 = (num l).1 ∧ (num (46 :: l)).2.1 = (num l).2.1 ∧ (num (46 :: l)).2.2 = false ∧ ((num l).2.1 = true → (num l).2.2 = true) := by
  unfold num
  rw [trimPrefix_dot, trimPrefix_none h, hasPrefix_dot, h]
  by_cases hc : hasSuffix l sfx = true ∧ (trimSuffix l sfx).length = 20
  · rw [if_pos hc, if_pos hc]
    exact ⟨outcome_fst _ _ _, outcome_snd _ _ _, outcome_thd _ _, fun _ => outcome_thd _ _⟩
  · rw [if_neg hc, if_neg hc]
    exact ⟨rfl, rfl, rfl, fun h => by cases h⟩

theorem parse_dot (r : List UInt8) : parseUintM M64 0 (46 :: r) = bad := by
  simp only [parseUintM]
  rw [if_neg (by decide)]
  rfl

theorem num_dot_dot {l : List UInt8} (h : hasPrefix l dot = true) : num (46 :: l) = (0, false, false) := by
  unfold num
  rw [trimPrefix_dot, hasPrefix_dot]
  by_cases hc : hasSuffix l sfx = true ∧ (trimSuffix l sfx).length = 20
  · rw [if_pos hc]
    have hp : parseUintB 64 (trimSuffix l sfx) = bad := by
      have e := hasSuffix_split hc.1
      have e1 := hasPrefix_split h
      rw [parseB_20 hc.2]
      cases ec : trimSuffix l sfx with
      | nil => rw [ec] at hc; simp at hc
      | cons c r =>
        rw [ec, e1, List.cons_append] at e
        have e3 : 46 = c := (List.cons.inj e).1
        rw [← e3, parse_dot]
    rw [hp, outcome_bad]
    rfl
  · rw [if_neg hc]

/-! THE ORDER -/
theorem less_same (a x y : List UInt8) : Op.bytesLess (a ++ x) (a ++ y) = Op.bytesLess x y := by
  induction a with
  | nil => rfl
  | cons c a ih =>
    simp [Op.bytesLess, ih]
theorem less_irrefl (a : List UInt8) : Op.bytesLess a a = false := by
  induction a with
  | nil => rfl
  | cons c a ih => simp [Op.bytesLess, ih]

/-- two rows of one length, something behind each -/
theorem less_append (a b x y : List UInt8) (h : a.length = b.length) : Op.bytesLess (a ++ x) (b ++ y) = (Op.bytesLess a b || (a == b && Op.bytesLess x y)) := by
  induction a generalizing b with
  | nil =>
    cases b with
    | nil => simp [Op.bytesLess]
    | cons d b => simp at h
  | cons c a ih =>
    cases b with
    | nil => simp at h
    | cons d b =>
      simp only [List.cons_append, Op.bytesLess]
      rw [ih b (by simpa using h)]
      by_cases e : c = d
      · subst e
        simp
      · have e' : (c == d) = false := by simpa using e
        simp [e']

theorem less_one (d e : Nat) (hd : d < 10) (he : e < 10) : Op.bytesLess [UInt8.ofNat (48 + d)] [UInt8.ofNat (48 + e)] = decide (d < e) := by
  simp only [Op.bytesLess, Bool.and_false, Bool.or_false]
  have : (UInt8.ofNat (48 + d) < UInt8.ofNat (48 + e)) ↔ d < e := by
    rw [UInt8.lt_iff_toNat_lt, dig_toNat d hd, dig_toNat e he]
    omega
  exact decide_eq_decide.2 this

theorem digs_inj (l m n : Nat) (hm : m < 10 ^ l) (hn : n < 10 ^ l) : digs l m = digs l n ↔ m = n := by
  constructor
  · intro h
    induction l generalizing m n with
    | zero => simp at hm hn; omega
    | succ l ih =>
      rw [Nat.pow_succ] at hm hn
      rw [digs, digs] at h
      have h2 := List.append_inj h (by rw [digs_length, digs_length])
      have e1 := ih (m / 10) (n / 10) (by omega) (by omega) h2.1
      have e2 : UInt8.ofNat (48 + m % 10) = UInt8.ofNat (48 + n % 10) := by simpa using h2.2
      have e3 := congrArg UInt8.toNat e2
      rw [dig_toNat _ (by omega), dig_toNat _ (by omega)] at e3
      omega
  · intro h; rw [h]

theorem less_digs (l m n : Nat) (hm : m < 10 ^ l) (hn : n < 10 ^ l) : Op.bytesLess (digs l m) (digs l n) = decide (m < n) := by
  induction l generalizing m n with
  | zero =>
    simp at hm hn
    subst hm; subst hn
    rfl
  | succ l ih =>
    rw [Nat.pow_succ] at hm hn
    rw [digs, digs, less_append _ _ _ _ (by rw [digs_length, digs_length]), ih (m / 10) (n / 10) (by omega) (by omega), less_one _ _ (by omega) (by omega)]
    by_cases e : m / 10 = n / 10
    · rw [e]
      have : (m < n) ↔ (m % 10 < n % 10) := by omega
      simp [this]
    · have e' : digs l (m / 10) ≠ digs l (n / 10) := fun h => e ((digs_inj l _ _ (by omega) (by omega)).1 h)
      have : (m < n) ↔ (m / 10 < n / 10) := by omega
      simp [e', this]

theorem le_p20 {n : Nat} (h : n ≤ M64) : n < 10 ^ 20 := by rw [p20]; unfold M64 at h; omega

/-- THE NAMES' ORDER IS THE NUMBERS'. -/
theorem nm_less (m n : Nat) (d : Bool) (hm : m ≤ M64) (hn : n ≤ M64) : Op.bytesLess (nm m d) (nm n d) = decide (m < n) := by
  unfold nm
  rw [less_same, less_append _ _ _ _ (by rw [digs_length, digs_length]), less_irrefl, less_digs 20 m n (le_p20 hm) (le_p20 hn)]
  simp
theorem nm_eq (m n : Nat) (d : Bool) (hm : m ≤ M64) (hn : n ≤ M64) : (nm m d = nm n d) ↔ m = n := by
  unfold nm
  rw [List.append_cancel_left_eq, List.append_cancel_right_eq]
  exact digs_inj 20 m n (le_p20 hm) (le_p20 hn)
theorem nm_dot (n : Nat) : 46 :: nm n false = nm n true := by rw [nm_false, nm_true]

end Go.Proofs.Qxb6618041aDoor.Jn
