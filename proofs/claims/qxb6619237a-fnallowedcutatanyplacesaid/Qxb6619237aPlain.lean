/-
  THE PLAIN LAYER of the law on 'Allowed': lists of bytes; no Go in sight. Own work for this seat.
-/
import Derived.Lib.Join
namespace Go.Proofs.Qxb6619237a.Ph
open Go.Lib

def comma : List UInt8 := [44, 32]
def many : List UInt8 := [116, 104, 101, 32, 118, 97, 108, 117, 101, 115, 32, 97, 114, 101, 32]
def one : List UInt8 := [116, 104, 101, 32, 111, 110, 101, 32, 118, 97, 108, 117, 101, 32, 105, 115, 32]
def andW : List UInt8 := [97, 110, 100]
def cj (ls : List (List UInt8)) : List UInt8 := join ls comma
def jl (ls : List (List UInt8)) (c : List UInt8) : List UInt8 := if 2 ≤ ls.length then cj ls.dropLast ++ [32] ++ c ++ [32] ++ ls.getLastD [] else join ls []
def allowedL (ls : List (List UInt8)) : List UInt8 := if ls.length = 1 then one ++ ls.headD [] else many ++ jl ls andW

theorem cj_app (a b : List (List UInt8)) (ha : a ≠ []) (hb : b ≠ []) : cj (a ++ b) = cj a ++ comma ++ cj b := by
  cases a with
  | nil => exact absurd rfl ha
  | cons x r =>
    cases b with
    | nil => exact absurd rfl hb
    | cons y s =>
      unfold cj
      rw [List.cons_append, join_cons, join_cons, join_cons]
      simp [joinTail, List.append_assoc]

theorem jl_two {ls : List (List UInt8)} (h : 2 ≤ ls.length) (c : List UInt8) : jl ls c = cj ls.dropLast ++ [32] ++ c ++ [32] ++ ls.getLastD [] := by
  unfold jl
  rw [if_pos h]

theorem allowed_many {ls : List (List UInt8)} (h : ls.length ≠ 1) : allowedL ls = many ++ jl ls andW := by
  unfold allowedL
  rw [if_neg h]
theorem allowed_one (x : List UInt8) : allowedL [x] = one ++ x := rfl
theorem allowed_none : allowedL [] = many := by simp [allowedL, jl, join_nil]

/-- the tail is one value -/
theorem cut_one (a : List (List UInt8)) (x : List UInt8) (ha : a ≠ []) : allowedL (a ++ [x]) = many ++ cj a ++ [32, 97, 110, 100, 32] ++ x := by
  have hl : 1 ≤ a.length := by
    cases a with
    | nil => exact absurd rfl ha
    | cons y r => simp
  rw [allowed_many (by simp; omega), jl_two (by simp; omega)]
  simp [andW, List.append_assoc]

/-- the tail is two values or more -/
theorem cut_many (a b : List (List UInt8)) (ha : a ≠ []) (hb : 2 ≤ b.length) : allowedL (a ++ b) = many ++ cj a ++ comma ++ jl b andW ∧ allowedL b = many ++ jl b andW := by
  have hl : 1 ≤ a.length := by
    cases a with
    | nil => exact absurd rfl ha
    | cons y r => simp
  refine ⟨?_, allowed_many (by omega)⟩
  rw [allowed_many (by simp; omega), jl_two (by simp; omega), jl_two hb]
  obtain ⟨c, x, rfl⟩ : ∃ c x, b = c ++ [x] := by
    rcases List.eq_nil_or_concat b with rfl | ⟨c, x, rfl⟩
    · simp at hb
    · exact ⟨c, x, by simp⟩
  have hc : c ≠ [] := by
    intro e
    subst e
    simp at hb
  rw [← List.append_assoc a c [x], List.dropLast_concat, List.dropLast_concat, cj_app a c ha hc]
  simp [List.append_assoc]

/-- the sum that the guard bounds -/
def tot : List (List UInt8) → Nat
  | [] => 0
  | x :: r => 8 + x.length + tot r
theorem tot_app (a b : List (List UInt8)) : tot (a ++ b) = tot a + tot b := by
  induction a with
  | nil => simp [tot]
  | cons x a ih => simp [tot, ih]; omega
theorem tot_take (l : List (List UInt8)) (k : Nat) (h : k < l.length) : tot (l.take (k + 1)) = tot (l.take k) + (8 + l[k].length) := by
  rw [List.take_succ_eq_append_getElem h, tot_app]
  simp [tot]
theorem tail_le (sep : List UInt8) (hs : sep.length ≤ 8) (r : List (List UInt8)) : (joinTail sep r).length ≤ tot r := by
  induction r with
  | nil => simp [joinTail]
  | cons x r ih =>
    simp only [joinTail, List.map_cons, List.flatten_cons, List.length_append, tot] at ih ⊢
    omega
theorem join_le (sep : List UInt8) (hs : sep.length ≤ 8) (l : List (List UInt8)) : (join l sep).length ≤ tot l := by
  cases l with
  | nil => simp [join_nil]
  | cons x r =>
    rw [join_cons, List.length_append]
    have := tail_le sep hs r
    simp only [tot]
    omega
theorem cj_le (l : List (List UInt8)) : (cj l).length ≤ tot l := join_le comma (by decide) l
theorem tot_take_le (l : List (List UInt8)) (k : Nat) : tot (l.take k) ≤ tot l := by
  have := tot_app (l.take k) (l.drop k)
  rw [List.take_append_drop] at this
  omega
theorem tot_drop_le (l : List (List UInt8)) (k : Nat) : tot (l.drop k) ≤ tot l := by
  have := tot_app (l.take k) (l.drop k)
  rw [List.take_append_drop] at this
  omega
theorem elem_le (l : List (List UInt8)) (k : Nat) (h : k < l.length) : l[k].length ≤ tot l := by
  have h1 := tot_take l k h
  have h2 := tot_take_le l (k + 1)
  omega
theorem len_le (l : List (List UInt8)) : l.length ≤ tot l := by
  induction l with
  | nil => simp [tot]
  | cons x r ih => simp [tot]; omega

/-- one round of 'zzCommaJoin' -/
theorem cj_next (l : List (List UInt8)) (k : Nat) (h : k < l.length) (h0 : 0 < k) : cj (l.take (k + 1)) = cj (l.take k) ++ comma ++ l[k] := by
  rw [List.take_succ_eq_append_getElem h, cj_app _ _ (by
    intro e
    have e2 := congrArg List.length e
    rw [List.length_take, List.length_nil] at e2
    omega) (by simp)]
  simp [cj, join_one]
theorem cj_first (l : List (List UInt8)) (h : 0 < l.length) : cj (l.take 1) = l[0] := by
  cases l with
  | nil => simp at h
  | cons x r => simp [cj, join_one]
theorem cj_none : cj [] = [] := rfl

end Go.Proofs.Qxb6619237a.Ph
