/-
  The two guards, 'zzCommaJoin' and 'zzHasPrefix'. Own work for this seat.
-/
import Derived.Test.Qxb6619237aShelf
import Derived.ProofKit
import Derived.Deep.QuietTactic
import Derived.BigQuiet
namespace Go.Proofs.Qxb6619237a
open Go.RowKit

/-- bytes as a string -/
def bs (l : List UInt8) : ByteArray := ⟨l.toArray⟩
theorem bs_size (l : List UInt8) : (bs l).size = l.length := by simp [bs, ByteArray.size]
theorem bs_app (a b : List UInt8) : bs a ++ bs b = bs (a ++ b) := by
  apply ByteArray.ext
  simp [bs, ByteArray.data_append]
theorem bs_of (x : ByteArray) : bs x.data.toList = x := by
  apply ByteArray.ext
  simp [bs]
/-- the elements' bytes -/
def L (xs : List ByteArray) : List (List UInt8) := xs.map (·.data.toList)
theorem L_length (xs : List ByteArray) : (L xs).length = xs.length := by simp [L]
theorem L_get (xs : List ByteArray) (k : Nat) (h : k < xs.length) : (L xs)[k]'(by rw [L_length]; exact h) = xs[k].data.toList := by simp [L]
theorem size_data (x : ByteArray) : x.data.toList.length = x.size := by rw [ByteArray.size, Array.length_toList]

/-- what a walk is told of a slice of strings: its elements, each at its cell -/
def SRow (w : World) (a : Option Addr) (len : Nat) (xs : List ByteArray) : Prop :=
  xs.length = len ∧ ∀ i (h : i < xs.length), ∃ b off, a = some ⟨b, off, none⟩ ∧ w.cell? ⟨b, off + i, none⟩ = some (.string xs[i])

/-- a bool that, where it is true, tells P -/
def Says (P : Prop) (e : Ending) : Prop := ∃ b, e = .returned (.bool b) ∧ (b = true → P)
theorem Says.no (P : Prop) : Says P (.returned (.bool false)) := ⟨false, rfl, by simp⟩
theorem Says.yes {P : Prop} (h : P) : Says P (.returned (.bool true)) := ⟨true, rfl, fun _ => h⟩

set_option maxRecDepth 1000000 in
set_option maxHeartbeats 400000 in
theorem guard_walk (a : Option Addr) (len cap : Nat) (xs : List ByteArray) (k : Int) (w : World) (hrow : SRow w a len xs) :
    Calls Try.prog 11 #[.slice a len cap, .int .i64 k] w fun e w' => Says True e ∧ w' = w := by
  obtain ⟨hl, hcell⟩ := hrow
  have HC : Hid (∀ i (h : i < xs.length), ∃ b off, a = some ⟨b, off, none⟩ ∧ w.cell? ⟨b, off + i, none⟩ = some (.string xs[i])) := hcell
  have HL : Hid (xs.length = len) := hl
  clear hl hcell
  by_cases h1 : (1048576 : Int) < (len : Int)
  · go_enter Try.func11, Try.ntmps11
    go_wp2
    go_ret
    first | exact ⟨Says.no _, rfl⟩ | exact ⟨Says.yes trivial, rfl⟩
  · go_enter Try.func11, Try.ntmps11
    go_wp2
    go_loop [5, 6] (fun t i => ∃ (k : Nat) (n : Nat), k ≤ len ∧ n ≤ 1048576 ∧ i = .int .i64 k ∧ t = .int .i64 n) (fun _ i => len - (intOf i).toNat)
    case atStart => exact ⟨0, len, by omega, by omega, rfl, by go_num⟩
    case round =>
      obtain ⟨k, n, hk, hn, rfl, rfl⟩ := hrel
      by_cases hlt : (k : Int) < (len : Int)
      · have hkl : k < xs.length := by have := HL.out; omega
        obtain ⟨b, off, rfl, hc⟩ := HC.out k hkl
        generalize xs[k] = x at hc
        clear hkl HC
        by_cases hx : (1048576 : Int) < (x.size : Int)
        · go_wp2
          go_ret
          first | exact ⟨Says.no _, rfl⟩ | exact ⟨Says.yes trivial, rfl⟩
        · by_cases hs : (1048576 : Int) < (n : Int) + (x.size : Int)
          · go_wp2
            go_ret
            first | exact ⟨Says.no _, rfl⟩ | exact ⟨Says.yes trivial, rfl⟩
          · go_wp2
            go_round
            case rel => exact ⟨k + 1, n + x.size, by omega, by omega, by go_num, by go_num⟩
            case measure => simp [intOf]; omega
      · go_wp2
        go_ret
        first | exact ⟨Says.no _, rfl⟩ | exact ⟨Says.yes trivial, rfl⟩

set_option maxRecDepth 1000000 in
set_option maxHeartbeats 400000 in
theorem bytes_walk (a : Option Addr) (len cap : Nat) (xs : List ByteArray) (w : World) (hrow : SRow w a len xs) :
    Calls Try.prog 7 #[.slice a len cap, .int .i64 0] w fun e w' => Says (Ph.tot (L xs) ≤ 1048576) e ∧ w' = w := by
  obtain ⟨hl, hcell⟩ := hrow
  have HC : Hid (∀ i (h : i < xs.length), ∃ b off, a = some ⟨b, off, none⟩ ∧ w.cell? ⟨b, off + i, none⟩ = some (.string xs[i])) := hcell
  have HL : Hid (xs.length = len) := hl
  clear hl hcell
  by_cases h1 : (65536 : Int) < (len : Int)
  · go_enter Try.func7, Try.ntmps7
    go_wp2
    go_ret
    exact ⟨Says.no _, rfl⟩
  · go_enter Try.func7, Try.ntmps7
    go_wp2
    go_loop [5, 6] (fun t i => ∃ (k : Nat) (n : Nat), k ≤ len ∧ n ≤ 1048576 ∧ i = .int .i64 k ∧ t = .int .i64 n ∧ Hid (n = Ph.tot ((L xs).take k))) (fun _ i => len - (intOf i).toNat)
    case atStart => exact ⟨0, 0, by omega, by omega, rfl, rfl, rfl⟩
    case round =>
      obtain ⟨k, n, hk, hn, rfl, rfl, HN⟩ := hrel
      by_cases hlt : (k : Int) < (len : Int)
      · have hkl : k < xs.length := by have := HL.out; omega
        obtain ⟨b, off, rfl, hc⟩ := HC.out k hkl
        have HT : Hid (Ph.tot ((L xs).take (k + 1)) = n + (8 + xs[k].size)) := by
          have := Ph.tot_take (L xs) k (by rw [L_length]; exact hkl)
          rw [L_get xs k hkl, size_data, ← HN.out] at this
          exact this
        generalize xs[k] = x at hc HT
        clear hkl HC
        by_cases hx : (1048576 : Int) < (x.size : Int)
        · go_wp2
          go_ret
          exact ⟨Says.no _, rfl⟩
        · by_cases hs : (1048576 : Int) < (n : Int) + (8 + (x.size : Int))
          · go_wp2
            go_ret
            exact ⟨Says.no _, rfl⟩
          · go_wp2
            go_round
            case rel => exact ⟨k + 1, n + (8 + x.size), by omega, by omega, by go_num, by go_num, HT.out.symm⟩
            case measure => simp [intOf]; omega
      · have HF : Hid (Ph.tot (L xs) ≤ 1048576) := by
          have e := HN.out
          rw [List.take_of_length_le (by rw [L_length, HL.out]; omega)] at e
          show _ ≤ _
          omega
        go_wp2
        go_ret
        exact ⟨Says.yes HF.out, rfl⟩

set_option maxRecDepth 1000000 in
set_option maxHeartbeats 400000 in
theorem comma_walk (a : Option Addr) (len cap : Nat) (xs : List ByteArray) (w : World) (hrow : SRow w a len xs) (hb : Ph.tot (L xs) ≤ 1048576) :
    Calls Try.prog 9 #[.slice a len cap] w fun e w' => e = .returned (.string (bs (Ph.cj (L xs)))) ∧ w' = w := by
  obtain ⟨hl, hcell⟩ := hrow
  have HC : Hid (∀ i (h : i < xs.length), ∃ b off, a = some ⟨b, off, none⟩ ∧ w.cell? ⟨b, off + i, none⟩ = some (.string xs[i])) := hcell
  have HL : Hid (xs.length = len) := hl
  have HB : Hid (Ph.tot (L xs) ≤ 1048576) := hb
  have hlen : len ≤ 1048576 := by
    have := Ph.len_le (L xs)
    rw [L_length] at this
    omega
  clear hl hcell hb
  go_enter Try.func9, Try.ntmps9
  go_wp2
  go_loop [3, 4] (fun t i => ∃ k : Nat, k ≤ len ∧ i = .int .i64 k ∧ t = .string (bs (Ph.cj ((L xs).take k)))) (fun _ i => len - (intOf i).toNat)
  case atStart => exact ⟨0, by omega, rfl, rfl⟩
  case round =>
    obtain ⟨k, hk, rfl, rfl⟩ := hrel
    have HK : Hid ((Ph.cj ((L xs).take k)).length ≤ 1048576) := by
      have h1 := Ph.cj_le ((L xs).take k)
      have h2 := Ph.tot_take_le (L xs) k
      have h3 := HB.out
      show _ ≤ _
      omega
    by_cases hlt : (k : Int) < (len : Int)
    · have hkl : k < xs.length := by have := HL.out; omega
      obtain ⟨b, off, rfl, hc⟩ := HC.out k hkl
      have hlk : k < (L xs).length := by rw [L_length]; exact hkl
      have hx : xs[k].size ≤ 1048576 := by
        have h1 := Ph.elem_le (L xs) k hlk
        rw [L_get xs k hkl, size_data] at h1
        have h3 := HB.out
        omega
      by_cases hk0 : (0 : Int) < (k : Int)
      · have HE : Hid (bs (Ph.cj ((L xs).take (k + 1))) = bs (Ph.cj ((L xs).take k)) ++ bs Ph.comma ++ xs[k]) := by
          show _ = _
          rw [Ph.cj_next (L xs) k hlk (by omega), L_get xs k hkl, bs_app, ← bs_of xs[k], bs_app, bs_of]
        generalize xs[k] = x at hc HE hx
        have hs1 := bs_size (Ph.cj ((L xs).take k))
        have HK2 := HK.out
        obtain ⟨r, er⟩ : ∃ r, bs (Ph.cj ((L xs).take k)) = r := ⟨_, rfl⟩
        rw [er] at hs1 HE ⊢
        have hr : r.size ≤ 1048576 := by omega
        obtain ⟨r2, er2⟩ : ∃ r2, r ++ bs Ph.comma = r2 := ⟨_, rfl⟩
        have hr2 : r2.size ≤ 1048578 := by rw [← er2, ByteArray.size_append, bs_size]; simp [Ph.comma]; omega
        have er2' : r ++ ⟨#[44, 32]⟩ = r2 := er2
        have hA : ¬ (9223372036854775807 < r.size + 2) := by omega
        have hA1 : r.size ≤ 9223372036854775805 := by omega
        have hA2 : ¬ (9223372036854775807 < r2.size + x.size) := by omega
        have hA3 : r2.size + x.size ≤ 9223372036854775807 := by omega
        clear hr hr2 hx
        rw [er2] at HE
        clear er er2 hs1 HK2 HK hkl HC hlk
        go_wp2
        go_round
        case rel => exact ⟨k + 1, by omega, by go_num, by rw [HE.out]⟩
        case measure => simp [intOf]; omega
      · have hk1 : k = 0 := by omega
        subst hk1
        have HE : Hid (bs (Ph.cj ((L xs).take 1)) = xs[0]) := by
          show _ = _
          rw [Ph.cj_first (L xs) hlk, L_get xs 0 hkl, bs_of]
        rw [show bs (Ph.cj ((L xs).take 0)) = ⟨#[]⟩ from rfl]
        generalize xs[0] = x at hc HE hx
        have ex : (⟨#[]⟩ : ByteArray) ++ x = x := by apply ByteArray.ext; simp [ByteArray.data_append]
        have hA2 : ¬ (9223372036854775807 < x.size) := by omega
        have hA3 : x.size ≤ 9223372036854775807 := by omega
        rw [Nat.add_zero] at hc
        clear hx
        clear HK hkl HC hlk
        go_wp2
        go_round
        case rel => exact ⟨1, by omega, by go_num, by rw [HE.out]⟩
        case measure => simp [intOf]; omega
    · rw [List.take_of_length_le (by rw [L_length, HL.out]; omega)]
      clear HK
      go_wp2
      go_ret
      exact ⟨rfl, rfl⟩

end Go.Proofs.Qxb6619237a
