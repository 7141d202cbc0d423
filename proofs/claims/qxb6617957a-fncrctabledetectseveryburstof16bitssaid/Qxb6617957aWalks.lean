/-
  zzTableCRC and zzPolyRemainder compute the plain functions. Own work for this seat.
-/
import Derived.Test.Qxb6617957aTab
namespace Go.Proofs.Qxb6617957a
open Go.RowKit

/-- what a walk is told of a slice of bytes: its elements, each at its cell -/
def Row (w : World) (a : Option Addr) (len : Nat) (ds : List (BitVec 8)) : Prop :=
  ds.length = len ∧ ∀ i (h : i < ds.length), ∃ b off, a = some ⟨b, off, none⟩ ∧ w.cell? ⟨b, off + i, none⟩ = some (.int .u8 ((ds[i].toNat : Nat) : Int))

theorem take_snoc {α : Type} (l : List α) (k : Nat) (h : k < l.length) : l.take (k + 1) = l.take k ++ [l[k]] := by
  rw [List.take_succ_eq_append_getElem h]

theorem crc_snoc (l : List (BitVec 8)) (k : Nat) (h : k < l.length) : Crc.crcT (l.take (k + 1)) = Crc.stepT (Crc.crcT (l.take k)) l[k] := by
  rw [take_snoc l k h, Crc.crcT, List.foldl_append]; rfl
theorem rem_snoc (l : List (BitVec 8)) (k : Nat) (h : k < l.length) : Crc.rem (l.take (k + 1)) = Crc.pbyte (Crc.rem (l.take k)) l[k] := by
  rw [take_snoc l k h, Crc.rem, List.foldl_append]; rfl
theorem pbits_0 (c : BitVec 8) (r : BitVec 16) : Crc.pbits c 0 r = r := rfl
theorem pbits_succ (c : BitVec 8) (n : Nat) (r : BitVec 16) : Crc.pbits c (n + 1) r = Crc.pbit (Crc.pbits c n r) (c.getLsbD (7 - n)) := rfl
theorem pbits_8 (c : BitVec 8) (r : BitVec 16) : Crc.pbyte r c = Crc.pbits c 8 r := rfl

/-- the table at the byte that a round asks for -/
theorem tab_at (x : BitVec 8) : (Crc.cellsTo 256)[x.toNat]? = some (.int .u16 ((Crc.tab x).toNat : Int)) := by
  rw [cellsTo_get _ x.isLt, BitVec.ofNat_toNat, BitVec.setWidth_eq]

set_option maxRecDepth 1000000 in
set_option maxHeartbeats 400000 in
theorem crc_walk (a : Option Addr) (len cap : Nat) (ds : List (BitVec 8)) (w : World) (hs : len ≤ 1048576) (hrow : Row w a len ds) :
    Calls Try.prog 8 #[.agg (Crc.cellsTo 256), .slice a len cap] w fun e w' => e = .returned (.int .u16 ((Crc.crcT ds).toNat : Int)) ∧ w' = w.alloc (.cells (Crc.cellsTo 256) 25) := by
  obtain ⟨hl, hcell⟩ := hrow
  have HC : Hid (∀ i (h : i < ds.length), ∃ b off, a = some ⟨b, off, none⟩ ∧ w.cell? ⟨b, off + i, none⟩ = some (.int .u8 ((ds[i].toNat : Nat) : Int))) := hcell
  have HL : Hid (ds.length = len) := hl
  clear hl hcell
  go_enter Try.func8, Try.ntmps8
  go_wp2
  go_loop [5, 6] (fun r i => ∃ k : Nat, k ≤ len ∧ i = .int .i64 k ∧ r = .int .u16 ((Crc.crcT (ds.take k)).toNat : Int)) (fun _ i => len - (intOf i).toNat)
  case atStart => exact ⟨0, by omega, rfl, rfl⟩
  case round =>
    obtain ⟨k, hk, rfl, rfl⟩ := hrel
    by_cases hlt : (k : Int) < (len : Int)
    · have hkl : k < ds.length := by have := HL.out; omega
      obtain ⟨b, off, rfl, hc⟩ := HC.out k hkl
      have hb : b < w.heap.size := block_lt_of_cell hc
      have HS : Hid (Crc.crcT (ds.take (k + 1)) = Crc.stepT (Crc.crcT (ds.take k)) ds[k]) := crc_snoc ds k hkl
      generalize ds[k] = c at hc HS
      clear hkl HC
      generalize Crc.crcT (ds.take k) = r at HS ⊢
      have hx := Crc.xor8 r c
      have HS2 : Hid (Crc.stepT r c = (r <<< 8) ^^^ Crc.tab ((r >>> 8).setWidth 8 ^^^ c)) := rfl
      generalize (r >>> 8).setWidth 8 ^^^ c = x at hx HS2
      have hxl : (x.toNat : Int) < 256 := by have := x.isLt; omega
      have hta := tab_at x
      have hy := Crc.shl8 r (Crc.tab x)
      generalize Crc.tab x = t at hta hy HS2
      have HY : Hid (bits .xor .u16 (IntKind.u16.wrap ((r.toNat : Int) * 256)) (t.toNat : Int) = ((r <<< 8 ^^^ t).toNat : Int)) := hy
      have hrl : (r.toNat : Int) < 65536 := by have := r.isLt; omega
      clear hy
      go_wp2
      go_round
      case rel => exact ⟨k + 1, by omega, by go_num, by rw [HS.out, HS2.out, ← HY.out]⟩
      case measure => simp [intOf]; omega
    · have hkk : k = len := by omega
      have hta : Crc.crcT (ds.take k) = Crc.crcT ds := by rw [List.take_of_length_le (by have := HL.out; omega)]
      rw [hta]
      clear hkk hta
      go_wp2
      go_ret
      exact ⟨rfl, rfl⟩

set_option maxRecDepth 1000000 in
set_option maxHeartbeats 400000 in
theorem poly_walk (a : Option Addr) (len cap : Nat) (ds : List (BitVec 8)) (w : World) (hs : len ≤ 1048576) (hrow : Row w a len ds) :
    Calls Try.prog 9 #[.slice a len cap] w fun e w' => e = .returned (.int .u16 ((Crc.rem (ds ++ [0#8, 0#8])).toNat : Int)) ∧ w' = w := by
  obtain ⟨hl, hcell⟩ := hrow
  have HC : Hid (∀ i (h : i < ds.length), ∃ b off, a = some ⟨b, off, none⟩ ∧ w.cell? ⟨b, off + i, none⟩ = some (.int .u8 ((ds[i].toNat : Nat) : Int))) := hcell
  have HL : Hid (ds.length = len) := hl
  clear hl hcell
  go_enter Try.func9, Try.ntmps9
  go_wp2
  go_loop [3, 4] (fun r i => ∃ k : Nat, k ≤ len + 2 ∧ i = .int .i64 k ∧ r = .int .u32 ((Crc.rem ((ds ++ [0#8, 0#8]).take k)).toNat : Int)) (fun _ i => len + 2 - (intOf i).toNat)
  case atStart => exact ⟨0, by omega, rfl, rfl⟩
  case round =>
    obtain ⟨k, hk, rfl, rfl⟩ := hrel
    by_cases hlt : (k : Int) < (len : Int) + 2
    · have hk2 : k < (ds ++ [0#8, 0#8]).length := by have := HL.out; simp; omega
      have HS : Hid (Crc.rem ((ds ++ [0#8, 0#8]).take (k + 1)) = Crc.pbyte (Crc.rem ((ds ++ [0#8, 0#8]).take k)) (ds ++ [0#8, 0#8])[k]) := rem_snoc _ k hk2
      by_cases hlt2 : (k : Int) < (len : Int)
      · have hkl : k < ds.length := by have := HL.out; omega
        obtain ⟨b, off, rfl, hc⟩ := HC.out k hkl
        have hcc : (ds ++ [0#8, 0#8])[k] = ds[k] := List.getElem_append_left hkl
        rw [hcc] at HS
        clear hcc
        generalize ds[k] = c at hc HS
        clear hkl HC hk2
        generalize Crc.rem ((ds ++ [0#8, 0#8]).take k) = r at HS ⊢
        go_wp2
        go_loop [3, 6] (fun r3 j => ∃ n : Nat, n ≤ 8 ∧ j = .int .i64 (7 - (n : Int)) ∧ r3 = .int .u32 ((Crc.pbits c n r).toNat : Int)) (fun _ j => (intOf j + 1).toNat)
        case atStart => exact ⟨0, by omega, rfl, by rw [pbits_0]⟩
        case round =>
          obtain ⟨n, hn, rfl, rfl⟩ := hrel
          by_cases hn8 : (n : Int) ≤ 7
          · have H3 : Hid (Crc.pbits c (n + 1) r = Crc.pbit (Crc.pbits c n r) (c.getLsbD (7 - n))) := pbits_succ c n r
            generalize Crc.pbits c n r = q at H3 ⊢
            have hql : (q.toNat : Int) < 65536 := by have := q.isLt; omega
            have hcl : (c.toNat : Int) < 256 := by have := c.isLt; omega
            have hge : (0 : Int) ≤ 7 - (n : Int) := by omega
            obtain ⟨v, hv⟩ : ∃ v : Nat, v = q.toNat * 2 + (c.getLsbD (7 - n)).toNat := ⟨_, rfl⟩
            have hE := Crc.orForm q c (7 - n)
            have hT := Crc.msbForm q (c.getLsbD (7 - n))
            cases hm : q.msb with
            | true =>
              have hX := Crc.pbit_hi q (c.getLsbD (7 - n)) hm
              rw [hm] at hT
              rw [← hv] at hE hT hX
              generalize Crc.pbit q (c.getLsbD (7 - n)) = p at hX H3
              clear hm hv
              go_wp2
              go_round
              case rel => exact ⟨n + 1, by omega, by go_num, by rw [H3.out]⟩
              case measure => simp [intOf]; omega
            | false =>
              have hX := Crc.pbit_lo q (c.getLsbD (7 - n)) hm
              rw [hm] at hT
              rw [← hv] at hE hT hX
              have HX : Hid ((v : Int) = ((Crc.pbit q (c.getLsbD (7 - n))).toNat : Int)) := hX
              clear hm hv hX
              go_wp2
              go_round
              case rel => exact ⟨n + 1, by omega, by go_num, by rw [H3.out, ← HX.out]⟩
              case measure => simp [intOf]; omega
          · have hn9 : n = 8 := by omega
            have hp : Crc.pbits c n r = Crc.pbyte r c := by rw [hn9, pbits_8]
            rw [hp, ← HS.out]
            clear hp hn9
            go_wp2
            go_round
            case rel => exact ⟨k + 1, by omega, by go_num, rfl⟩
            case measure => simp [intOf]; omega
      · have hcc : (ds ++ [0#8, 0#8])[k] = 0#8 := by
          rw [List.getElem_append_right (by have := HL.out; omega)]
          have : k - ds.length = 0 ∨ k - ds.length = 1 := by have := HL.out; omega
          rcases this with h | h <;> simp [h]
        rw [hcc] at HS
        clear hcc hk2
        generalize Crc.rem ((ds ++ [0#8, 0#8]).take k) = r at HS ⊢
        go_wp2
        obtain ⟨c, hc0⟩ : ∃ c : BitVec 8, 0#8 = c := ⟨_, rfl⟩
        have HS' : Hid (Crc.rem ((ds ++ [0#8, 0#8]).take (k + 1)) = Crc.pbyte r c) := by rw [← hc0]; exact HS.out
        clear HS
        have HS : Hid (Crc.rem ((ds ++ [0#8, 0#8]).take (k + 1)) = Crc.pbyte r c) := HS'
        clear HS'
        have e0 : Value.int .u8 0 = Value.int .u8 (c.toNat : Int) := by rw [← hc0]; rfl
        rw [e0]
        clear e0 hc0
        go_loop [3, 6] (fun r3 j => ∃ n : Nat, n ≤ 8 ∧ j = .int .i64 (7 - (n : Int)) ∧ r3 = .int .u32 ((Crc.pbits c n r).toNat : Int)) (fun _ j => (intOf j + 1).toNat)
        case atStart => exact ⟨0, by omega, rfl, by rw [pbits_0]⟩
        case round =>
          obtain ⟨n, hn, rfl, rfl⟩ := hrel
          by_cases hn8 : (n : Int) ≤ 7
          · have H3 : Hid (Crc.pbits c (n + 1) r = Crc.pbit (Crc.pbits c n r) (c.getLsbD (7 - n))) := pbits_succ c n r
            generalize Crc.pbits c n r = q at H3 ⊢
            have hql : (q.toNat : Int) < 65536 := by have := q.isLt; omega
            have hcl : (c.toNat : Int) < 256 := by have := c.isLt; omega
            have hge : (0 : Int) ≤ 7 - (n : Int) := by omega
            obtain ⟨v, hv⟩ : ∃ v : Nat, v = q.toNat * 2 + (c.getLsbD (7 - n)).toNat := ⟨_, rfl⟩
            have hE := Crc.orForm q c (7 - n)
            have hT := Crc.msbForm q (c.getLsbD (7 - n))
            cases hm : q.msb with
            | true =>
              have hX := Crc.pbit_hi q (c.getLsbD (7 - n)) hm
              rw [hm] at hT
              rw [← hv] at hE hT hX
              generalize Crc.pbit q (c.getLsbD (7 - n)) = p at hX H3
              clear hm hv
              go_wp2
              go_round
              case rel => exact ⟨n + 1, by omega, by go_num, by rw [H3.out]⟩
              case measure => simp [intOf]; omega
            | false =>
              have hX := Crc.pbit_lo q (c.getLsbD (7 - n)) hm
              rw [hm] at hT
              rw [← hv] at hE hT hX
              have HX : Hid ((v : Int) = ((Crc.pbit q (c.getLsbD (7 - n))).toNat : Int)) := hX
              clear hm hv hX
              go_wp2
              go_round
              case rel => exact ⟨n + 1, by omega, by go_num, by rw [H3.out, ← HX.out]⟩
              case measure => simp [intOf]; omega
          · have hn9 : n = 8 := by omega
            have hp : Crc.pbits c n r = Crc.pbyte r c := by rw [hn9, pbits_8]
            rw [hp, ← HS.out]
            clear hp hn9
            go_wp2
            go_round
            case rel => exact ⟨k + 1, by omega, by go_num, rfl⟩
            case measure => simp [intOf]; omega
    · have hkk : k = len + 2 := by omega
      have hta : Crc.rem ((ds ++ [0#8, 0#8]).take k) = Crc.rem (ds ++ [0#8, 0#8]) := by rw [List.take_of_length_le (by have := HL.out; simp; omega)]
      rw [hta]
      clear hkk hta
      have hrl : ((Crc.rem (ds ++ [0#8, 0#8])).toNat : Int) < 65536 := by have := (Crc.rem (ds ++ [0#8, 0#8])).isLt; omega
      go_wp2
      go_ret
      exact ⟨rfl, rfl⟩

end Go.Proofs.Qxb6617957a
