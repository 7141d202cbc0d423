/-
  'linear', 'inverseLinear' and their two wrappers compute the plain functions. Own work for this seat.
-/
import Derived.Test.Qxb6618083aRows
import Derived.Test.Qxb6618083aPlain
import Derived.WalkKit
import Derived.WalkSpells
import Derived.WalkLawsBesides
import Derived.OpenShut
import Derived.Below
import Derived.BigRegion
import Derived.RegionTactic
import Derived.Deep.RegionWith
import Derived.Laws.BitsAllLaws
namespace Go.Proofs.Qxb6618083a
open Go.RowKit

theorem rot_form (x : BitVec 32) (m : Nat) : bits .or .u32 ((x.toNat : Int) * 2 ^ m % 4294967296) ((x.toNat : Int) / 2 ^ (32 - m)) = ((Sp.rot m x).toNat : Int) := by
  have hx := x.isLt
  have e1 : (x.toNat : Int) * 2 ^ m % 4294967296 = ((x.toNat * 2 ^ m % 4294967296 : Nat) : Int) := by simp
  have e2 : (x.toNat : Int) / 2 ^ (32 - m) = ((x.toNat / 2 ^ (32 - m) : Nat) : Int) := by simp
  rw [e1, e2, u32_or_nat _ _ (Nat.mod_lt _ (by decide)) (Nat.lt_of_le_of_lt (Nat.div_le_self _ _) hx)]
  unfold Sp.rot
  rw [BitVec.toNat_or, BitVec.toNat_shiftLeft, BitVec.toNat_ushiftRight, Nat.shiftLeft_eq, Nat.shiftRight_eq_div_pow]

set_option maxRecDepth 100000 in
set_option maxHeartbeats 400000 in
theorem rot_walk (x y : BitVec 32) (k : Int) (m : Nat) (w : World) (hm : m < 32) (hb : bits .and .u64 (IntKind.u64.wrap k) 31 = (m : Int)) (hy : Sp.rot m x = y) :
    Calls Try.prog 15 #[.int .u32 (x.toNat : Int), .int .i64 k] w fun e w' => e = .returned (.int .u32 (y.toNat : Int)) ∧ w' = w := by
  have hmI : (m : Int) < 32 := by omega
  have hxl : (x.toNat : Int) < 4294967296 := by have := x.isLt; omega
  have hf := rot_form x m
  rw [hy] at hf
  clear hy
  go_enter Try.func15, Try.ntmps15
  go_wp2
  go_ret
  exact ⟨rfl, rfl⟩

theorem xor_form (x y : BitVec 32) : bits .xor .u32 (x.toNat : Int) (y.toNat : Int) = ((x ^^^ y).toNat : Int) := by
  rw [u32_xor_nat _ _ x.isLt y.isLt, BitVec.toNat_xor]
theorem shl_form (x : BitVec 32) (m : Nat) : (x.toNat : Int) * 2 ^ m % 4294967296 = ((x <<< m).toNat : Int) := by
  rw [BitVec.toNat_shiftLeft, Nat.shiftLeft_eq]
  simp

/-- four words as cells -/
def c4 (a b c d : BitVec 32) : Array Value := #[.int .u32 (a.toNat : Int), .int .u32 (b.toNat : Int), .int .u32 (c.toNat : Int), .int .u32 (d.toNat : Int)]

end Go.Proofs.Qxb6618083a
