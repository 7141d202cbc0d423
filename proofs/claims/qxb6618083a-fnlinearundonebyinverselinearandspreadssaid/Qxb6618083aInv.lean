/-
  'inverseLinear' computes the plain function. Own work for this seat.
-/
import Derived.Test.Qxb6618083aBase
namespace Go.Proofs.Qxb6618083a
open Go.RowKit

set_option maxRecDepth 100000 in
set_option maxHeartbeats 2000000 in
theorem inv_core (x0 x1 x2 x3 a2 a0 s3 t3 b2 t4 b0 a3 a1 s7 t7 b3 t8 b1 c2 c0 : BitVec 32) (w : World) (h1 : Hid (Sp.rot 10 x2 = a2)) (h2 : Hid (Sp.rot 27 x0 = a0)) (f3 : (x1.toNat : Int) * 128 % 4294967296 = (s3.toNat : Int)) (h3 : bits .xor .u32 (x3.toNat : Int) (s3.toNat : Int) = (t3.toNat : Int)) (g3 : bits .xor .u32 (a2.toNat : Int) (t3.toNat : Int) = (b2.toNat : Int)) (h4 : bits .xor .u32 (x1.toNat : Int) (x3.toNat : Int) = (t4.toNat : Int)) (g4 : bits .xor .u32 (a0.toNat : Int) (t4.toNat : Int) = (b0.toNat : Int)) (h5 : Hid (Sp.rot 25 x3 = a3)) (h6 : Hid (Sp.rot 31 x1 = a1)) (f7 : (b0.toNat : Int) * 8 % 4294967296 = (s7.toNat : Int)) (h7 : bits .xor .u32 (b2.toNat : Int) (s7.toNat : Int) = (t7.toNat : Int)) (g7 : bits .xor .u32 (a3.toNat : Int) (t7.toNat : Int) = (b3.toNat : Int)) (h8 : bits .xor .u32 (b0.toNat : Int) (b2.toNat : Int) = (t8.toNat : Int)) (g8 : bits .xor .u32 (a1.toNat : Int) (t8.toNat : Int) = (b1.toNat : Int)) (h9 : Hid (Sp.rot 29 b2 = c2)) (h10 : Hid (Sp.rot 19 b0 = c0)) :
    Calls Try.prog 13 #[.pointer (some ⟨w.heap.size, 0, none⟩)] (w.alloc (.cells (c4 x0 x1 x2 x3) 23)) fun e w' => e = .returned (.tuple #[]) ∧ w'.Alike (w.alloc (.cells (c4 c0 b1 c2 b3) 23)) := by
  unfold c4
  go_enter Try.func13, Try.ntmps13
  go_wp2
  go_region_with (go_at_call 15; refine (rot_walk x2 a2 (-22) 10 _ (by decide) (by decide) h1.out).mono ?_; rintro e w' ⟨rfl, rfl⟩)
  go_wp2
  go_region_with (go_at_call 15; refine (rot_walk x0 a0 (-5) 27 _ (by decide) (by decide) h2.out).mono ?_; rintro e w' ⟨rfl, rfl⟩)
  go_wp2
  go_region
  go_wp2
  go_region
  go_wp2
  go_region_with (go_at_call 15; refine (rot_walk x3 a3 (-7) 25 _ (by decide) (by decide) h5.out).mono ?_; rintro e w' ⟨rfl, rfl⟩)
  go_wp2
  go_region_with (go_at_call 15; refine (rot_walk x1 a1 (-1) 31 _ (by decide) (by decide) h6.out).mono ?_; rintro e w' ⟨rfl, rfl⟩)
  go_wp2
  go_region
  go_wp2
  go_region
  go_wp2
  go_region_with (go_at_call 15; refine (rot_walk b2 c2 (-3) 29 _ (by decide) (by decide) h9.out).mono ?_; rintro e w' ⟨rfl, rfl⟩)
  go_wp2
  go_region_with (go_at_call 15; refine (rot_walk b0 c0 (-13) 19 _ (by decide) (by decide) h10.out).mono ?_; rintro e w' ⟨rfl, rfl⟩)
  go_wp2
  go_end0
  exact ⟨rfl, rfl, rfl, rfl⟩

theorem inv_walk (x : Sp.B4) (w : World) :
    Calls Try.prog 13 #[.pointer (some ⟨w.heap.size, 0, none⟩)] (w.alloc (.cells (c4 x.a x.b x.c x.d) 23)) fun e w' => e = .returned (.tuple #[]) ∧ w'.Alike (w.alloc (.cells (c4 (Sp.inv x).a (Sp.inv x).b (Sp.inv x).c (Sp.inv x).d) 23)) :=
  inv_core x.a x.b x.c x.d _ _ _ _ _ _ _ _ _ _ _ _ _ _ _ _ w rfl rfl (shl_form _ 7) (xor_form _ _) (xor_form _ _) (xor_form _ _) (xor_form _ _) rfl rfl (shl_form _ 3) (xor_form _ _) (xor_form _ _) (xor_form _ _) (xor_form _ _) rfl rfl

end Go.Proofs.Qxb6618083a
