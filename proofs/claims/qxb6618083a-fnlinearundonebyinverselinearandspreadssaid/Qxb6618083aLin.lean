/-
  'linear' computes the plain function. Own work for this seat.
-/
import Derived.Test.Qxb6618083aBase
namespace Go.Proofs.Qxb6618083a
open Go.RowKit

set_option maxRecDepth 100000 in
set_option maxHeartbeats 2000000 in
theorem lin_core (x0 x1 x2 x3 a0 a2 t3 a1 s4 t4 a3 b1 b3 t7 b0 s8 t8 b2 c0 c2 : BitVec 32) (w : World) (h1 : Hid (Sp.rot 13 x0 = a0)) (h2 : Hid (Sp.rot 3 x2 = a2)) (h3 : bits .xor .u32 (a0.toNat : Int) (a2.toNat : Int) = (t3.toNat : Int)) (g3 : bits .xor .u32 (x1.toNat : Int) (t3.toNat : Int) = (a1.toNat : Int)) (f4 : (a0.toNat : Int) * 8 % 4294967296 = (s4.toNat : Int)) (h4 : bits .xor .u32 (a2.toNat : Int) (s4.toNat : Int) = (t4.toNat : Int)) (g4 : bits .xor .u32 (x3.toNat : Int) (t4.toNat : Int) = (a3.toNat : Int)) (h5 : Hid (Sp.rot 1 a1 = b1)) (h6 : Hid (Sp.rot 7 a3 = b3)) (h7 : bits .xor .u32 (b1.toNat : Int) (b3.toNat : Int) = (t7.toNat : Int)) (g7 : bits .xor .u32 (a0.toNat : Int) (t7.toNat : Int) = (b0.toNat : Int)) (f8 : (b1.toNat : Int) * 128 % 4294967296 = (s8.toNat : Int)) (h8 : bits .xor .u32 (b3.toNat : Int) (s8.toNat : Int) = (t8.toNat : Int)) (g8 : bits .xor .u32 (a2.toNat : Int) (t8.toNat : Int) = (b2.toNat : Int)) (h9 : Hid (Sp.rot 5 b0 = c0)) (h10 : Hid (Sp.rot 22 b2 = c2)) :
    Calls Try.prog 12 #[.pointer (some ⟨w.heap.size, 0, none⟩)] (w.alloc (.cells (c4 x0 x1 x2 x3) 23)) fun e w' => e = .returned (.tuple #[]) ∧ w'.Alike (w.alloc (.cells (c4 c0 b1 c2 b3) 23)) := by
  unfold c4
  go_enter Try.func12, Try.ntmps12
  go_wp2
  go_region_with (go_at_call 15; refine (rot_walk x0 a0 (13) 13 _ (by decide) (by decide) h1.out).mono ?_; rintro e w' ⟨rfl, rfl⟩)
  go_wp2
  go_region_with (go_at_call 15; refine (rot_walk x2 a2 (3) 3 _ (by decide) (by decide) h2.out).mono ?_; rintro e w' ⟨rfl, rfl⟩)
  go_wp2
  go_region
  go_wp2
  go_region
  go_wp2
  go_region_with (go_at_call 15; refine (rot_walk a1 b1 (1) 1 _ (by decide) (by decide) h5.out).mono ?_; rintro e w' ⟨rfl, rfl⟩)
  go_wp2
  go_region_with (go_at_call 15; refine (rot_walk a3 b3 (7) 7 _ (by decide) (by decide) h6.out).mono ?_; rintro e w' ⟨rfl, rfl⟩)
  go_wp2
  go_region
  go_wp2
  go_region
  go_wp2
  go_region_with (go_at_call 15; refine (rot_walk b0 c0 (5) 5 _ (by decide) (by decide) h9.out).mono ?_; rintro e w' ⟨rfl, rfl⟩)
  go_wp2
  go_region_with (go_at_call 15; refine (rot_walk b2 c2 (22) 22 _ (by decide) (by decide) h10.out).mono ?_; rintro e w' ⟨rfl, rfl⟩)
  go_wp2
  go_end0
  exact ⟨rfl, rfl, rfl, rfl⟩

theorem lin_walk (x : Sp.B4) (w : World) :
    Calls Try.prog 12 #[.pointer (some ⟨w.heap.size, 0, none⟩)] (w.alloc (.cells (c4 x.a x.b x.c x.d) 23)) fun e w' => e = .returned (.tuple #[]) ∧ w'.Alike (w.alloc (.cells (c4 (Sp.lin x).a (Sp.lin x).b (Sp.lin x).c (Sp.lin x).d) 23)) :=
  lin_core x.a x.b x.c x.d _ _ _ _ _ _ _ _ _ _ _ _ _ _ _ _ w rfl rfl (xor_form _ _) (xor_form _ _) (shl_form _ 3) (xor_form _ _) (xor_form _ _) rfl rfl (xor_form _ _) (xor_form _ _) (shl_form _ 7) (xor_form _ _) (xor_form _ _) rfl rfl

end Go.Proofs.Qxb6618083a
