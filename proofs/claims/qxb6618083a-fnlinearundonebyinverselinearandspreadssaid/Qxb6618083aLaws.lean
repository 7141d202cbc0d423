/-
  The two laws' walks. Own work for this seat.
-/
import Derived.Test.Qxb6618083aCount
import Derived.Test.Qxb6618083aLin
import Derived.Test.Qxb6618083aInv
import Derived.Deep.RegionHeld3
namespace Go.Proofs.Qxb6618083a
open Go.RowKit

theorem zzlin_walk (x : Sp.B4) (w : World) (p : Nat) (hp : p = w.heap.size) :
    Calls Try.prog 7 #[.pointer (some ⟨p, 0, none⟩)] (w.alloc (.cells (c4 x.a x.b x.c x.d) 23)) fun e w' => e = .returned (.tuple #[]) ∧ w'.Alike (w.alloc (.cells (c4 (Sp.lin x).a (Sp.lin x).b (Sp.lin x).c (Sp.lin x).d) 23)) := by
  subst hp
  have HL : Hid (Calls Try.prog 12 #[.pointer (some ⟨w.heap.size, 0, none⟩)] (w.alloc (.cells (c4 x.a x.b x.c x.d) 23)) fun e w' => e = .returned (.tuple #[]) ∧ w'.Alike (w.alloc (.cells (c4 (Sp.lin x).a (Sp.lin x).b (Sp.lin x).c (Sp.lin x).d) 23))) := lin_walk x w
  go_enter Try.func7, Try.ntmps7
  go_wp2_with (go_at_call 12; refine HL.out.mono ?_; rintro e w' ⟨rfl, ha⟩)
  go_end0
  exact ⟨rfl, ha⟩
theorem zzinv_walk (x : Sp.B4) (w : World) (p : Nat) (hp : p = w.heap.size) :
    Calls Try.prog 8 #[.pointer (some ⟨p, 0, none⟩)] (w.alloc (.cells (c4 x.a x.b x.c x.d) 23)) fun e w' => e = .returned (.tuple #[]) ∧ w'.Alike (w.alloc (.cells (c4 (Sp.inv x).a (Sp.inv x).b (Sp.inv x).c (Sp.inv x).d) 23)) := by
  subst hp
  have HL : Hid (Calls Try.prog 13 #[.pointer (some ⟨w.heap.size, 0, none⟩)] (w.alloc (.cells (c4 x.a x.b x.c x.d) 23)) fun e w' => e = .returned (.tuple #[]) ∧ w'.Alike (w.alloc (.cells (c4 (Sp.inv x).a (Sp.inv x).b (Sp.inv x).c (Sp.inv x).d) 23))) := inv_walk x w
  go_enter Try.func8, Try.ntmps8
  go_wp2_with (go_at_call 13; refine HL.out.mono ?_; rintro e w' ⟨rfl, ha⟩)
  go_end0
  exact ⟨rfl, ha⟩

/-- what was there stays; new blocks at most -/
structure Keep (w w' : World) : Prop where
  os : w'.os = w.os
  output : w'.output = w.output
  size : w.heap.size ≤ w'.heap.size
  block : ∀ k, k < w.heap.size → w'.heap[k]? = w.heap[k]?
theorem Keep.refl (w : World) : Keep w w := ⟨rfl, rfl, Nat.le_refl _, fun _ _ => rfl⟩
theorem Keep.alloc {w w' : World} (h : Keep w w') (o : Obj) : Keep w (w'.alloc o) :=
  ⟨h.os, h.output, Nat.le_trans h.size (by simp), fun k hk => (Below.heap_alloc _ _ _ (Nat.lt_of_lt_of_le hk h.size)).trans (h.block k hk)⟩
theorem Keep.drew {w w' : World} (h : Keep w w') : Keep w w'.drew := ⟨h.os, h.output, h.size, h.block⟩
theorem Keep.alike {w w' w'' : World} (h : Keep w w') (ha : w''.Alike w') : Keep w w'' :=
  ⟨ha.2.1.trans h.os, ha.2.2.trans h.output, by rw [ha.1]; exact h.size, fun k hk => by rw [ha.1]; exact h.block k hk⟩
theorem Keep.trans {a b c : World} (h : Keep a b) (k : Keep b c) : Keep a c :=
  ⟨k.os.trans h.os, k.output.trans h.output, Nat.le_trans h.size k.size, fun i hi => (k.block i (Nat.lt_of_lt_of_le hi h.size)).trans (h.block i hi)⟩
theorem Keep.frame {W w' : World} (h : Keep W w') (may : MemPlace → Prop) : W.keptBut w' may := by
  refine ⟨h.os, h.output, fun i hi => ?_⟩
  rw [h.block i hi]
  split <;> simp_all

theorem info22 : ∃ i, Try.prog.info? 22 = some i := by
  have h : (Try.prog.info? 22).isSome = true := by kernel_rfl
  exact Option.isSome_iff_exists.1 h
theorem cells22 : Try.prog.cellsOf 22 = 1 := by kernel_rfl
/-- a block equals itself -/
theorem eq4 (a b c d : Int) (w : World) : (Op.equalIn 10000 23 (.agg #[.int .u32 a, .int .u32 b, .int .u32 c, .int .u32 d]) (.agg #[.int .u32 a, .int .u32 b, .int .u32 c, .int .u32 d])).run Try.prog w = .ok true w := by
  obtain ⟨i, hi⟩ := info22
  rw [show (10000 : Nat) = 9999 + 1 from rfl, run_equalIn_array w 9999 _ _ Try.underlying23 hi, cells22]
  have hr : List.range 4 = [0, 1, 2, 3] := rfl
  rw [hr]
  have hp : ∀ (xs : Array Value) (k : Nat) (v : Value) (w : World), xs[k]? = some v → (part 22 xs k).run Try.prog w = .ok v w := by
    intro xs k v w h
    simp [part, Try.isAgg22, h]
  have he : ∀ (p : Int) (w : World), (Op.equalIn 9999 22 (.int .u32 p) (.int .u32 p)).run Try.prog w = .ok true w := by
    intro p w
    rw [show (9999 : Nat) = 9998 + 1 from rfl, run_equalIn_int w 9998 22 .u32 .u32 p p Try.underlying22]
    simp
  simp only [Op.eqItems, Sem.run_bind, Nat.mul_one]
  rw [hp _ 0 (.int .u32 a) w rfl]
  simp only [Result.andThen_ok]
  rw [hp _ 0 (.int .u32 a) w rfl]
  simp only [Result.andThen_ok]
  rw [he]
  simp only [Result.andThen_ok, Bool.not_true, Bool.false_eq_true, if_false, Sem.run_bind]
  rw [hp _ 1 (.int .u32 b) w rfl]
  simp only [Result.andThen_ok]
  rw [hp _ 1 (.int .u32 b) w rfl]
  simp only [Result.andThen_ok]
  rw [he]
  simp only [Result.andThen_ok, Bool.not_true, Bool.false_eq_true, if_false, Sem.run_bind]
  rw [hp _ 2 (.int .u32 c) w rfl]
  simp only [Result.andThen_ok]
  rw [hp _ 2 (.int .u32 c) w rfl]
  simp only [Result.andThen_ok]
  rw [he]
  simp only [Result.andThen_ok, Bool.not_true, Bool.false_eq_true, if_false, Sem.run_bind]
  rw [hp _ 3 (.int .u32 d) w rfl]
  simp only [Result.andThen_ok]
  rw [hp _ 3 (.int .u32 d) w rfl]
  simp only [Result.andThen_ok]
  rw [he]
  simp only [Result.andThen_ok, Bool.not_true, Bool.false_eq_true, if_false, Sem.run_pure]

theorem cols4 (x0 x1 x2 x3 : BitVec 32) (w : World) :
    Calls Try.prog 10 #[.agg #[.int .u32 (x0.toNat : Int), .int .u32 (x1.toNat : Int), .int .u32 (x2.toNat : Int), .int .u32 (x3.toNat : Int)]] w fun e w' => ∃ r : Nat, e = .returned (.int .i64 (r : Int)) ∧ Sp.Cnt (Sp.ors ⟨x0, x1, x2, x3⟩) r ∧ r ≤ 4294967296 ∧ w' = w.alloc (.cells (c4 x0 x1 x2 x3) 23) := cols_walk ⟨x0, x1, x2, x3⟩ w
theorem nonzero4 (x0 x1 x2 x3 : BitVec 32) (w : World) :
    Calls Try.prog 9 #[.agg #[.int .u32 (x0.toNat : Int), .int .u32 (x1.toNat : Int), .int .u32 (x2.toNat : Int), .int .u32 (x3.toNat : Int)]] w fun e w' => e = .returned (.bool (Sp.ors ⟨x0, x1, x2, x3⟩ != 0#32)) ∧ w' = w.alloc (.cells (c4 x0 x1 x2 x3) 23) := nonzero_walk ⟨x0, x1, x2, x3⟩ w

theorem wrap_sum (a b : Nat) (ha : a ≤ 4294967296) (hb : b ≤ 4294967296) : IntKind.i64.wrap ((a : Int) + (b : Int)) = (a : Int) + (b : Int) := by
  rw [IntKind.wrap_i64]
  omega
/-- a block that holds four words -/
def At4 (w : World) (b : Nat) (x : Sp.B4) : Prop := w.heap[b]? = some (.cells (c4 x.a x.b x.c x.d) 23 (0, 0))
theorem At4.lt {w : World} {b : Nat} {x : Sp.B4} (h : At4 w b x) : b < w.heap.size := by
  unfold At4 at h
  apply Classical.byContradiction
  intro hn
  rw [Array.getElem?_eq_none (by omega)] at h
  cases h
theorem At4.cells {w : World} {b : Nat} {x : Sp.B4} (h : At4 w b x) : w.cell? ⟨b, 0, none⟩ = some (.int .u32 (x.a.toNat : Int)) ∧ w.cell? ⟨b, 1, none⟩ = some (.int .u32 (x.b.toNat : Int)) ∧ w.cell? ⟨b, 2, none⟩ = some (.int .u32 (x.c.toNat : Int)) ∧ w.cell? ⟨b, 3, none⟩ = some (.int .u32 (x.d.toNat : Int)) := by
  unfold At4 at h
  exact ⟨by rw [cell_of_row w b 0 _ 23 (0, 0) h]; rfl, by rw [cell_of_row w b 1 _ 23 (0, 0) h]; rfl, by rw [cell_of_row w b 2 _ 23 (0, 0) h]; rfl, by rw [cell_of_row w b 3 _ 23 (0, 0) h]; rfl⟩
theorem At4.keep {w w' : World} {b : Nat} {x : Sp.B4} (h : At4 w b x) (k : Keep w w') : At4 w' b x := by
  have := k.block b h.lt
  unfold At4 at h ⊢
  rw [this]; exact h
theorem At4.new (w : World) (x : Sp.B4) : At4 (w.alloc (.cells (c4 x.a x.b x.c x.d) 23)) w.heap.size x := heap_alloc_new w _
theorem At4.alike {w w' : World} {b : Nat} {x : Sp.B4} (h : At4 w b x) (k : w'.Alike w) : At4 w' b x := by
  unfold At4 at h ⊢
  rw [k.1]; exact h

set_option maxRecDepth 100000 in
set_option maxHeartbeats 800000 in
theorem law3 (x : Sp.B4) (w : World) : Calls Try.prog 3 #[.agg (c4 x.a x.b x.c x.d)] w fun e w' => e = .returned (.bool true) ∧ Keep w w' := by
  have h1 : ∀ w, (zeroValue 23).run Try.prog w = .ok (.agg #[.int .u32 0, .int .u32 0, .int .u32 0, .int .u32 0]) w := fun w => by kernel_rfl
  unfold c4
  go_enter Try.func3, Try.ntmps3
  go_wp2_with (fail)
  refine (zzlin_walk x (w.alloc (.cells (c4 x.a x.b x.c x.d) 23)) _ (by simp)).mono ?_
  rintro e w2 ⟨rfl, ha⟩
  have K2 : Hid (Keep w w2) := (((Keep.refl w).alloc _).alloc _).alike ha
  have X2 : Hid (At4 w2 w.heap.size x) := ((At4.new w x).keep ((Keep.refl _).alloc _)).alike ha
  have Y2 : Hid (At4 w2 (w.heap.size + 1) (Sp.lin x)) := by
    have := (At4.new (w.alloc (.cells (c4 x.a x.b x.c x.d) 23)) (Sp.lin x)).alike ha
    rwa [World.size_alloc] at this
  clear ha
  have HI : Hid (Sp.inv (Sp.lin x) = x) := Sp.inv_lin x
  obtain ⟨y, hy⟩ : ∃ y, Sp.lin x = y := ⟨_, rfl⟩
  rw [hy] at Y2 HI
  have HY : Hid (Sp.lin x = y) := hy
  clear hy
  obtain ⟨y0, y1, y2, y3⟩ := y
  obtain ⟨c0, c1, c2, c3⟩ := Y2.out.cells
  simp only at c0 c1 c2 c3
  go_wp2_with (fail)
  refine (zzinv_walk ⟨y0, y1, y2, y3⟩ w2 _ rfl).mono ?_
  rintro e w3 ⟨rfl, ha⟩
  rw [HI.out] at ha
  have K3 : Hid (Keep w w3) := (K2.out.alloc _).alike ha
  have X3 := (X2.out.keep ((Keep.refl w2).alloc _)).alike ha
  have Y3 := (Y2.out.keep ((Keep.refl w2).alloc _)).alike ha
  have Z3 := (At4.new w2 x).alike ha
  clear ha c0 c1 c2 c3 X2 Y2 K2
  obtain ⟨x0, x1, x2, x3⟩ := x
  obtain ⟨a0, a1, a2, a3⟩ := X3.cells
  obtain ⟨b0, b1, b2, b3⟩ := Y3.cells
  obtain ⟨d0, d1, d2, d3⟩ := Z3.cells
  simp only at a0 a1 a2 a3 b0 b1 b2 b3 d0 d1 d2 d3
  have HX3 : Hid (At4 w3 w.heap.size ⟨x0, x1, x2, x3⟩) := X3
  have HY3 : Hid (At4 w3 (w.heap.size + 1) ⟨y0, y1, y2, y3⟩) := Y3
  have hN : w.heap.size + 1 < w3.heap.size := Y3.lt
  have hN0 : w.heap.size < w3.heap.size := X3.lt
  clear X3 Y3 Z3
  have heq := eq4 (x0.toNat : Int) (x1.toNat : Int) (x2.toNat : Int) (x3.toNat : Int)
  go_wp2_with (fail)
  clear heq d0 d1 d2 d3
  by_cases hz : Sp.ors ⟨x0, x1, x2, x3⟩ = 0#32
  · have hnz : (Sp.ors ⟨x0, x1, x2, x3⟩ != 0#32) = false := by rw [hz]; rfl
    have HZ := nonzero4 x0 x1 x2 x3
    rw [hnz] at HZ
    have HZ' : Hid (∀ w, Calls Try.prog 9 #[.agg #[.int .u32 (x0.toNat : Int), .int .u32 (x1.toNat : Int), .int .u32 (x2.toNat : Int), .int .u32 (x3.toNat : Int)]] w fun e w' => e = .returned (.bool false) ∧ w' = w.alloc (.cells (c4 x0 x1 x2 x3) 23)) := HZ
    clear HZ hnz hz
    go_region_with (go_at_call 9; refine (HZ'.out _).mono ?_; rintro e w' ⟨rfl, rfl⟩)
    all_goals
      go_wp2
      go_ret
      exact ⟨rfl, by repeat (first | exact K3.out | apply Keep.drew | apply Keep.alloc)⟩
  · have hnz : (Sp.ors ⟨x0, x1, x2, x3⟩ != 0#32) = true := by rw [bne_iff_ne]; exact hz
    have HZ := nonzero4 x0 x1 x2 x3
    rw [hnz] at HZ
    have HZ' : Hid (∀ w, Calls Try.prog 9 #[.agg #[.int .u32 (x0.toNat : Int), .int .u32 (x1.toNat : Int), .int .u32 (x2.toNat : Int), .int .u32 (x3.toNat : Int)]] w fun e w' => e = .returned (.bool true) ∧ w' = w.alloc (.cells (c4 x0 x1 x2 x3) 23)) := HZ
    have H3 : Hid (∀ r1 r2 : Nat, Sp.Cnt (Sp.ors ⟨x0, x1, x2, x3⟩) r1 → Sp.Cnt (Sp.ors ⟨y0, y1, y2, y3⟩) r2 → 3 ≤ r1 + r2) := by
      intro r1 r2 c1 c2
      rw [← HY.out] at c2
      exact Sp.three ⟨x0, x1, x2, x3⟩ (.inl hz) r1 r2 c1 c2
    clear HZ hnz hz
    have h01 : w.heap.size < w3.heap.size + 1 := by omega
    have h02 : w.heap.size < w3.heap.size + 1 + 1 := by omega
    have h03 : w.heap.size < w3.heap.size + 1 + 1 + 1 := by omega
    go_region_held3 (fun w' => w.heap.size + 1 < w'.heap.size ∧ w.heap.size < w'.heap.size ∧ w'.cell? ⟨w.heap.size, 0, none⟩ = some (.int .u32 (x0.toNat : Int)) ∧ w'.cell? ⟨w.heap.size, 1, none⟩ = some (.int .u32 (x1.toNat : Int)) ∧ w'.cell? ⟨w.heap.size, 2, none⟩ = some (.int .u32 (x2.toNat : Int)) ∧ w'.cell? ⟨w.heap.size, 3, none⟩ = some (.int .u32 (x3.toNat : Int)) ∧ w'.cell? ⟨w.heap.size + 1, 0, none⟩ = some (.int .u32 (y0.toNat : Int)) ∧ w'.cell? ⟨w.heap.size + 1, 1, none⟩ = some (.int .u32 (y1.toNat : Int)) ∧ w'.cell? ⟨w.heap.size + 1, 2, none⟩ = some (.int .u32 (y2.toNat : Int)) ∧ w'.cell? ⟨w.heap.size + 1, 3, none⟩ = some (.int .u32 (y3.toNat : Int))) (simp [go_sem, *])
      (first
        | (go_at_call 9; refine (HZ'.out _).mono ?_; rintro e w' ⟨rfl, rfl⟩)
        | (go_at_call_of 10 x0; refine (cols4 x0 x1 x2 x3 _).mono ?_; rintro e w' ⟨r1, rfl, hc1, hr1, rfl⟩)
        | (go_at_call_of 10 y0; refine (cols4 y0 y1 y2 y3 _).mono ?_; rintro e w' ⟨r2, rfl, hc2, hr2, rfl⟩))
    have h3 := H3.out r1 r2 hc1 hc2
    rw [wrap_sum r1 r2 hr1 hr2]
    clear HZ' H3 a0 a1 a2 a3 b0 b1 b2 b3
    go_wp2
    go_ret
    exact ⟨rfl, by repeat (first | exact K3.out | apply Keep.drew | apply Keep.alloc)⟩

set_option maxRecDepth 100000 in
set_option maxHeartbeats 800000 in
theorem law5 (x : Sp.B4) (w : World) : Calls Try.prog 5 #[.agg (c4 x.a x.b x.c x.d)] w fun e w' => e = .returned (.bool true) ∧ Keep w w' := by
  have h1 : ∀ w, (zeroValue 23).run Try.prog w = .ok (.agg #[.int .u32 0, .int .u32 0, .int .u32 0, .int .u32 0]) w := fun w => by kernel_rfl
  unfold c4
  go_enter Try.func5, Try.ntmps5
  go_wp2_with (fail)
  refine (zzinv_walk x (w.alloc (.cells (c4 x.a x.b x.c x.d) 23)) _ (by simp)).mono ?_
  rintro e w2 ⟨rfl, ha⟩
  have K2 : Hid (Keep w w2) := (((Keep.refl w).alloc _).alloc _).alike ha
  have X2 : Hid (At4 w2 w.heap.size x) := ((At4.new w x).keep ((Keep.refl _).alloc _)).alike ha
  have Y2 : Hid (At4 w2 (w.heap.size + 1) (Sp.inv x)) := by
    have := (At4.new (w.alloc (.cells (c4 x.a x.b x.c x.d) 23)) (Sp.inv x)).alike ha
    rwa [World.size_alloc] at this
  clear ha
  have HI : Hid (Sp.lin (Sp.inv x) = x) := Sp.lin_inv x
  obtain ⟨y, hy⟩ : ∃ y, Sp.inv x = y := ⟨_, rfl⟩
  rw [hy] at Y2 HI
  have HY : Hid (Sp.inv x = y) := hy
  clear hy
  obtain ⟨y0, y1, y2, y3⟩ := y
  obtain ⟨c0, c1, c2, c3⟩ := Y2.out.cells
  simp only at c0 c1 c2 c3
  go_wp2_with (fail)
  refine (zzlin_walk ⟨y0, y1, y2, y3⟩ w2 _ rfl).mono ?_
  rintro e w3 ⟨rfl, ha⟩
  rw [HI.out] at ha
  have K3 : Hid (Keep w w3) := (K2.out.alloc _).alike ha
  have X3 := (X2.out.keep ((Keep.refl w2).alloc _)).alike ha
  have Y3 := (Y2.out.keep ((Keep.refl w2).alloc _)).alike ha
  have Z3 := (At4.new w2 x).alike ha
  clear ha c0 c1 c2 c3 X2 Y2 K2
  obtain ⟨x0, x1, x2, x3⟩ := x
  obtain ⟨a0, a1, a2, a3⟩ := X3.cells
  obtain ⟨b0, b1, b2, b3⟩ := Y3.cells
  obtain ⟨d0, d1, d2, d3⟩ := Z3.cells
  simp only at a0 a1 a2 a3 b0 b1 b2 b3 d0 d1 d2 d3
  have HX3 : Hid (At4 w3 w.heap.size ⟨x0, x1, x2, x3⟩) := X3
  have HY3 : Hid (At4 w3 (w.heap.size + 1) ⟨y0, y1, y2, y3⟩) := Y3
  have hN : w.heap.size + 1 < w3.heap.size := Y3.lt
  have hN0 : w.heap.size < w3.heap.size := X3.lt
  clear X3 Y3 Z3
  have heq := eq4 (x0.toNat : Int) (x1.toNat : Int) (x2.toNat : Int) (x3.toNat : Int)
  go_wp2_with (fail)
  clear heq d0 d1 d2 d3
  by_cases hz : Sp.ors ⟨x0, x1, x2, x3⟩ = 0#32
  · have hnz : (Sp.ors ⟨x0, x1, x2, x3⟩ != 0#32) = false := by rw [hz]; rfl
    have HZ := nonzero4 x0 x1 x2 x3
    rw [hnz] at HZ
    have HZ' : Hid (∀ w, Calls Try.prog 9 #[.agg #[.int .u32 (x0.toNat : Int), .int .u32 (x1.toNat : Int), .int .u32 (x2.toNat : Int), .int .u32 (x3.toNat : Int)]] w fun e w' => e = .returned (.bool false) ∧ w' = w.alloc (.cells (c4 x0 x1 x2 x3) 23)) := HZ
    clear HZ hnz hz
    go_region_with (go_at_call 9; refine (HZ'.out _).mono ?_; rintro e w' ⟨rfl, rfl⟩)
    all_goals
      go_wp2
      go_ret
      exact ⟨rfl, by repeat (first | exact K3.out | apply Keep.drew | apply Keep.alloc)⟩
  · have hnz : (Sp.ors ⟨x0, x1, x2, x3⟩ != 0#32) = true := by rw [bne_iff_ne]; exact hz
    have HZ := nonzero4 x0 x1 x2 x3
    rw [hnz] at HZ
    have HZ' : Hid (∀ w, Calls Try.prog 9 #[.agg #[.int .u32 (x0.toNat : Int), .int .u32 (x1.toNat : Int), .int .u32 (x2.toNat : Int), .int .u32 (x3.toNat : Int)]] w fun e w' => e = .returned (.bool true) ∧ w' = w.alloc (.cells (c4 x0 x1 x2 x3) 23)) := HZ
    have H3 : Hid (∀ r1 r2 : Nat, Sp.Cnt (Sp.ors ⟨x0, x1, x2, x3⟩) r1 → Sp.Cnt (Sp.ors ⟨y0, y1, y2, y3⟩) r2 → 3 ≤ r1 + r2) := by
      intro r1 r2 c1 c2
      rw [← HI.out] at c1 hz
      have := Sp.three ⟨y0, y1, y2, y3⟩ (.inr hz) r2 r1 c2 c1
      omega
    clear HZ hnz hz
    have h01 : w.heap.size < w3.heap.size + 1 := by omega
    have h02 : w.heap.size < w3.heap.size + 1 + 1 := by omega
    have h03 : w.heap.size < w3.heap.size + 1 + 1 + 1 := by omega
    go_region_held3 (fun w' => w.heap.size + 1 < w'.heap.size ∧ w.heap.size < w'.heap.size ∧ w'.cell? ⟨w.heap.size, 0, none⟩ = some (.int .u32 (x0.toNat : Int)) ∧ w'.cell? ⟨w.heap.size, 1, none⟩ = some (.int .u32 (x1.toNat : Int)) ∧ w'.cell? ⟨w.heap.size, 2, none⟩ = some (.int .u32 (x2.toNat : Int)) ∧ w'.cell? ⟨w.heap.size, 3, none⟩ = some (.int .u32 (x3.toNat : Int)) ∧ w'.cell? ⟨w.heap.size + 1, 0, none⟩ = some (.int .u32 (y0.toNat : Int)) ∧ w'.cell? ⟨w.heap.size + 1, 1, none⟩ = some (.int .u32 (y1.toNat : Int)) ∧ w'.cell? ⟨w.heap.size + 1, 2, none⟩ = some (.int .u32 (y2.toNat : Int)) ∧ w'.cell? ⟨w.heap.size + 1, 3, none⟩ = some (.int .u32 (y3.toNat : Int))) (simp [go_sem, *])
      (first
        | (go_at_call 9; refine (HZ'.out _).mono ?_; rintro e w' ⟨rfl, rfl⟩)
        | (go_at_call_of 10 x0; refine (cols4 x0 x1 x2 x3 _).mono ?_; rintro e w' ⟨r1, rfl, hc1, hr1, rfl⟩)
        | (go_at_call_of 10 y0; refine (cols4 y0 y1 y2 y3 _).mono ?_; rintro e w' ⟨r2, rfl, hc2, hr2, rfl⟩))
    have h3 := H3.out r1 r2 hc1 hc2
    rw [wrap_sum r1 r2 hr1 hr2]
    clear HZ' H3 a0 a1 a2 a3 b0 b1 b2 b3
    go_wp2
    go_ret
    exact ⟨rfl, by repeat (first | exact K3.out | apply Keep.drew | apply Keep.alloc)⟩

end Go.Proofs.Qxb6618083a
