/-
  THE TABLE: makeCRCTable and ZZMakeCRCTable hand back the 256 plain values. Own work for this seat.
-/
import Derived.Test.Qxb6617957aRows
import Derived.Test.Qxb6617957aPlain
import Derived.Test.Qxb6617957aBits
import Derived.WalkKit
import Derived.WalkSpells
import Derived.WalkLawsBesides
import Derived.OpenShut
import Derived.Below
import Derived.Deep.LoopGhost
import Derived.Deep.WholeRow
namespace Go.Proofs.Qxb6617957a
open Go.RowKit

theorem info25 : (Try.prog.info? 25).map (fun i => (i.zero, i.size)) = some (some (.agg (Array.replicate 256 (.int .u16 0))), 256) := by kernel_rfl
theorem size25 : (Try.prog.info? 25).map (·.size) = some 256 := (zero_of_info info25).2
/-- the table after k rounds -/
def Crc.cellsTo (k : Nat) : Array Value := Array.ofFn (n := 256) fun i => .int .u16 (if i.val < k then ((Crc.tab (BitVec.ofNat 8 i.val)).toNat : Int) else 0)

theorem cellsTo_size (k : Nat) : (Crc.cellsTo k).size = 256 := by simp [Crc.cellsTo]
theorem cellsTo_zero : (Array.replicate 256 (Value.int .u16 0)) = Crc.cellsTo 0 := by
  apply Array.ext
  · simp [Crc.cellsTo]
  · intro i h1 h2
    simp [Crc.cellsTo]
theorem cellsTo_at (k i : Nat) (h : i < (Crc.cellsTo k).size) : (Crc.cellsTo k)[i] = .int .u16 (if i < k then ((Crc.tab (BitVec.ofNat 8 i)).toNat : Int) else 0) := by
  simp only [Crc.cellsTo, Array.getElem_ofFn]
theorem cellsTo_set (k : Nat) : (Crc.cellsTo k).setIfInBounds k (.int .u16 ((Crc.tab (BitVec.ofNat 8 k)).toNat : Int)) = Crc.cellsTo (k + 1) := by
  apply Array.ext
  · rw [Array.size_setIfInBounds, cellsTo_size, cellsTo_size]
  · intro i h1 h2
    rw [Array.getElem_setIfInBounds]
    · by_cases e : k = i
      · subst e
        rw [if_pos rfl, cellsTo_at, if_pos (Nat.lt_succ_self _)]
      · have : (i < k + 1) ↔ i < k := by omega
        rw [if_neg e, cellsTo_at, cellsTo_at]
        simp only [this]
    · rw [cellsTo_size] at h2 ⊢
      exact h2
theorem cellsTo_get (j : Nat) (h : j < 256) : (Crc.cellsTo 256)[j]? = some (.int .u16 ((Crc.tab (BitVec.ofNat 8 j)).toNat : Int)) := by
  rw [Array.getElem?_eq_getElem (by rw [cellsTo_size]; exact h), cellsTo_at, if_pos h]
theorem cellsTo_cur (i : Nat) (h : i < 256) : (Crc.cellsTo i)[i]? = some (.int .u16 0) := by
  rw [Array.getElem?_eq_getElem (by rw [cellsTo_size]; exact h), cellsTo_at, if_neg (Nat.lt_irrefl _)]
theorem cellsTo_one (k : Nat) : (Crc.cellsTo k).all (·.oneCell') = true := by
  rw [Array.all_eq_true]
  intro i hi
  simp [Crc.cellsTo, Value.oneCell']

def Crc.x0 (i : Nat) : BitVec 16 := (BitVec.ofNat 8 i).setWidth 16 <<< 8
theorem tab_x0 (i : Nat) : Crc.tab (BitVec.ofNat 8 i) = Crc.itn 8 (Crc.x0 i) := rfl
theorem itn_succ (n : Nat) (x : BitVec 16) : Crc.itn (n + 1) x = Crc.s1 (Crc.itn n x) := rfl
theorem itn_0 (x : BitVec 16) : Crc.itn 0 x = x := rfl
theorem start256 (i : Nat) (h : i < 256) : (i : Int) * 256 = ((Crc.x0 i).toNat : Int) := by
  unfold Crc.x0
  rw [BitVec.toNat_shiftLeft, BitVec.toNat_setWidth, BitVec.toNat_ofNat, Nat.shiftLeft_eq]
  omega

set_option maxRecDepth 1000000 in
set_option maxHeartbeats 400000 in
theorem tab_walk (w : World) :
    Calls Try.prog 16 #[] w fun e w' => e = .returned (.agg (Crc.cellsTo 256)) ∧ w' = w.alloc (.cells (Crc.cellsTo 256) 25) := by
  have hv25 : ∀ w, (zeroValue 25).run Try.prog w = .ok (.agg (Crc.cellsTo 0)) w := by rw [← cellsTo_zero]; exact (zero_of_info info25).1
  go_enter Try.func16, Try.ntmps16
  go_wp2
  clear hv25
  go_loopg [3] 256 (fun g s3 wx => ∃ i : Nat, i + g = 256 ∧ s3 = .int .i64 i ∧ wx = w.alloc (.cells (Crc.cellsTo i) 25))
  case atStart => exact ⟨0, by omega, rfl, rfl⟩
  case round =>
    obtain ⟨i, hig, rfl, rfl⟩ := hrel
    cases gk with
    | zero =>
      have HI : Hid (i = 256) := by show i = 256; omega
      have hiz : ¬ ((i : Int) < 256) := by omega
      clear hig
      go_wp2_with (first | (refine wpList_load_row rfl 25 (.tmp 0) rfl w.heap.size rfl 25 (Crc.cellsTo i) (0, 0) _ (heap_alloc_last w _) Try.underlying25 rfl (by rw [cellsTo_size]; exact size25) ?_) | (refine wpList_store_row rfl 25 (.tmp 0) (.tmp 24) rfl w.heap.size (Crc.cellsTo i) rfl rfl 25 (Crc.cellsTo i) (heap_alloc_last w _) (by rw [cellsTo_size]; exact size25) rfl (cellsTo_one _) ?_; rw [World.setRow_alloc_new]))
      obtain rfl : i = 256 := HI.out
      refine bodyPost_ret (v := .agg (Crc.cellsTo 256)) ?_ rfl ⟨rfl, rfl⟩
      exact results_cell_row rfl _ _ w.heap.size 25 (Crc.cellsTo 256) (0, 0) _ rfl (heap_alloc_last w _) Try.underlying25 rfl (by rw [cellsTo_size]; exact size25)
    | succ g =>
      have hsz := cellsTo_size i
      have HG : Hid (i + (g + 1) = 256) := hig
      have H2 : Hid ((Crc.cellsTo i).setIfInBounds i (.int .u16 ((Crc.tab (BitVec.ofNat 8 i)).toNat : Int)) = Crc.cellsTo (i + 1)) := cellsTo_set i
      have hiI : (i : Int) < 256 := by omega
      clear hig
      go_wp2
      go_loopg [2, 9] 8 (fun g2 c j wx => ∃ n : Nat, n + g2 = 8 ∧ j = .int .i64 n ∧ c = .int .u16 ((Crc.itn n (Crc.x0 i)).toNat : Int) ∧ wx = w.alloc (.cells (Crc.cellsTo i) 25))
      case atStart => exact ⟨0, by omega, rfl, by rw [itn_0, start256 i (by omega)], rfl⟩
      case round =>
        obtain ⟨n, hn, rfl, rfl, rfl⟩ := hrel
        by_cases hn8 : (n : Int) < 8
        · have H3 : Hid (Crc.itn (n + 1) (Crc.x0 i) = Crc.s1 (Crc.itn n (Crc.x0 i))) := itn_succ _ _
          generalize Crc.itn n (Crc.x0 i) = q at H3 ⊢
          have ht := Crc.top16 q
          cases hm : q.msb with
          | true =>
            rw [hm] at ht
            have hx := Crc.s1_hi q hm
            clear hm
            go_wp2
            go_roundg (gk - 1)
            case measure => omega
            case rel => exact ⟨n + 1, by omega, by go_num, by rw [H3.out], rfl⟩
          | false =>
            rw [hm] at ht
            have hx := Crc.s1_lo q hm
            clear hm
            go_wp2
            go_roundg (gk - 1)
            case measure => omega
            case rel => exact ⟨n + 1, by omega, by go_num, by rw [H3.out], rfl⟩
        · have hn9 : n = 8 := by omega
          have ht : Crc.itn n (Crc.x0 i) = Crc.tab (BitVec.ofNat 8 i) := by rw [hn9, tab_x0]
          rw [ht]
          clear ht hn9
          generalize Crc.tab (BitVec.ofNat 8 i) = t at H2 ⊢
          have hi : i < 256 := by omega
          have hcl := cellsTo_cur i hi
          go_wp2
          go_roundg g
          case measure => omega
          case rel => exact ⟨i + 1, by have := HG.out; omega, by go_num, by rw [← H2.out]⟩

theorem setRow_alloc2 (w : World) (c c' : Array Value) (t : TypeId) (o : Obj) : ((w.alloc (.cells c t)).alloc o).setRow w.heap.size c' = (w.alloc (.cells c' t)).alloc o := by
  simp only [World.setRow, World.alloc]
  congr 1
  apply Array.ext_getElem?
  intro i
  rw [Array.getElem?_modify]
  by_cases h : w.heap.size = i
  · subst h
    simp [Array.getElem?_push]
  · have h' : ¬ i = w.heap.size := fun e => h e.symm
    simp [h, h', Array.getElem?_push]

set_option maxRecDepth 1000000 in
set_option maxHeartbeats 400000 in
theorem zztab_walk (w : World) :
    Calls Try.prog 7 #[] w fun e w' => e = .returned (.agg (Crc.cellsTo 256)) ∧ w' = (w.alloc (.cells (Crc.cellsTo 256) 25)).alloc (.cells (Crc.cellsTo 256) 25) := by
  have hv25 : ∀ w, (zeroValue 25).run Try.prog w = .ok (.agg (Crc.cellsTo 0)) w := by rw [← cellsTo_zero]; exact (zero_of_info info25).1
  go_enter Try.func7, Try.ntmps7
  go_wp2_with (first
    | (go_at_call 16; refine (tab_walk _).mono ?_; rintro e w' ⟨rfl, rfl⟩)
    | (refine wpList_store_row rfl 25 (.tmp 0) (.tmp 1) rfl w.heap.size (Crc.cellsTo 256) rfl rfl 25 (Crc.cellsTo 0) (heap_alloc2_old w _ _) (by rw [cellsTo_size]; exact size25) (by rw [cellsTo_size, cellsTo_size]) (cellsTo_one _) ?_; rw [setRow_alloc2]))
  refine bodyPost_ret (v := .agg (Crc.cellsTo 256)) ?_ rfl ⟨rfl, rfl⟩
  exact results_cell_row rfl _ _ w.heap.size 25 (Crc.cellsTo 256) (0, 0) _ rfl (heap_alloc2_old w _ _) Try.underlying25 rfl (by rw [cellsTo_size]; exact size25)
end Go.Proofs.Qxb6617957a
