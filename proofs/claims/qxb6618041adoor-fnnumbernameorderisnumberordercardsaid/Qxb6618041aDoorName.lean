/-
  'zzName' writes the plain name 'Jn.nm'. Own work for this seat.
-/
import Derived.Test.Qxb6618041aDoorNumber
import Derived.Lib.AppendStr
import Derived.Laws.IdiomStrings
import Derived.Deep.LoopGhost
import Derived.Laws.OwnMore
import Derived.ProofKit
namespace Go.Proofs.Qxb6618041aDoor
open Go.RowKit

/-- the digit row after j rounds -/
def dcells (n j : Nat) : Array Value := (List.replicate (20 - j) (Value.int .u8 0) ++ (Jn.digs j n).map (fun b => Value.int .u8 (b.toNat : Int))).toArray

theorem digs_cons (j : Nat) : ∀ n, Jn.digs (j + 1) n = UInt8.ofNat (48 + n / 10 ^ j % 10) :: Jn.digs j n := by
  induction j with
  | zero => intro n; simp [Jn.digs]
  | succ j ih =>
    intro n
    rw [Jn.digs, ih (n / 10), Jn.digs, List.cons_append]
    congr 3
    rw [Nat.div_div_eq_div_mul, Nat.pow_succ, Nat.mul_comm]

theorem dcells_size (n j : Nat) (h : j ≤ 20) : (dcells n j).size = 20 := by
  simp [dcells, Jn.digs_length]; omega

theorem dcells_cur (n j : Nat) (h : j < 20) : (dcells n j)[19 - j]? = some (.int .u8 0) := by
  unfold dcells
  rw [List.getElem?_toArray, List.getElem?_append_left (by simp; omega), List.getElem?_replicate, if_pos (by omega)]

theorem dcells_set (n j : Nat) (h : j < 20) : (dcells n j).setIfInBounds (19 - j) (.int .u8 (48 + ((n / 10 ^ j : Nat) : Int) % 10)) = dcells n (j + 1) := by
  unfold dcells
  rw [digs_cons, List.map_cons]
  have e : (Value.int .u8 (48 + ((n / 10 ^ j : Nat) : Int) % 10)) = Value.int .u8 ((UInt8.ofNat (48 + n / 10 ^ j % 10)).toNat : Int) := by
    rw [Jn.dig_toNat _ (Nat.mod_lt _ (by omega))]
    congr 1
  rw [e]
  simp only [List.setIfInBounds_toArray]
  congr 1
  rw [List.set_append_left _ _ (by simp; omega)]
  rw [show 20 - j = (20 - (j + 1)) + 1 by omega, List.replicate_succ', List.set_append_right _ _ (by simp)]
  simp

theorem info5 : (Tryd.prog.info? 5).map (fun i => (i.zero, i.size, i.bytes)) = some (some (.int .u8 0), 1, 1) := by kernel_rfl


theorem cells_new (w : World) (vs : List Value) (t : TypeId) : ∀ j u, vs[j]? = some u → (w.alloc (.cells vs.toArray t)).cell? ((⟨w.heap.size, 0, none⟩ : Addr).add j) = some u := by
  intro j u h
  rw [Go.WideShapes.add_plain, World.cell?_alloc_new]
  simpa using h
/-- bytes as cells -/
def bcs (l : List UInt8) : List Value := l.map (fun b => Value.int .u8 (b.toNat : Int))
theorem bcs_one (l : List UInt8) : ∀ u ∈ bcs l, u.oneCell' = true := by
  intro u hu
  obtain ⟨b, _, rfl⟩ := List.mem_map.1 hu
  rfl
theorem bcs_app (a b : List UInt8) : bcs a ++ bcs b = bcs (a ++ b) := by simp [bcs]
theorem dcells_all (n : Nat) : dcells n 20 = (bcs (Jn.digs 20 n)).toArray := by simp [dcells, bcs]
theorem sfx_cells : Lib.strCells ⟨#[46, 106, 111, 117, 114, 110, 97, 108]⟩ = bcs Jn.sfx := rfl
theorem nm_pre (n : Nat) (d : Bool) : Jn.nm n d = (if d then Jn.dot else []) ++ Jn.digs 20 n ++ Jn.sfx := by rw [Jn.nm, List.append_assoc]

/-- 'string(b)' of a slice that owns the bytes l -/
theorem convert_owned {w : World} {base : Nat} {v : Value} (l : List UInt8) (hne : l ≠ []) (h : w.ownsRow base 5 1 v l.length (bcs l)) :
    (convert 28 9 v).run Tryd.prog w = .ok (.string ⟨l.toArray⟩) w := by
  have h' := h
  rcases h.2 with ⟨rfl, h0⟩ | ⟨g, cap, cur, rfl, _⟩
  · exact absurd (List.length_eq_zero_iff.1 h0) hne
  · refine run_convert_bytes_back w 28 9 5 ⟨g, 0, none⟩ cap l Tryd.underlying28 Tryd.underlying5 Tryd.underlying9 (fun j hj => ?_)
    exact h'.cells (g := g) rfl j _ (by simp [bcs, hj])

set_option maxRecDepth 100000 in
set_option maxHeartbeats 800000 in
theorem name_walk (n : Nat) (d : Bool) (w : World) (hn : n ≤ Jn.M64) :
    Calls Tryd.prog 8 #[.int .u64 (n : Int), .bool d] w fun e w' => e = .returned (.string ⟨(Jn.nm n d).toArray⟩) ∧ Below w.heap.size w w' := by
  obtain ⟨i0, hi, hz0, hz1, hz2⟩ := info_parts info5
  have hn' : n < 18446744073709551616 := by unfold Jn.M64 at hn; omega
  cases d with
  | true =>
    go_enter Tryd.func8, Tryd.ntmps8
    go_wp2_with (first
      | (at_make; refine wpList_make_own _ rfl _ _ 28 rfl w.heap.size 5 i0 (.int .u8 0) 1 Tryd.underlying28 hi hz0 hz1 .i64 .i64 29 29 rfl rfl rfl (by rw [hz2]; decide) (by decide) (Nat.le_refl _) ?_; intro w1 hown1 hg1)
      | (at_builtin; refine wpList_append_fits _ rfl (.tmp 10) (.tmp 11) 28 rfl w.heap.size 5 i0 1 Tryd.underlying28 hi hz1 w.heap.size 0 29 [] rfl (hown1.alloc _) ⟨w1.heap.size, 0, none⟩ 1 1 [.int .u8 46] rfl rfl (cell_one_new _ _ _) (by intro u hu; simp at hu; subst hu; rfl) (by decide) ?_))
    intro w2 hown2 hg2
    have hlt : w.heap.size < w1.heap.size := (hown1.lt w.heap.size rfl).2
    have hb2 : Below w.heap.size w w2 := (((Below.refl _ w).grown hg1 (Nat.le_refl _) (fun k h => by cases h)).alloc (by omega) _).grown hg2 (by simp; omega) (fun k h => by cases h; exact Nat.le_refl _)
    clear hown1 hg1 hg2 hlt
    have HO : Hid (w2.ownsRow w.heap.size 5 1 (.slice (some ⟨w.heap.size, 0, none⟩) 1 29) 1 [.int .u8 46]) := hown2
    clear hown2
    go_wp2
    go_loopg [0, 7] 20 (fun g sq k wx => ∃ j : Nat, j + g = 20 ∧ k = .int .i64 (19 - (j : Int)) ∧ sq = .int .u64 ((n / 10 ^ j : Nat) : Int) ∧ wx = w2.alloc (.cells (dcells n j) 29))
    case atStart => exact ⟨0, by omega, rfl, by simp, rfl⟩
    case round =>
      obtain ⟨j, hj, rfl, rfl, rfl⟩ := hrel
      cases gk with
      | succ g =>
        have HJ : Hid (j + (g + 1) = 20) := hj
        have hcur := dcells_cur n j (by omega)
        have hset := dcells_set n j (by omega)
        have hjI : (j : Int) ≤ 19 := by omega
        have HD : Hid (n / 10 ^ j / 10 = n / 10 ^ (j + 1)) := by rw [Nat.div_div_eq_div_mul, ← Nat.pow_succ]; rfl
        have hml : n / 10 ^ j < 18446744073709551616 := Nat.lt_of_le_of_lt (Nat.div_le_self _ _) hn'
        generalize n / 10 ^ j = m at hset HD hml ⊢
        clear hj
        go_wp2
        go_roundg g
        case measure => omega
        case rel => exact ⟨j + 1, by have := HJ.out; omega, by go_num, by rw [← HD.out]; go_num, rfl⟩
      | zero =>
        have hjI : ¬ (j : Int) ≤ 19 := by omega
        have hj20 : dcells n j = (bcs (Jn.digs 20 n)).toArray := by rw [← dcells_all, show j = 20 by omega]
        rw [hj20]
        clear hj hj20
        generalize n / 10 ^ j = m
        have hL : (bcs (Jn.digs 20 n)).length = 20 := by rw [bcs, List.length_map, Jn.digs_length]
        have hone := bcs_one (Jn.digs 20 n)
        have HE : Hid (bcs (Jn.dot ++ Jn.digs 20 n ++ Jn.sfx) = [.int .u8 46] ++ bcs (Jn.digs 20 n) ++ bcs Jn.sfx) := by rw [← bcs_app, ← bcs_app]; rfl
        have HF : Hid ((Jn.dot ++ Jn.digs 20 n ++ Jn.sfx).length = 1 + 28) := by show _ = _; simp [Jn.digs_length, Jn.sfx, Jn.dot]
        have HQ : Hid (Jn.nm n true = Jn.dot ++ Jn.digs 20 n ++ Jn.sfx) := nm_pre n true
        generalize Jn.dot ++ Jn.digs 20 n ++ Jn.sfx = NM at HE HF HQ
        generalize bcs (Jn.digs 20 n) = L at hL hone HE ⊢
        have HLL : Hid (L.length = 20) := hL
        have HON : Hid (∀ u ∈ L, u.oneCell' = true) := hone
        clear hL hone
        go_wp2_with (first
          | (at_builtin; refine wpList_append_fits _ rfl (.tmp 25) (.tmp 26) 28 rfl w.heap.size 5 i0 1 Tryd.underlying28 hi hz1 w.heap.size 1 29 [.int .u8 46] rfl (HO.out.alloc _) ⟨w2.heap.size, 0, none⟩ 20 20 L rfl HLL.out (cells_new _ _ _) HON.out (by decide) ?_))
        intro w3 hown3 hg3
        have hlt2 : w.heap.size ≤ w2.heap.size := hb2.size
        have hb3 : Below w.heap.size w w3 := (hb2.alloc hlt2 _).grown hg3 (by simp; omega) (fun k h => by cases h; exact Nat.le_refl _)
        have HO3 : Hid (w3.ownsRow w.heap.size 5 1 (.slice (some ⟨w.heap.size, 0, none⟩) 21 29) 21 ([.int .u8 46] ++ L)) := hown3
        clear hown3 hg3 HO
        go_wp2_with (first
          | (at_builtin; refine Lib.wpList_append_own_string _ rfl (.tmp 28) _ 28 9 rfl w.heap.size 5 i0 Tryd.underlying28 Tryd.underlying9 hi hz0 hz1 hz2 _ _ _ rfl HO3.out _ rfl (by decide) (by decide) hb3.size ?_))
        intro v4 w4 hown4 hg4 _
        have hb4 : Below w.heap.size w w4 := hb3.grown hg4 hb3.size (fun k h => by cases h; exact Nat.le_refl _)
        have hcv : (convert 28 9 v4).run Tryd.prog w4 = .ok (.string ⟨NM.toArray⟩) w4 := by
          refine convert_owned (base := w.heap.size) NM (fun e => ?_) ?_
          · have := HF.out; rw [e] at this; simp at this
          · rw [HF.out, HE.out]; exact hown4
        have HB : Hid (Below w.heap.size w w4) := hb4
        clear hown4 hg4 hb4 hb3 hb2 hlt2
        go_wp2
        go_ret
        refine ⟨?_, HB.out⟩
        rw [HQ.out]
        rfl
  | false =>
    go_enter Tryd.func8, Tryd.ntmps8
    go_wp2_with (first
      | (at_make; refine wpList_make_own _ rfl _ _ 28 rfl w.heap.size 5 i0 (.int .u8 0) 1 Tryd.underlying28 hi hz0 hz1 .i64 .i64 29 29 rfl rfl rfl (by rw [hz2]; decide) (by decide) (Nat.le_refl _) ?_; intro w2 hown2 hg2; have hb2 : Below w.heap.size w w2 := ((Below.refl _ w).grown hg2 (Nat.le_refl _) (fun k h => by cases h)); have HO : Hid (w2.ownsRow w.heap.size 5 1 (.slice (some ⟨w.heap.size, 0, none⟩) 0 29) 0 []) := hown2; clear hown2 hg2))
    go_wp2
    go_loopg [0, 7] 20 (fun g sq k wx => ∃ j : Nat, j + g = 20 ∧ k = .int .i64 (19 - (j : Int)) ∧ sq = .int .u64 ((n / 10 ^ j : Nat) : Int) ∧ wx = w2.alloc (.cells (dcells n j) 29))
    case atStart => exact ⟨0, by omega, rfl, by simp, rfl⟩
    case round =>
      obtain ⟨j, hj, rfl, rfl, rfl⟩ := hrel
      cases gk with
      | succ g =>
        have HJ : Hid (j + (g + 1) = 20) := hj
        have hcur := dcells_cur n j (by omega)
        have hset := dcells_set n j (by omega)
        have hjI : (j : Int) ≤ 19 := by omega
        have HD : Hid (n / 10 ^ j / 10 = n / 10 ^ (j + 1)) := by rw [Nat.div_div_eq_div_mul, ← Nat.pow_succ]; rfl
        have hml : n / 10 ^ j < 18446744073709551616 := Nat.lt_of_le_of_lt (Nat.div_le_self _ _) hn'
        generalize n / 10 ^ j = m at hset HD hml ⊢
        clear hj
        go_wp2
        go_roundg g
        case measure => omega
        case rel => exact ⟨j + 1, by have := HJ.out; omega, by go_num, by rw [← HD.out]; go_num, rfl⟩
      | zero =>
        have hjI : ¬ (j : Int) ≤ 19 := by omega
        have hj20 : dcells n j = (bcs (Jn.digs 20 n)).toArray := by rw [← dcells_all, show j = 20 by omega]
        rw [hj20]
        clear hj hj20
        generalize n / 10 ^ j = m
        have hL : (bcs (Jn.digs 20 n)).length = 20 := by rw [bcs, List.length_map, Jn.digs_length]
        have hone := bcs_one (Jn.digs 20 n)
        have HE : Hid (bcs (([] : List UInt8) ++ Jn.digs 20 n ++ Jn.sfx) = ([] : List Value) ++ bcs (Jn.digs 20 n) ++ bcs Jn.sfx) := by rw [← bcs_app, ← bcs_app]; rfl
        have HF : Hid ((([] : List UInt8) ++ Jn.digs 20 n ++ Jn.sfx).length = 0 + 28) := by show _ = _; simp [Jn.digs_length, Jn.sfx]
        have HQ : Hid (Jn.nm n false = ([] : List UInt8) ++ Jn.digs 20 n ++ Jn.sfx) := nm_pre n false
        generalize ([] : List UInt8) ++ Jn.digs 20 n ++ Jn.sfx = NM at HE HF HQ
        generalize bcs (Jn.digs 20 n) = L at hL hone HE ⊢
        have HLL : Hid (L.length = 20) := hL
        have HON : Hid (∀ u ∈ L, u.oneCell' = true) := hone
        clear hL hone
        go_wp2_with (first
          | (at_builtin; refine wpList_append_fits _ rfl (.tmp 25) (.tmp 26) 28 rfl w.heap.size 5 i0 1 Tryd.underlying28 hi hz1 w.heap.size 0 29 ([] : List Value) rfl (HO.out.alloc _) ⟨w2.heap.size, 0, none⟩ 20 20 L rfl HLL.out (cells_new _ _ _) HON.out (by decide) ?_))
        intro w3 hown3 hg3
        have hlt2 : w.heap.size ≤ w2.heap.size := hb2.size
        have hb3 : Below w.heap.size w w3 := (hb2.alloc hlt2 _).grown hg3 (by simp; omega) (fun k h => by cases h; exact Nat.le_refl _)
        have HO3 : Hid (w3.ownsRow w.heap.size 5 1 (.slice (some ⟨w.heap.size, 0, none⟩) 20 29) 20 (([] : List Value) ++ L)) := hown3
        clear hown3 hg3 HO
        go_wp2_with (first
          | (at_builtin; refine Lib.wpList_append_own_string _ rfl (.tmp 28) _ 28 9 rfl w.heap.size 5 i0 Tryd.underlying28 Tryd.underlying9 hi hz0 hz1 hz2 _ _ _ rfl HO3.out _ rfl (by decide) (by decide) hb3.size ?_))
        intro v4 w4 hown4 hg4 _
        have hb4 : Below w.heap.size w w4 := hb3.grown hg4 hb3.size (fun k h => by cases h; exact Nat.le_refl _)
        have hcv : (convert 28 9 v4).run Tryd.prog w4 = .ok (.string ⟨NM.toArray⟩) w4 := by
          refine convert_owned (base := w.heap.size) NM (fun e => ?_) ?_
          · have := HF.out; rw [e] at this; simp at this
          · rw [HF.out, HE.out]; exact hown4
        have HB : Hid (Below w.heap.size w w4) := hb4
        clear hown4 hg4 hb4 hb3 hb2 hlt2
        go_wp2
        go_ret
        refine ⟨?_, HB.out⟩
        rw [HQ.out]
        rfl

end Go.Proofs.Qxb6618041aDoor
