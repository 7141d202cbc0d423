/-
  The second law's walk where its guards let by. Own work for this seat.
-/
import Derived.Test.Qxb6617957aBurst
namespace Go.Proofs.Qxb6617957a
open Go.RowKit

set_option maxRecDepth 1000000 in
set_option maxHeartbeats 600000 in
theorem burst_main (a0 : Option Addr) (len0 cap0 : Nat) (p : Nat) (m : BitVec 16) (ds : List (BitVec 8)) (w : World) (hrow : Row w a0 len0 ds) (hs : len0 ≤ 1048576) (hp : p + 2 ≤ len0) (hm : m ≠ 0#16) :
    Calls Try.prog 4 #[.slice a0 len0 cap0, .int .i64 (p : Int), .int .u16 (m.toNat : Int)] w fun e w' => e = .returned (.bool true) ∧ Below w.heap.size w w' := by
  have hlen : ¬ (1048576 : Int) < (len0 : Int) := by omega
  have hp0 : ¬ (p : Int) < 0 := by omega
  have hp1 : ¬ (len0 : Int) - 2 < (p : Int) := by omega
  have hm0 : ((m.toNat : Int) == 0) = false := by
    rw [beq_eq_false_iff_ne]
    intro e
    apply hm
    apply BitVec.eq_of_toNat_eq
    have : m.toNat = 0 := by omega
    simpa using this
  have hv25 : ∀ w, (zeroValue 25).run Try.prog w = .ok (.agg (Crc.cellsTo 0)) w := by rw [← cellsTo_zero]; exact (zero_of_info info25).1
  obtain ⟨zs, hzs⟩ : ∃ zs, List.replicate len0 0#8 = zs := ⟨_, rfl⟩
  have hmk := make_bytes len0 hs
  rw [hzs] at hmk
  have HZ : Hid (List.replicate len0 0#8 = zs) := hzs
  clear hzs
  have hmb : (m.toNat : Int) < 65536 := by have := m.isLt; omega
  have HR : Hid (Row w a0 len0 ds) := hrow
  have HM : Hid (m ≠ 0#16) := hm
  clear hrow hm
  go_enter Try.func4, Try.ntmps4
  go_wp2_with (first
    | (go_at_call 7; refine (zztab_walk _).mono ?_; rintro e w1 ⟨rfl, hw1⟩; have hb1 : Below w.heap.size w w1 := (by rw [hw1]; exact ((Below.refl _ _).alloc (Nat.le_refl _) _).alloc (by simp) _); clear hw1)
    | (go_at_call 10; go_in)
    | (refine wpList_store_row rfl 25 (.tmp 7) (.tmp 36) rfl w1.heap.size (Crc.cellsTo 256) rfl rfl 25 (Crc.cellsTo 0) (heap_alloc_last w1 _) (by rw [cellsTo_size]; exact size25) (by rw [cellsTo_size, cellsTo_size]) (cellsTo_one _) ?_; rw [World.setRow_alloc_new]))
  clear hmk hv25
  have hl := HR.out.1
  have HL : Hid (ds.length = len0) := hl
  clear hl
  go_loopg [11] len0 (fun g s wx => ∃ k : Nat, k + g = len0 ∧ s = .int .i64 k ∧ wx = ((w1.alloc (.cells (Crc.cellsTo 256) 25)).alloc (.cells (bc (copied ds k)) 5)).alloc (.cells (bc zs) 5))
  case atStart => exact ⟨0, by omega, rfl, by rw [copied_0, HL.out, HZ.out]⟩
  case round =>
    obtain ⟨k, hkg, rfl, rfl⟩ := hrel
    cases gk with
    | succ g =>
      have hk : k < len0 := by omega
      have hkI : (k : Int) < (len0 : Int) := by omega
      have hkd : k < ds.length := by have := HL.out; omega
      obtain ⟨b, off, rfl, hc⟩ := HR.out.2 k hkd
      have hbw : b < w.heap.size := block_lt_of_cell hc
      have hc1 : w1.cell? ⟨b, off + k, none⟩ = some (.int .u8 (ds[k].toNat : Int)) := by rw [hb1.cell (p := ⟨b, off + k, none⟩) hbw]; exact hc
      have hbl : b < w1.heap.size := Nat.lt_of_lt_of_le hbw hb1.size
      have hbl1 : b < w1.heap.size + 1 := by omega
      have hbl2 : b < w1.heap.size + 1 + 1 := by omega
      have hcur := bc_getD (copied ds k) k (by rw [copied_length]; exact hkd)
      have hset : (bc (copied ds k)).setIfInBounds k (.int .u8 (ds[k].toNat : Int)) = bc (copied ds (k + 1)) := by rw [bc_set, copied_set ds k hkd]
      have hsz := bc_size (copied ds k)
      rw [copied_length, HL.out] at hsz
      have HG : Hid (k + (g + 1) = len0) := hkg
      generalize ds[k] = c at hc1 hset hc
      clear hc hkd hkg
      generalize (copied ds k).getD k 0#8 = old at hcur
      go_wp2
      go_roundg g
      case measure => omega
      case rel => exact ⟨k + 1, by have := HG.out; omega, by go_num, rfl⟩
    | zero =>
      have hkI : ¬ ((k : Int) < (len0 : Int)) := by omega
      rw [copied_all ds k (by have := HL.out; omega)]
      clear hkg
      have hpd : p < ds.length := by have := HL.out; omega
      have hpd1 : p + 1 < ds.length := by have := HL.out; omega
      have hpI : (p : Int) < (len0 : Int) := by omega
      have hpI1 : (p : Int) + 1 < (len0 : Int) := by omega
      have hpN : p < len0 := by omega
      have hpN1 : p + 1 < len0 := by omega
      -- the numbers, each under a name
      have hhi : (m.toNat : Int) / (256 : Int) = ((((m >>> 8).setWidth 8 : BitVec 8).toNat : Nat) : Int) := hi_form m
      have hlo := lo_form m
      obtain ⟨hi, ehi⟩ : ∃ hi, (m >>> 8).setWidth 8 = hi := ⟨_, rfl⟩
      obtain ⟨lo, elo⟩ : ∃ lo, m.setWidth 8 = lo := ⟨_, rfl⟩
      rw [ehi] at hhi
      rw [elo] at hlo
      have EHI : Hid ((m >>> 8).setWidth 8 = hi) := ehi
      have ELO : Hid (m.setWidth 8 = lo) := elo
      clear ehi elo
      have hF1 := bc_getD ds p hpd
      have hx1 := xor_form (ds.getD p 0#8) hi
      have hx2 := xor_form (ds.getD (p + 1) 0#8) lo
      have hs1 := bc_set ds p (ds.getD p 0#8 ^^^ hi)
      have hF2 := bc_getD (ds.set p (ds.getD p 0#8 ^^^ hi)) (p + 1) (by simpa using hpd1)
      rw [show (ds.set p (ds.getD p 0#8 ^^^ hi)).getD (p + 1) 0#8 = ds.getD (p + 1) 0#8 by simp [List.getD]] at hF2
      have hs2 := bc_set (ds.set p (ds.getD p 0#8 ^^^ hi)) (p + 1) (ds.getD (p + 1) 0#8 ^^^ lo)
      obtain ⟨fl, efl⟩ : ∃ fl, Crc.flipP ds p hi lo = fl := ⟨_, rfl⟩
      rw [show (ds.set p (ds.getD p 0#8 ^^^ hi)).set (p + 1) (ds.getD (p + 1) 0#8 ^^^ lo) = fl from efl] at hs2
      have hz1 : bc zs = bc (List.replicate len0 0#8) := by rw [HZ.out]
      have hE1 := bc_getD (List.replicate len0 0#8) p (by simpa using hpN)
      have hsE1 := bc_set (List.replicate len0 0#8) p hi
      have hE2 := bc_getD ((List.replicate len0 0#8).set p hi) (p + 1) (by simpa using hpN1)
      have hsE2 := bc_set ((List.replicate len0 0#8).set p hi) (p + 1) lo
      obtain ⟨er, eer⟩ : ∃ er, Crc.errP len0 p hi lo = er := ⟨_, rfl⟩
      rw [show ((List.replicate len0 0#8).set p hi).set (p + 1) lo = er from eer] at hsE2
      rw [← hz1] at hE1 hsE1
      clear hz1
      have EFL : Hid (Crc.flipP ds p hi lo = fl) := efl
      have EER : Hid (Crc.errP len0 p hi lo = er) := eer
      clear efl eer
      generalize ds.set p (ds.getD p 0#8 ^^^ hi) = l1 at hs1 hF2 hs2
      generalize (List.replicate len0 0#8).set p hi = e1 at hsE1 hE2 hsE2
      generalize e1.getD (p + 1) 0#8 = o2 at hE2
      generalize (List.replicate len0 0#8).getD p 0#8 = o1 at hE1
      generalize ds.getD p 0#8 ^^^ hi = v1 at hx1 hs1
      generalize ds.getD (p + 1) 0#8 ^^^ lo = v2 at hx2 hs2
      generalize ds.getD p 0#8 = x1 at hx1 hF1
      generalize ds.getD (p + 1) 0#8 = x2 at hx2 hF2
      clear hpd hpd1
      -- the table's own row, under whatever the two rows hold
      have hT : ∀ F E : Obj, (((w1.alloc (.cells (Crc.cellsTo 256) 25)).alloc F).alloc E).heap[w1.heap.size]? = some (.cells (Crc.cellsTo 256) 25 (0, 0)) := fun F E => by
        rw [Below.heap_alloc _ _ _ (by simp; omega)]
        exact heap_alloc2_old w1 _ F
      have HT : Hid (∀ F E : Obj, (((w1.alloc (.cells (Crc.cellsTo 256) 25)).alloc F).alloc E).heap[w1.heap.size]? = some (.cells (Crc.cellsTo 256) 25 (0, 0))) := hT
      clear hT
      go_wp2_with (first
        | (refine wpList_load_row rfl 25 (.tmp 7) rfl w1.heap.size rfl 25 (Crc.cellsTo 256) (0, 0) _ (HT.out _ _) Try.underlying25 rfl (by rw [cellsTo_size]; exact size25) ?_))
      have hfl : fl.length = len0 := by rw [← EFL.out, Crc.flipP, List.length_set, List.length_set, HL.out]
      have her : er.length = len0 := by rw [← EER.out, Crc.errP, List.length_set, List.length_set, List.length_replicate]
      obtain ⟨W, eW⟩ : ∃ W, ((w1.alloc (.cells (Crc.cellsTo 256) 25)).alloc (.cells (bc fl) 5)).alloc (.cells (bc er) 5) = W := ⟨_, rfl⟩
      have HTW : Hid (W.heap[w1.heap.size]? = some (.cells (Crc.cellsTo 256) 25 (0, 0))) := by rw [← eW]; exact HT.out _ _
      have hbW : Below w.heap.size w W := by
        rw [← eW]
        exact ((hb1.alloc hb1.size _).alloc (Nat.le_trans hb1.size (by simp)) _).alloc (Nat.le_trans hb1.size (by simp; omega)) _
      have RD : Hid (Row W a0 len0 ds) := HR.out.below hbW
      have RF : Hid (Row W (some ⟨w1.heap.size + 1, 0, none⟩) len0 fl) := by
        have := row_new W (w1.heap.size + 1) fl (by rw [← eW, Below.heap_alloc _ _ _ (by simp)]; exact heap_alloc2_new w1 _ _)
        rwa [hfl] at this
      have RE : Hid (Row W (some ⟨w1.heap.size + 1 + 1, 0, none⟩) len0 er) := by
        have := row_new W (w1.heap.size + 1 + 1) er (by
          rw [← eW]
          have := heap_alloc_last ((w1.alloc (.cells (Crc.cellsTo 256) 25)).alloc (.cells (bc fl) 5)) (.cells (bc er) 5)
          simpa using this)
        rwa [her] at this
      have hWs : Hid (w1.heap.size + 3 = W.heap.size) := by rw [← eW]; show _ = _; simp
      rw [eW]
      clear eW HT hfl her hF1 hF2 hx1 hx2 hs1 hs2 hE1 hE2 hsE1 hsE2 hhi hlo
      -- the plain law
      have hbur := Crc.burst ds p m HM.out (by rw [HL.out]; exact hp)
      rw [EHI.out, ELO.out, EFL.out, HL.out, EER.out] at hbur
      obtain ⟨hne, hxor⟩ := hbur
      have hrem := Crc.crc_eq_rem er
      have h1 : (((Crc.crcT ds).toNat : Int) != ((Crc.crcT fl).toNat : Int)) = true := by
        rw [bne_iff_ne]
        intro e
        exact hne (BitVec.eq_of_toNat_eq (by omega))
      have h2 : bits .xor .u16 ((Crc.crcT ds).toNat : Int) ((Crc.crcT fl).toNat : Int) = ((Crc.crcT er).toNat : Int) := by rw [xor_form16, hxor]
      have HE : Hid ((Crc.crcT er).toNat = (Crc.rem (er ++ [0#8, 0#8])).toNat) := by rw [hrem]; rfl
      clear hne hxor hrem
      refine (crc_walk a0 len0 cap0 ds _ hs RD.out).mono ?_
      rintro e w2 ⟨rfl, hw2⟩
      have hb2 : Below W.heap.size W w2 := by rw [hw2]; exact (Below.refl _ _).alloc (Nat.le_refl _) _
      have HT2 : Hid (w2.heap[w1.heap.size]? = some (.cells (Crc.cellsTo 256) 25 (0, 0))) := by
        have hx := hb2.block w1.heap.size (by have := hWs.out; omega)
        show _ = _
        rw [hx]; exact HTW.out
      clear hw2
      generalize hA : ((Crc.crcT ds).toNat : Int) = A at h1 h2 ⊢
      clear hA
      go_wp2_with (first
        | (refine wpList_load_row rfl 25 (.tmp 7) rfl w1.heap.size rfl 25 (Crc.cellsTo 256) (0, 0) _ HT2.out Try.underlying25 rfl (by rw [cellsTo_size]; exact size25) ?_))
      refine (crc_walk (some ⟨w1.heap.size + 1, 0, none⟩) len0 len0 fl _ hs (RF.out.below hb2)).mono ?_
      rintro e w3 ⟨rfl, hw3⟩
      have hb3 : Below W.heap.size W w3 := by rw [hw3]; exact hb2.alloc hb2.size _
      have HT3 : Hid (w3.heap[w1.heap.size]? = some (.cells (Crc.cellsTo 256) 25 (0, 0))) := by
        have hx := hb3.block w1.heap.size (by have := hWs.out; omega)
        show _ = _
        rw [hx]; exact HTW.out
      clear hw3
      generalize hA : ((Crc.crcT fl).toNat : Int) = B at h1 h2 ⊢
      clear hA
      go_wp2_with (first
        | (refine wpList_load_row rfl 25 (.tmp 7) rfl w1.heap.size rfl 25 (Crc.cellsTo 256) (0, 0) _ HT3.out Try.underlying25 rfl (by rw [cellsTo_size]; exact size25) ?_))
      refine (crc_walk (some ⟨w1.heap.size + 1 + 1, 0, none⟩) len0 len0 er _ hs (RE.out.below hb3)).mono ?_
      rintro e w4 ⟨rfl, hw4⟩
      have hb4 : Below W.heap.size W w4 := by rw [hw4]; exact hb3.alloc hb3.size _
      clear hw4
      rw [HE.out] at h2 ⊢
      go_wp2_with (fail)
      refine (poly_walk (some ⟨w1.heap.size + 1 + 1, 0, none⟩) len0 len0 er _ hs (RE.out.below hb4)).mono ?_
      rintro e w5 ⟨rfl, rfl⟩
      go_wp2_with (fail)
      go_ret
      exact ⟨rfl, hbW.trans (hb4.mono hbW.size)⟩
end Go.Proofs.Qxb6617957a
