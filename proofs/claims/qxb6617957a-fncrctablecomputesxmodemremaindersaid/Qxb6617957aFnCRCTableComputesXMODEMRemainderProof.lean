/-
  THE SHELL OF A PROOF OF 'Rows.FnCRCTableComputesXMODEMRemainderSaid' ('example.com/slotbus/slotbus/zzlaws_pkg_slot_b1.FnCRCTableComputesXMODEMRemainder'), WRITTEN BY PROGRAM (proof-skeleton.mjs, third state) off the guide's own print for that function.
  THE WALK IS OWN WORK; ALL ELSE IS THE GUIDE's OWN WAY (howto/template/XProofs.lean; Derived/Test/ChunkProofs.lean for 'Below') at this function's number and types
-/
import Derived.Test.Qxb6617957aRows
import Derived.Test.Qxb6617957aWalks
import Derived.Test.Qxb6617957aRowOf
import Derived.WalkKit
import Derived.ProofKit
import Derived.OpenShut
import Derived.ShutString
import Derived.ChangeOld
import Derived.Below
namespace Go.Proofs.Qxb6617957a.fnCRCTableComputesXMODEMRemainder
open Go.ChangeShapes Go.WideShapes Go.ChangeAt Go.RowKit
open Go.ChangeMaps (open_string shut_string)
set_option linter.unusedVariables false

theorem own : ownKnob Try.prog.godebug = none := by kernel_rfl
theorem laidOut : laidOutB Try.prog = true := by kernel_rfl

/-! ### STEP 1: THE WALK: the Go text returns true, AND WRITES NOTHING THAT WAS THERE: 'Below w.heap.size w w'' (Derived/Below.lean: '.refl', '.alloc', '.drew', '.setCell' at a new block, '.trans'). Open each 'IsRow' by 'rcases' AHEAD of 'go_enter'; part every test ahead of the walk. -/
set_option maxRecDepth 1000000 in
set_option maxHeartbeats 400000 in
theorem walk (a0 : Option Addr) (len0 cap0 : Nat) (z0 : List Int) (w : World) (w0 : IsRow .u8 w a0 len0 cap0 z0) :
    Calls Try.prog 3 #[.slice a0 len0 cap0] w fun e w' => e = .returned (.bool true) ∧ Below w.heap.size w w' := by
  obtain ⟨ds, hrow⟩ := row_of w0
  by_cases hlen : (1048576 : Int) < (len0 : Int)
  · go_enter Try.func3, Try.ntmps3
    go_wp2
    go_ret
    exact ⟨rfl, Below.refl _ _⟩
  · have hs : len0 ≤ 1048576 := by omega
    have hv25 : ∀ w, (zeroValue 25).run Try.prog w = .ok (.agg (Crc.cellsTo 0)) w := by rw [← cellsTo_zero]; exact (zero_of_info info25).1
    have HR : Hid (Row w a0 len0 ds) := hrow
    clear hrow w0
    have heq : ((Crc.crcT ds).toNat : Int) = ((Crc.rem (ds ++ [0#8, 0#8])).toNat : Int) := by rw [Crc.crc_eq_rem]
    have HE : Hid (((Crc.crcT ds).toNat : Int) = ((Crc.rem (ds ++ [0#8, 0#8])).toNat : Int)) := heq
    clear heq
    go_enter Try.func3, Try.ntmps3
    go_wp2_with (first
      | (go_at_call 7; refine (zztab_walk _).mono ?_; rintro e w1 ⟨rfl, hw1⟩; have hb1 : Below w.heap.size w w1 := (by rw [hw1]; exact ((Below.refl _ _).alloc (Nat.le_refl _) _).alloc (by simp) _); clear hw1)
      | (go_at_call 6; go_in)
      | (refine wpList_store_row rfl 25 (.tmp 3) (.tmp 10) rfl w1.heap.size (Crc.cellsTo 256) rfl rfl 25 (Crc.cellsTo 0) (heap_alloc_last w1 _) (by rw [cellsTo_size]; exact size25) (by rw [cellsTo_size, cellsTo_size]) (cellsTo_one _) ?_; rw [World.setRow_alloc_new])
      | (refine wpList_load_row rfl 25 (.tmp 3) rfl w1.heap.size rfl 25 (Crc.cellsTo 256) (0, 0) _ (heap_alloc_last w1 _) Try.underlying25 rfl (by rw [cellsTo_size]; exact size25) ?_)
      | (go_at_call 8; refine (crc_walk a0 len0 cap0 ds _ hs (HR.out.below (hb1.alloc hb1.size _))).mono ?_; rintro e w2 ⟨rfl, hw2⟩; have hb2 : Below w.heap.size w w2 := (by rw [hw2]; exact (hb1.alloc hb1.size _).alloc (Nat.le_trans hb1.size (by simp)) _); clear hw2)
      | (go_at_call 9; refine (poly_walk a0 len0 cap0 ds _ hs (HR.out.below hb2)).mono ?_; rintro e w3 ⟨rfl, rfl⟩; rw [← HE.out]))
    go_ret
    exact ⟨rfl, hb2⟩

/-! ### THE ROW's STEP: WRITTEN OUT: LEAVE IT -/
set_option maxRecDepth 100000 in
theorem lifted (os : Os) (started : os.Started) (H : Type) (enc : TypeId × Value → H) :
    ReturnsInHanded {} Try.checked os 3 .any (Rows.fnCRCTableComputesXMODEMRemainderSpec.pre6 enc Try.prog Try.f3 Rows.fnCRCTableComputesXMODEMRemainderRow.domain false) (Rows.fnCRCTableComputesXMODEMRemainderSpec.post enc Try.prog Try.f3 false true false false) := by
  refine returnsInHanded_of_change (C := Try.checked) own started (by kernel_rfl) Try.func3
    (ChangeSpec.witness6 (enc := enc) (C := Try.checked) false ⟨#[], #[.slice none 0 0], []⟩ 8 (by kernel_rfl) (by kernel_rfl) (by kernel_rfl) (by kernel_rfl)) ?_
  intro W base args ds gs before hval0 hW hcnd _
  have hval : ∀ (j : Nat) t v, Try.f3.params[j]? = some t → args[j]? = some v → Value.okWide Try.prog W .any base t v := hval0
  have hW' := hW
  obtain ⟨p, q, hA0, hV, rfl, hfz, hnd⟩ := hW
  have hA : DataW.TrodAll enc Try.prog W 0 (fun _ => true) true Try.f3.params.toList args.toList ds p := hA0
  rw [Try.params3] at hA hval
  obtain ⟨v0, vs0, d0, ds0, p0, q0, hargs, rfl, rfl, h0, r0⟩ := trodAll_cons hA
  obtain ⟨rfl, rfl, rfl⟩ := trodAll_nil r0
  obtain rfl : args = #[v0] := by cases args; simp_all
  obtain ⟨rfl, rfl⟩ := trodVars_none hV
  obtain ⟨a0, len0, cap0, rfl⟩ := okWide_slice Try.underlying22 (hval 0 22 v0 rfl rfl)
  have k0 := h0
  have lt0 : ∀ x ∈ p0, x.block < W.heap.size := by obtain ⟨m, hm⟩ := k0; exact DataW.trod_lt m _ _ _ hm
  obtain ⟨z0, w0⟩ : ∃ zs, IsRow .u8 W a0 len0 cap0 zs := by
    obtain ⟨fuel, hf⟩ := h0
    rcases open_ints Try.underlying22 Try.underlying5 (by kernel_rfl) hf with ⟨hcs, _⟩ | ⟨x, l, c, zs, hcs, _, hl, hm, hz, _, hcell, hwz⟩
    · simp [Value.cells] at hcs
      obtain ⟨rfl, rfl, rfl⟩ := hcs
      exact ⟨[], .inl ⟨rfl, rfl, rfl, rfl⟩⟩
    · simp [Value.cells] at hcs
      obtain ⟨rfl, rfl, rfl⟩ := hcs
      exact ⟨zs, .inr ⟨_, rfl, hl, hm, by simpa using hz, hcell, hwz⟩⟩
  clear hA0 hval0
  refine (walk a0 len0 cap0 z0 W w0).mono fun e W' ⟨he, bel⟩ => ?_
  subst he
  exact ⟨_, rfl, _, _, _, [], _, [], hW', trodAll_mk1 (shut_bool Try.underlying4 _), (trodAll_cons_mk (Below.trod laidOut (by kernel_rfl) (of_decide_eq_true (by kernel_rfl)) k0 bel lt0) trodAll_mk0), rfl, bel.frame _, fun h => by cases h⟩

theorem over : Rows.fnCRCTableComputesXMODEMRemainderRow.holds Try.pinned (OpenSpec.ofChange Rows.fnCRCTableComputesXMODEMRemainderSpec) :=
  OpenClaim.holds_of_wide 3 Try.f3 rfl rfl rfl rfl rfl rfl rfl ⟨rfl, rfl, rfl, rfl, rfl⟩ rfl rfl rfl rfl rfl (by kernel_rfl) Try.func3 (by kernel_rfl)
    (of_decide_eq_true (by kernel_rfl)) (by unfold Func.isWrapper; first | (rw [if_pos (by decide +kernel)]; kernel_rfl) | (rw [if_neg (by decide +kernel)]; exact ⟨rfl, rfl⟩))
    (fun os started H enc _ => lifted os started H enc)

/-- ████ THE STATEMENT ████ -/
theorem proved : Rows.FnCRCTableComputesXMODEMRemainderSaid := over
#print axioms proved
end Go.Proofs.Qxb6617957a.fnCRCTableComputesXMODEMRemainder
