import Derived.Test.YbulkgdpcDoorE2
import Derived.Lib.BufferRead
namespace Go.Proofs.YbulkgdpcDoor.lawB
open Go.ChangeShapes Go.WideShapes Go.ChangeAt Go.RowKit
set_option linter.unusedVariables false

theorem dec_empty : dec ⟨#[]⟩ ((ByteArray.mk #[]).size + 1) 0 [] = some [] := by
  rw [dec_succ, if_neg (by decide)]

set_option maxRecDepth 100000 in
set_option maxHeartbeats 1000000 in
theorem lawE_zero (a : Option Addr) (cap : Nat) (sub : Int) (w : World) (hB : 3 ≤ w.heap.size) (hE : Errs w) :
    Calls Ybad.prog 4 #[.slice a 0 cap, .int .i64 sub] w fun e w' => e = .returned (.bool true) ∧ Below w.heap.size w w' := by
  have hcv := fun w => Go.Lib.run_convert_nil_bytes (P := Ybad.prog) w 44 9 5 0 Ybad.underlying44 Ybad.underlying5 Ybad.underlying9
  have hvb := fun W (h1 : 3 ≤ W.heap.size) (h2 : Errs W) => values_batch sub 1 1 ⟨#[]⟩ 0 W (by decide) h1 h2
  rw [dec_empty] at hvb
  have Hvb : Hid (∀ W (h1 : 3 ≤ W.heap.size) (h2 : Errs W), Calls Ybad.prog 5 #[.agg (msg 1 sub 1 1 1 ⟨#[]⟩ 0)] W (DecPost W.heap.size (some []) W)) := hvb
  have hb1 : ∀ o cs, Below w.heap.size w ((w.alloc o).setRow w.heap.size cs) := fun o cs => below_setRow ((Below.refl _ _).alloc (Nat.le_refl _) o) (Nat.le_refl _) cs
  clear hvb
  go_enter Ybad.func4, Ybad.ntmps4
  go_wp2_with fail
  refine wp_loop_rounds 1 ?_
  rw [rounds_succ]
  go_wp2_with fail
  refine wp_loop_rounds 1 ?_
  rw [rounds_succ]
  go_wp2_with (first | (refine wpList_build_to rfl 37 #[(0, .const (.int .u8 1)), (1, .tmp 72), (2, .const (.int .u64 1)), (3, .const (.int .i64 1)), (4, .tmp 75)] rfl (msg 1 sub 1 1 1 ⟨#[]⟩ 0) (by kernel_rfl) ?_) | (refine wpList_store_row rfl 37 (.tmp 11) (.tmp 76) rfl w.heap.size (msg 1 sub 1 1 1 ⟨#[]⟩ 0) rfl rfl 37 _ (heap_alloc_new w _) (by kernel_rfl) (by kernel_rfl) (by kernel_rfl) ?_) | (refine wpList_load_row rfl 37 (.tmp 11) rfl w.heap.size rfl 37 (msg 1 sub 1 1 1 ⟨#[]⟩ 0) (0, 0) _ (setRow_heap _ _ _ _ 37 (0, 0) (heap_alloc_new w _)) Ybad.underlying37 rfl (by kernel_rfl) ?_))
  refine (Hvb.out _ (by simp; omega) (hE.below (hb1 _ _) (by omega))).mono ?_
  rintro e w1 ⟨hbl, x, rfl, hown, hnil⟩
  have hbl1 : Below w.heap.size w w1 := (hb1 _ _).trans (hbl.mono (by simp))
  obtain rfl := hnil rfl
  clear hbl hb1 hcv hown hnil
  go_wp2_with fail
  refine (same_none _ _).mono ?_
  rintro e w3 ⟨rfl, hw⟩
  obtain rfl := hw.symm
  go_wp2_with fail
  go_ret
  exact ⟨rfl, hbl1⟩
end Go.Proofs.YbulkgdpcDoor.lawB
