import Derived.Test.YbulkgdpcDoorB6
namespace Go.Proofs.YbulkgdpcDoor.lawB
open Go.ChangeShapes Go.WideShapes Go.ChangeAt Go.RowKit
set_option linter.unusedVariables false

set_option maxRecDepth 100000 in
set_option maxHeartbeats 1000000 in
theorem lawW_batch (sub ser bat ep : Int) (v : ByteArray) (w : World) (hv : v.size ≤ 1048576) (hB : 3 ≤ w.heap.size) (hE : Errs w) :
    Calls Ybad.prog 3 #[.int .u8 1, .int .u8 1, .int .i64 sub, .int .u64 ser, .int .i64 bat, .int .i64 ep, .string v] w fun e w' => e = .returned (.bool true) ∧ Below w.heap.size w w' := by
  have h1 : ¬ (1048576 : Int) < (v.size : Int) := by omega
  have hb1 : ∀ o cs, Below w.heap.size w ((w.alloc o).setRow w.heap.size cs) := fun o cs => below_setRow ((Below.refl _ _).alloc (Nat.le_refl _) o) (Nat.le_refl _) cs
  have hc := fun W (h1 : 3 ≤ W.heap.size) (h2 : Errs W) => values_batch sub ser bat v ep W (by omega) h1 h2
  have hd := fun W => decode_any v W (by omega)
  generalize dec v (v.size + 1) 0 [] = D at hc hd
  have Hc : Hid (∀ W (h1 : 3 ≤ W.heap.size) (h2 : Errs W), Calls Ybad.prog 5 #[.agg (msg 1 sub ser bat 1 v ep)] W (DecPost W.heap.size D W)) := hc
  have Hd : Hid (∀ W, Calls Ybad.prog 6 #[.string v] W (DecPost W.heap.size D W)) := hd
  clear hc hd
  go_enter Ybad.func3, Ybad.ntmps3
  go_wp2_with (first | (refine wpList_build_to rfl 37 #[(0, .tmp 23), (1, .tmp 24), (2, .tmp 25), (3, .tmp 26), (4, .tmp 29), (5, .tmp 30)] rfl (msg 1 sub ser bat 1 v ep) (by kernel_rfl) ?_) | (refine wpList_store_row rfl 37 (.tmp 15) (.tmp 31) rfl w.heap.size (msg 1 sub ser bat 1 v ep) rfl rfl 37 _ (heap_alloc_new w _) (by kernel_rfl) (by kernel_rfl) (by kernel_rfl) ?_) | (refine wpList_load_row rfl 37 (.tmp 15) rfl w.heap.size rfl 37 (msg 1 sub ser bat 1 v ep) (0, 0) _ (setRow_heap _ _ _ _ 37 (0, 0) (heap_alloc_new w _)) Ybad.underlying37 rfl (by kernel_rfl) ?_))
  refine (Hc.out _ (by simp; omega) (hE.below (hb1 _ _) hB)).mono ?_
  rintro e w1 ⟨hbl, hm⟩
  have hbl1 : Below w.heap.size w w1 := (hb1 _ _).trans (hbl.mono (by simp))
  cases D with
  | none =>
    subst hm
    clear hbl
    go_wp2_with fail
    refine (Hd.out w1).mono ?_
    rintro e w2 ⟨hbl2, hm2⟩
    subst hm2
    go_wp2_with fail
    refine (same_none _ _).mono ?_
    rintro e w3 ⟨rfl, hw⟩
    obtain rfl := hw.symm
    go_wp2_with fail
    go_ret
    exact ⟨rfl, hbl1.trans (hbl2.mono hbl1.size)⟩
  | some acc =>
    obtain ⟨x, rfl, hown, hnil⟩ := hm
    clear hbl
    by_cases hacc : acc = []
    · subst hacc
      obtain rfl := hnil rfl
      clear hnil hown
      go_wp2_with fail
      refine (Hd.out w1).mono ?_
      rintro e w2 ⟨hbl2, y, rfl, hown2, hnil2⟩
      obtain rfl := hnil2 rfl
      clear hnil2 hown2
      go_wp2_with fail
      refine (same_none _ _).mono ?_
      rintro e w3 ⟨rfl, hw⟩
      obtain rfl := hw.symm
      go_wp2_with fail
      go_ret
      exact ⟨rfl, hbl1.trans (hbl2.mono hbl1.size)⟩
    · have he : (!acc.isEmpty) = true := by simp [hacc]
      rw [he]
      obtain ⟨g, cap, rfl, hg, hgl, hlen, hcx⟩ := own_cells hown hacc
      clear hnil hown
      go_wp2_with fail
      refine (Hd.out w1).mono ?_
      rintro e w2 ⟨hbl2, y, rfl, hown2, hnil2⟩
      rw [he]
      obtain ⟨g2, cap2, rfl, hg2, hgl2, hlen2, hcy⟩ := own_cells hown2 hacc
      have hcx2 : ∀ i (hi : i < acc.length), w2.cell? ⟨g, 0 + i, none⟩ = some (.string acc[i]) := fun i hi => (hbl2.cell hgl).trans (hcx i hi)
      have HX : Hid (∀ i (hi : i < acc.length), w2.cell? ⟨g, 0 + i, none⟩ = some (.string acc[i])) := hcx2
      have HY : Hid (∀ i (hi : i < acc.length), w2.cell? ⟨g2, 0 + i, none⟩ = some (.string acc[i])) := hcy
      clear hnil2 hown2 hcx hcx2 hcy he
      go_wp2_with fail
      refine (same_list acc g 0 cap g2 0 cap2 w2 hlen HX.out HY.out).mono ?_
      rintro e w3 ⟨rfl, m, rfl⟩
      go_wp2_with fail
      go_ret
      exact ⟨rfl, Below.dN (hbl1.trans (hbl2.mono hbl1.size)) _⟩
end Go.Proofs.YbulkgdpcDoor.lawB
