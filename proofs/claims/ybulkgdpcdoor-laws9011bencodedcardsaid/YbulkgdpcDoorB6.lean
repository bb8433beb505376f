import Derived.Test.YbulkgdpcDoorB5
import Derived.Laws.Tables
import Derived.Laws.Rows
import Derived.Laws.CopyOwn
namespace Go.Proofs.YbulkgdpcDoor.lawB
open Go.ChangeShapes Go.WideShapes Go.ChangeAt Go.RowKit
set_option linter.unusedVariables false

theorem wpList_build_to {P : Program} {ops : Array Oper} {rest : List Oper} {o : Oper} {a : Act} {w : World} {Q : Exit → Act → World → Prop} (hg : o.guard = none) (t : TypeId) (parts : Array (Nat × Operand)) (ho : o.op = .build t parts)
    (cs : Array Value) (hb : P.built t (parts.map fun (i, x) => (i, a.eval x)).toList = some cs)
    (h : wpList P ops Q rest (a.put o.dst (.agg cs)) w) : wpList P ops Q (o :: rest) a w :=
  wpList_build hg t parts ho (by rw [hb]; rfl) (by rw [hb]; exact h)

theorem own_cells {w : World} {b : Nat} {x : Value} {acc : List ByteArray} (h : w.ownsRow b 9 1 x acc.length (acc.map Value.string)) (hne : acc ≠ []) :
    ∃ g cap, x = .slice (some ⟨g, 0, none⟩) acc.length cap ∧ b ≤ g ∧ g < w.heap.size ∧ acc.length ≤ 9223372036854775807 ∧ ∀ i (hi : i < acc.length), w.cell? ⟨g, 0 + i, none⟩ = some (.string acc[i]) := by
  rcases h.2 with ⟨_, h0⟩ | ⟨g, cap, cur, rfl, hb, hg, hnc, hcm, hcs, htake⟩
  · exact absurd (List.length_eq_zero_iff.1 h0) hne
  · refine ⟨g, cap, rfl, hb, (Array.getElem?_eq_some_iff.1 hg).1, ?_, fun i hi => ?_⟩
    · unfold maxLen at hcm; omega
    · rw [Nat.zero_add, h.cellAt i (by omega)]
      simp [hi]

theorem lawW_long (part kind sub ser bat ep : Int) (v : ByteArray) (w : World) (hv : 1048576 < v.size) (hm : v.size ≤ maxLen) :
    Calls Ybad.prog 3 #[.int .u8 part, .int .u8 kind, .int .i64 sub, .int .u64 ser, .int .i64 bat, .int .i64 ep, .string v] w fun e w' => e = .returned (.bool true) ∧ Below w.heap.size w w' := by
  unfold maxLen at hm
  have h1 : (1048576 : Int) < (v.size : Int) := by omega
  go_enter Ybad.func3, Ybad.ntmps3
  go_wp2_with fail
  go_ret
  exact ⟨rfl, Below.refl _ _⟩

set_option maxRecDepth 100000 in
set_option maxHeartbeats 1000000 in
theorem lawW_other (part kind sub ser bat ep : Int) (v : ByteArray) (w : World) (hv : v.size ≤ 1048576) (h : ¬ (part = 1 ∧ kind = 1)) :
    Calls Ybad.prog 3 #[.int .u8 part, .int .u8 kind, .int .i64 sub, .int .u64 ser, .int .i64 bat, .int .i64 ep, .string v] w fun e w' => e = .returned (.bool true) ∧ Below w.heap.size w w' := by
  have h1 : ¬ (1048576 : Int) < (v.size : Int) := by omega
  have Hh : Hid (¬ (part = 1 ∧ kind = 1)) := h
  clear h
  go_enter Ybad.func3, Ybad.ntmps3
  go_wp2_with (first | (refine wpList_build_to rfl 37 #[(0, .tmp 23), (1, .tmp 24), (2, .tmp 25), (3, .tmp 26), (4, .tmp 29), (5, .tmp 30)] rfl (msg part sub ser bat kind v ep) (by kernel_rfl) ?_) | (refine wpList_store_row rfl 37 (.tmp 15) (.tmp 31) rfl w.heap.size (msg part sub ser bat kind v ep) rfl rfl 37 _ (heap_alloc_new w _) (by kernel_rfl) (by kernel_rfl) (by kernel_rfl) ?_) | (refine wpList_load_row rfl 37 (.tmp 15) rfl w.heap.size rfl 37 (msg part sub ser bat kind v ep) (0, 0) _ (setRow_heap _ _ _ _ 37 (0, 0) (heap_alloc_new w _)) Ybad.underlying37 rfl (by kernel_rfl) ?_))
  refine (values_other part sub ser bat kind v ep _ Hh.out).mono ?_
  rintro e w1 ⟨rfl, hbl⟩
  have hbl1 : Below w.heap.size w w1 := (below_setRow ((Below.refl _ _).alloc (Nat.le_refl _) _) (Nat.le_refl _) _).trans (hbl.mono (by simp))
  clear hbl
  by_cases hp : part = 1
  · have hk : ¬ kind = 1 := fun e => Hh.out ⟨hp, e⟩
    have hk' : (kind == 1) = false := beq_eq_false_iff_ne.2 hk
    have hp' : (part == 1) = true := beq_iff_eq.2 hp
    clear hp hk
    go_wp2_with fail
    refine (same_none _ _).mono ?_
    rintro e w2 ⟨rfl, hw⟩
    obtain rfl := hw.symm
    go_wp2_with fail
    go_ret
    exact ⟨rfl, hbl1⟩
  · have hp' : (part == 1) = false := beq_eq_false_iff_ne.2 hp
    clear hp
    go_wp2_with fail
    refine (same_none _ _).mono ?_
    rintro e w2 ⟨rfl, hw⟩
    obtain rfl := hw.symm
    go_wp2_with fail
    go_ret
    exact ⟨rfl, hbl1⟩
end Go.Proofs.YbulkgdpcDoor.lawB
