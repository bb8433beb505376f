import Derived.Test.YbulkgdpcA3
import Derived.Deep.QuietTactic
import Derived.BigQuiet
namespace Go.Proofs.Ybulkgdpc.lawA
open Go.ChangeShapes Go.WideShapes Go.ChangeAt Go.RowKit
open Go.ChangeMaps (setBlock heap_setBlock_same heap_setBlock_other)
set_option linter.unusedVariables false

set_option maxRecDepth 100000 in
set_option maxHeartbeats 1000000 in
theorem law_there (a0 a1 a2 a3 a4 a5 : Int) (he : a3 ≤ 1048576) (h10 : 0 ≤ a1) (h11 : a1 ≤ 65535) (h40 : 0 ≤ a4) (h41 : a4 ≤ 65535) (h50 : 0 ≤ a5) (h51 : a5 ≤ 255) (n j : Nat) (hn : a1 % 512 + 1 = (n : Int)) (hj : a4 % (n : Int) = (j : Int)) (hm : a5 % 3 = 1) (w : World) :
    Calls Yba.prog 3 #[.int .u64 a0, .int .u16 a1, .int .i64 a2, .int .i64 a3, .int .u16 a4, .int .u8 a5] w fun e w' => e = .returned (.bool true) ∧ Below w.heap.size w w' := by
  have n1 : 1 ≤ n := by omega
  have n2 : n ≤ 512 := by omega
  have hjn : j < n := by
    have := Int.emod_lt_of_pos a4 (show 0 < (n : Int) by omega)
    omega
  have hmm := @run_makeMap Yba.prog
  have hmk := fun w => run_make_row' (P := Yba.prog) 28 29 (.pointer none) 8 Yba.underlying28 info29 rfl .i64 .i64 n (by omega) (by omega) w
  go_enter Yba.func3, Yba.ntmps3
  go_wp2_with fail
  clear hmk
  go_loopw [18] (fun i wr => ∃ k : Nat, k ≤ n ∧ i = .int .i64 k ∧ wr.rowIs (w.heap.size + 1) 27 4 (lc a0 n a2 w.heap.size) ∧ wr.heap[w.heap.size]? = some (.map #[] 0) ∧ CoinsTo wr (w.heap.size + 2) n k (fun i => bits BinOp.xor IntKind.u64 (i : Int) 23130) 7 ∧ wr.heap.size = w.heap.size + 3 + 2 * k ∧ Below w.heap.size w wr)
    (fun i _ => n - (intOf i).toNat)
  case atStart =>
    refine ⟨0, Nat.zero_le _, rfl, (lc_row w a0 n a2).alloc _, ?_, ⟨?_, fun i hi => absurd hi (by omega), fun i hi => absurd hi (by omega)⟩, by simp, (((Below.refl _ _).alloc (Nat.le_refl _) _).alloc (by simp) _).alloc (by simp; omega) _⟩
    · rw [Below.heap_alloc _ _ _ (by simp; omega)]
      exact lc_map w a0 n a2
    · have := World.rowIs_made ((w.alloc (.map #[] 0)).alloc (.cells #[.int .u64 a0, .int .i64 n, .int .i64 a2, .map (some w.heap.size)] 27)) (.pointer none) n 29
      simp only [World.size_alloc] at this
      exact this.congr fun i _ => by simp
  case round =>
    obtain ⟨k, hk, rfl, hrow, hM, hco, hsz, hbel⟩ := hrel
    by_cases hlt : k < n
    · have hsc2 : ∀ o1 o2, ((wr.alloc o1).alloc o2).cell? ⟨w.heap.size + 2, k, none⟩ = some (.pointer none) := fun o1 o2 => by
        have := ((hco.1.alloc o1).alloc o2).cell hlt
        simpa using this
      have hsf2 : ∀ o1 o2, ((wr.alloc o1).alloc o2).frozen? ⟨w.heap.size + 2, k, none⟩ = false := fun o1 o2 => ((hco.1.alloc o1).alloc o2).frozen k
      have hk0 : (0 : Int) ≤ (k : Int) := by omega
      have hki : (k : Int) < (n : Int) := by omega
      go_wp2
      go_roundw
      case rel =>
        refine ⟨k + 1, by omega, by go_num, ((hrow.alloc _).alloc _).setOther (by show w.heap.size + 1 ≠ w.heap.size + 2; omega) _, ?_, coins_step hco (by omega) hlt (by omega) (by omega) rfl, by simp [World.setCell, hsz]; omega, ((hbel.alloc (by omega) _).alloc (by simp; omega) _).setCell (by show w.heap.size ≤ w.heap.size + 2; omega) _⟩
        rw [Below.heap_setCell _ _ _ _ (by show w.heap.size ≠ w.heap.size + 2; omega), Below.heap_alloc _ _ _ (by simp; omega), Below.heap_alloc _ _ _ (by omega)]
        exact hM
      case measure => simp [intOf]; omega
    · obtain rfl : k = n := by omega
      clear hmm hk
      have c3 := hrow.cell (i := 3) (by omega)
      simp only [lc] at c3
      simp at c3
      have hup := fun v => upd_none (P := Yba.prog) (t := 25) Yba.underlying25 Yba.underlying3 hM a3 v
      go_wp2_with fail
      have f1 := hrow.of_block (heap_setBlock_other hM (.map #[⟨.int .i64 a3, .slice (some ⟨w.heap.size + 2, 0, none⟩) k k, 0⟩] (0 + 1)) (show w.heap.size + 1 ≠ w.heap.size by omega))
      have f2 := heap_setBlock_same hM (.map #[⟨.int .i64 a3, .slice (some ⟨w.heap.size + 2, 0, none⟩) k k, 0⟩] (0 + 1))
      have f3 := coins_other hco (w' := setBlock wr w.heap.size (.map #[⟨.int .i64 a3, .slice (some ⟨w.heap.size + 2, 0, none⟩) k k, 0⟩] (0 + 1))) (fun b hb1 _ => heap_setBlock_other hM _ (by omega)) (by omega)
      have f4 : Below w.heap.size w (setBlock wr w.heap.size (.map #[⟨.int .i64 a3, .slice (some ⟨w.heap.size + 2, 0, none⟩) k k, 0⟩] (0 + 1))) :=
        ⟨hbel.os, hbel.tape, hbel.output, by simpa [setBlock] using hbel.size, fun b hb => (heap_setBlock_other hM _ (by omega)).trans (hbel.block b hb)⟩
      clear hup c3 hbel hco hM hrow hsz hlt
      simp only [Nat.zero_add] at *
      generalize setBlock wr w.heap.size (.map #[⟨.int .i64 a3, .slice (some ⟨w.heap.size + 2, 0, none⟩) k k, 0⟩] 1) = W at *
      have hcj : W.cell? ⟨w.heap.size + 2, j, none⟩ = some (.pointer (some ⟨w.heap.size + 4 + 2 * j, 0, none⟩)) := by
        have := f3.1.cell hjn
        rw [if_pos hjn] at this
        exact this
      refine (of_there (w.heap.size + 1) w.heap.size (w.heap.size + 2) a0 k a2 a3 j W hjn f1 0 1 f2 _ hcj).mono ?_
      rintro r w2 ⟨rfl, hw⟩
      obtain rfl := hw.symm
      have c0 := f1.cell (i := 0) (by omega)
      have c1' := f1.cell (i := 1) (by omega)
      have c2 := f1.cell (i := 2) (by omega)
      have c3 := f1.cell (i := 3) (by omega)
      simp only [lc] at c0 c1' c2 c3
      simp at c0 c1' c2 c3
      have hl1 : ∀ ty, (Builtin.len_ #[25] ty #[.map (some w.heap.size)]).run Yba.prog W = .ok (.int .i64 1) W := fun ty => len_map W Yba.underlying25 f2 ty
      have hlk : (Instr.lookup 25 (.map (some w.heap.size)) (.int .i64 a3) true).run Yba.prog W = _ := look_one_ok Yba.underlying25 Yba.underlying3 f2
      obtain ⟨i32, hi32, hs32⟩ := info32_parts
      obtain ⟨i29, hi29⟩ : ∃ i, Yba.prog.info? 29 = some i := by
        obtain ⟨i, h, _⟩ := Option.map_eq_some_iff.1 info29
        exact ⟨i, h⟩
      have hne := fun w a => run_neq_ptr_same (P := Yba.prog) w (tp := 29) (te := 32) a Yba.underlying29 hi32
      have hne2 := fun w a => run_neq_ptr_same (P := Yba.prog) w (tp := 35) (te := 29) a Yba.underlying35 hi29
      have hji : (j : Int) < (k : Int) := by omega
      have hk0 : (0 : Int) < (k : Int) := by omega
      go_wp2_with fail
      go_quiet (fail)
      clear c0 c1' c2 c3 hl1 hlk hcj
      go_wp2_with fail
      clear hne2
      go_loop [22] (fun i => ∃ t : Nat, t ≤ k ∧ i = .int .i64 t) (fun i => k - (intOf i).toNat)
      case atStart => exact ⟨0, Nat.zero_le _, rfl⟩
      case round =>
        obtain ⟨t, ht, rfl⟩ := hrel
        by_cases hlt : t < k
        · have g0 : W.cell? ⟨w.heap.size + 2, t, none⟩ = some (.pointer (some ⟨w.heap.size + 4 + 2 * t, 0, none⟩)) := by
            have := f3.1.cell hlt
            rw [if_pos hlt] at this
            exact this
          have g0' : W.cell? ⟨w.heap.size + 1 + 1, t, none⟩ = some (.pointer (some ⟨w.heap.size + 4 + 2 * t, 0, none⟩)) := g0
          have r0 := f3.2.2 t hlt
          have e0 : w.heap.size + 2 + 2 + 2 * t = w.heap.size + 4 + 2 * t := by omega
          rw [e0] at r0
          have g1 : W.cell? ⟨w.heap.size + 4 + 2 * t, 0, none⟩ = some (.int .u64 (bits BinOp.xor IntKind.u64 (t : Int) 23130)) := (r0.cell (i := 0) (by omega))
          have g2 : W.cell? ⟨w.heap.size + 4 + 2 * t, 1, none⟩ = some (.int .u64 7) := (r0.cell (i := 1) (by omega))
          have g3 : W.cell? ⟨w.heap.size + 4 + 2 * t, 2, none⟩ = some (.map (some (w.heap.size + 3 + 2 * t))) := (r0.cell (i := 2) (by omega))
          have hb : W.heap[w.heap.size + 3 + 2 * t]? = some (.map #[] 0) := f3.2.1 t hlt
          have hl0 : ∀ q ty, (Builtin.len_ #[30] ty #[.map (some (w.heap.size + 3 + 2 * t))]).run Yba.prog (W.drewN q) = .ok (.int .i64 0) (W.drewN q) := fun q ty => len_map (W.drewN q) Yba.underlying30 hb ty
          have hti : (t : Int) < (k : Int) := by omega
          have ht0 : (0 : Int) ≤ (t : Int) := by omega
          clear hb e0
          go_wp2
          go_round
          case rel => exact ⟨t + 1, by omega, by go_num⟩
          case measure => simp [intOf]; omega
        · obtain rfl : t = k := by omega
          go_wp2
          go_ret
          exact ⟨rfl, ⟨f4.os, f4.tape, f4.output, f4.size, f4.block⟩⟩
end Go.Proofs.Ybulkgdpc.lawA
