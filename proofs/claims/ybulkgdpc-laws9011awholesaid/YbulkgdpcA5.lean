import Derived.Test.YbulkgdpcA3
import Derived.Deep.QuietTactic
import Derived.BigQuiet
namespace Go.Proofs.Ybulkgdpc.lawA
open Go.ChangeShapes Go.WideShapes Go.ChangeAt Go.RowKit
open Go.ChangeMaps (setBlock heap_setBlock_same heap_setBlock_other)
set_option linter.unusedVariables false

set_option maxRecDepth 100000 in
set_option maxHeartbeats 1000000 in
theorem law_fresh2p (a0 a1 a2 a3 a4 a5 : Int) (he : a3 ≤ 1048576) (h10 : 0 ≤ a1) (h11 : a1 ≤ 65535) (h40 : 0 ≤ a4) (h41 : a4 ≤ 65535) (h50 : 0 ≤ a5) (h51 : a5 ≤ 255) (n j : Nat) (hn : a1 % 512 + 1 = (n : Int)) (hj : a4 % (n : Int) = (j : Int)) (hm : a5 % 3 = 2) (hpos : 0 < a3) (w : World) :
    Calls Yba.prog 3 #[.int .u64 a0, .int .u16 a1, .int .i64 a2, .int .i64 a3, .int .u16 a4, .int .u8 a5] w fun e w' => e = .returned (.bool true) ∧ Below w.heap.size w w' := by
  have n1 : 1 ≤ n := by omega
  have n2 : n ≤ 512 := by omega
  have hjn : j < n := by
    have := Int.emod_lt_of_pos a4 (show 0 < (n : Int) by omega)
    omega
  have hmm := @run_makeMap Yba.prog
  have hM0 := lc_map w a0 n a2
  have hc3 : ((w.alloc (.map #[] 0)).alloc (.cells #[.int .u64 a0, .int .i64 n, .int .i64 a2, .map (some w.heap.size)] 27)).cell? ⟨w.heap.size + 1, 3, none⟩ = some (.map (some w.heap.size)) := (lc_row w a0 n a2).cell (i := 3) (by omega)
  have hup := upd_none (P := Yba.prog) (t := 25) Yba.underlying25 Yba.underlying3 hM0 a3 (.slice none 0 0)
  go_enter Yba.func3, Yba.ntmps3
  go_wp2_with fail
  refine (of_fresh' (w.heap.size + 1) w.heap.size a0 n a2 a3 j _ n1 n2 hjn he ?hp #[⟨.int .i64 a3, .slice none 0 0, 0⟩] 1 ?hM (.inr ⟨0, rfl⟩) (w.heap.size + 4) (w.heap.size + 6 + 2 * j) (w.heap.size + 5 + 2 * n) (by simp [setBlock]) (by simp [setBlock]) (by simp [setBlock])).mono ?_
  case hp => exact (lc_row w a0 n a2).of_block (heap_setBlock_other hM0 _ (by omega))
  case hM => exact heap_setBlock_same hM0 _
  rintro r w2 ⟨rfl, hco, hsz, ⟨b1, c1, hM⟩, hblk, hos, htape, hout⟩
  have hbel : Below w.heap.size w w2 := by
    refine ⟨hos, htape, hout, by omega, fun k hk => ?_⟩
    rw [hblk k (by simp [setBlock]; omega) (by omega), heap_setBlock_other hM0 _ (by omega), Below.heap_alloc _ _ _ (by simp; omega), Below.heap_alloc _ _ _ (by omega)]
  have hrow : w2.rowIs (w.heap.size + 1) 27 4 (lc a0 n a2 w.heap.size) := (lc_row w a0 n a2).of_block ((hblk _ (by simp [setBlock]) (by omega)).trans (heap_setBlock_other hM0 _ (by omega)))
  clear hblk hos htape hout hmm hup hc3 hM0
  have c0 := hrow.cell (i := 0) (by omega)
  have c1' := hrow.cell (i := 1) (by omega)
  have c2 := hrow.cell (i := 2) (by omega)
  have c3 := hrow.cell (i := 3) (by omega)
  simp only [lc] at c0 c1' c2 c3
  simp at c0 c1' c2 c3
  have hl1 : ∀ ty, (Builtin.len_ #[25] ty #[.map (some w.heap.size)]).run Yba.prog w2 = .ok (.int .i64 1) w2 := fun ty => len_map w2 Yba.underlying25 hM ty
  have hlk : (Instr.lookup 25 (.map (some w.heap.size)) (.int .i64 a3) true).run Yba.prog w2 = _ := look_one_ok Yba.underlying25 Yba.underlying3 hM
  have hcj : w2.cell? ⟨w.heap.size + 4, j, none⟩ = some (.pointer (some ⟨w.heap.size + 6 + 2 * j, 0, none⟩)) := by
    have := hco.1.cell hjn
    rw [if_pos hjn] at this
    exact this
  obtain ⟨i32, hi32, hs32⟩ := info32_parts
  have hne := fun w a => run_neq_ptr_same (P := Yba.prog) w (tp := 29) (te := 32) a Yba.underlying29 hi32
  have hji : (j : Int) < (n : Int) := by omega
  have Hsz : Hid (w2.heap.size = w.heap.size + 5 + 2 * n) := hsz
  clear hsz
  go_wp2_with (go_at_call 6; refine (out_at _ _ (sdTo (xorE a0) a3.toNat) (sdTo_pos (xorE a0) a3 (xor_bd _ _).1 (xor_bd _ _).2 hpos) _).mono ?_; rintro e w' ⟨rfl, hw⟩; obtain rfl := hw.symm)
  clear c0 c1' c2 c3 hl1 hlk hcj hne
  generalize sdTo (xorE a0) a3.toNat = E at *
  go_loopw [25] (fun i wr => ∃ k : Nat, k ≤ n ∧ i = .int .i64 k ∧ wr.Alike w2 ∧ Below w.heap.size w wr) (fun i _ => n - (intOf i).toNat)
  case atStart => exact ⟨0, Nat.zero_le _, rfl, World.Alike.refl _, hbel⟩
  case round =>
    obtain ⟨k, hk, rfl, hal, hbw⟩ := hrel
    by_cases hlt : k < n
    · have g0 : wr.cell? ⟨w.heap.size + 4, k, none⟩ = some (.pointer (some ⟨w.heap.size + 6 + 2 * k, 0, none⟩)) := by
        have := hco.1.cell hlt
        rw [if_pos hlt] at this
        exact (hal.cell _).trans this
      have r0 := hco.2.2 k hlt
      have e0 : w.heap.size + 4 + 2 + 2 * k = w.heap.size + 6 + 2 * k := by omega
      rw [e0] at r0
      have g1 : wr.cell? ⟨w.heap.size + 6 + 2 * k, 0, none⟩ = some (.int .u64 (mix (stTo (xorC E) (k + 1)))) := (hal.cell _).trans (r0.cell (i := 0) (by omega))
      have g2 : wr.cell? ⟨w.heap.size + 6 + 2 * k, 1, none⟩ = some (.int .u64 (IntKind.u64.wrap a2)) := (hal.cell _).trans (r0.cell (i := 1) (by omega))
      have g3 : wr.cell? ⟨w.heap.size + 6 + 2 * k, 2, none⟩ = some (.map (some (w.heap.size + 5 + 2 * k))) := (hal.cell _).trans (r0.cell (i := 2) (by omega))
      have hb : wr.heap[w.heap.size + 5 + 2 * k]? = some (.map #[] 0) := by
        have := hco.2.1 k hlt
        rw [hal.1]
        exact this
      have hl0 : ∀ q ty, (Builtin.len_ #[30] ty #[.map (some (w.heap.size + 5 + 2 * k))]).run Yba.prog (wr.drewN q) = .ok (.int .i64 0) (wr.drewN q) := fun q ty => len_map (wr.drewN q) Yba.underlying30 hb ty
      have hmn := fun w r => run_eql_map_nil (P := Yba.prog) w 30 3 3 r Yba.underlying30
      have hki : (k : Int) < (n : Int) := by omega
      have hk0 : (0 : Int) ≤ (k : Int) := by omega
      go_wp2_with fail
      go_quiet ((go_at_call 6; exact Calls.quiet_of_same (coin_out E k _)))
      clear g1 g2 g3 hl0 hmn hb
      by_cases hk1 : k = 0
      · have hd : decide ((0 : Int) < (k : Int)) = false := decide_eq_false (by omega)
        go_wp2
        go_roundw
        case rel => exact ⟨k + 1, by omega, by go_num, hal, ⟨hbw.os, hbw.tape, hbw.output, hbw.size, hbw.block⟩⟩
        case measure => simp [intOf]; omega
      · obtain ⟨k', rfl⟩ : ∃ k', k = k' + 1 := ⟨k - 1, by omega⟩
        have g4 : wr.cell? ⟨w.heap.size + 4, k', none⟩ = some (.pointer (some ⟨w.heap.size + 6 + 2 * k', 0, none⟩)) := by
          have := hco.1.cell (i := k') (by omega)
          rw [if_pos (by omega)] at this
          exact (hal.cell _).trans this
        obtain ⟨ca, hca, _⟩ := hco.2.2 (k' + 1) hlt
        obtain ⟨cb, hcb, _⟩ := hco.2.2 k' (by omega)
        have hpe := fun q => run_eql_ptr_other (P := Yba.prog) (wr.drewN q) (tp := 29) (te := 32) (a := ⟨w.heap.size + 6 + 2 * k', 0, none⟩) (b := ⟨w.heap.size + 6 + 2 * (k' + 1), 0, none⟩) Yba.underlying29 hi32 hs32 (by simp) (hal.1 ▸ hcb) (hal.1 ▸ hca)
        go_wp2
        go_roundw
        case rel => exact ⟨k' + 1 + 1, by omega, by go_num, hal, ⟨hbw.os, hbw.tape, hbw.output, hbw.size, hbw.block⟩⟩
        case measure => simp [intOf]; omega
    · obtain rfl : k = n := by omega
      go_wp2
      go_ret
      exact ⟨rfl, hbw⟩

end Go.Proofs.Ybulkgdpc.lawA
