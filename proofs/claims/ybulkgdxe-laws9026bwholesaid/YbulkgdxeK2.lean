import Derived.Test.YbulkgdxeK1
namespace Go.Proofs.Ybulkgdxe.lawK
open Go.ChangeShapes Go.WideShapes Go.ChangeAt Go.RowKit
set_option linter.unusedVariables false

theorem stored_bi {w : World} {base g n cap : Nat} {xs : List Int} (h : w.ownsRow base 5 1 (.slice (some ⟨g, 0, none⟩) n cap) n (bi xs)) (q : Nat) (e : Int) :
    (w.setCell ⟨g, q, none⟩ (.int .u8 e)).ownsRow base 5 1 (.slice (some ⟨g, 0, none⟩) n cap) n (bi (xs.set q e)) := by
  have h1 := (h.stored q (.int .u8 e)).1
  have h2 : bi (xs.set q e) = (bi xs).set q (.int .u8 e) := by simp [bi, List.map_set]
  rw [h2]
  exact h1

theorem law_long (a : Option Addr) (n cap : Nat) (w : World) (hn : 1048576 < n) (hm : n ≤ maxLen) :
    Calls Yba.prog 3 #[.slice a n cap] w fun e w' => e = .returned (.bool true) ∧ Below w.heap.size w w' := by
  unfold maxLen at hm
  have h1 : (1048576 : Int) < (n : Int) := by omega
  go_enter Yba.func3, Yba.ntmps3
  go_wp2_with fail
  go_ret
  exact ⟨rfl, Below.refl _ _⟩

set_option maxRecDepth 100000 in
set_option maxHeartbeats 2000000 in
theorem law_short (a : Option Addr) (n cap b off : Nat) (z : Nat → Int) (w : World) (hn : n ≤ 1048576) (hk : Key w a n cap b off z) :
    Calls Yba.prog 3 #[.slice a n cap] w fun e w' => e = .returned (.bool true) ∧ Below w.heap.size w w' := by
  have h1 : ¬ (1048576 : Int) < (n : Int) := by omega
  have hmk := fun w => run_make_row' (P := Yba.prog) 22 5 (.int .u8 0) 1 Yba.underlying22 info5 rfl .i64 .i64 n (by omega) (by omega) w
  go_enter Yba.func3, Yba.ntmps3
  go_wp2_with fail
  clear hmk
  go_loopw [4] (fun i wr => ∃ k : Nat, k ≤ n ∧ i = .int .i64 k ∧ wr.rowIs w.heap.size 5 n (fun i => if i < k then .int .u8 (z i) else .int .u8 0) ∧ wr.heap.size = w.heap.size + 1 ∧ Below w.heap.size w wr) (fun i _ => n - (intOf i).toNat)
  case atStart =>
    refine ⟨0, Nat.zero_le _, rfl, ?_, by simp, (Below.refl _ _).alloc (Nat.le_refl _) _⟩
    exact (World.rowIs_made w (.int .u8 0) n 5).congr fun i _ => by simp
  case round =>
    obtain ⟨k, hkn, rfl, hrow, hsz, hbel⟩ := hrel
    by_cases hlt : k < n
    · have hix := hk.ix k hlt
      have g1 : wr.cell? ⟨b, off + k, none⟩ = some (.int .u8 (z k)) := (hbel.cell (hk.blk (by omega))).trans (hk.cell k hlt)
      have g2 : wr.cell? ⟨w.heap.size, k, none⟩ = some (.int .u8 0) := by
        have := hrow.cell hlt
        simpa using this
      have f2 := hrow.frozen k
      have hki : (k : Int) < (n : Int) := by omega
      have Hz : ∃ c, Hid (z k = c) := ⟨_, Eq.refl (z k)⟩
      obtain ⟨c, Hz⟩ := Hz
      rw [Hz.out] at g1
      go_wp2_with fail
      go_roundw
      case rel =>
        refine ⟨k + 1, by omega, by go_num, ?_, by simp [World.setCell, hsz], hbel.setCell (Nat.le_refl _) _⟩
        refine (hrow.set k _).congr fun i hi => ?_
        by_cases e : i = k
        · subst e; simp [Hz.out]
        · by_cases e2 : i < k
          · simp [e, e2, show i < k + 1 by omega]
          · simp [e, e2, show ¬ i < k + 1 by omega]
      case measure => simp [intOf]; omega
    · obtain rfl : k = n := by omega
      have hrow2 : wr.rowIs w.heap.size 5 k (fun i => .int .u8 (z i)) := hrow.congr fun i hi => by simp [hi]
      have hk2 := hk.below hbel (Nat.le_refl _)
      clear hrow hkn
      go_wp2_with fail
      refine (keyToNibbles_any a k cap b off z wr hn hk2).mono ?_
      rintro e w2 ⟨v2, rfl, ho⟩
      have hl : (nibTo z k ++ [16]).length = 2 * k + 1 := by simp [nibTo_len]
      obtain ⟨g, cap2, cur, rfl, hbg, hgg, hnc, hcm, hcs, htake⟩ : ∃ g cap2 cur, v2 = Value.slice (some ⟨g, 0, none⟩) (2 * k + 1) cap2 ∧ wr.heap.size ≤ g ∧ w2.heap[g]? = some (.cells cur 5 (0, 0)) ∧ (2 * k + 1) ≤ cap2 ∧ cap2 ≤ maxLen ∧ cur.size = cap2 * 1 ∧ cur.toList.take ((2 * k + 1) * 1) = bi (nibTo z k ++ [16]) := by
        have := ho.own.2
        rw [hl] at this
        rcases this with ⟨_, h0⟩ | h
        · omega
        · exact h
      have hown := ho.own
      rw [hl] at hown
      have hcellg : ∀ j x, (nibTo z k ++ [16])[j]? = some x → w2.cell? ⟨g, j, none⟩ = some (.int .u8 x) := fun j x hx => by
        have hj := (List.getElem?_eq_some_iff.1 hx).1
        rw [hown.cellAt j (by omega)]
        simp only [bi, List.getElem?_map, hx, Option.map_some]
      have hbel2 : Below w.heap.size w w2 := hbel.trans (ho.bel.mono (by omega))
      have hrow3 : w2.rowIs w.heap.size 5 k (fun i => .int .u8 (z i)) := hrow2.of_block (ho.bel.block _ (by omega))
      have hk3 := hk2.below ho.bel (Nat.le_refl _)
      rw [hsz] at hbg hown
      have hbB : ∀ k, k < w.heap.size + 1 → k < wr.heap.size := fun k hk => by omega
      have Hcg : Hid (∀ j x, (nibTo z k ++ [16])[j]? = some x → w2.cell? ⟨g, j, none⟩ = some (.int .u8 x)) := hcellg
      have Hown : Hid (w2.ownsRow (w.heap.size + 1) 5 1 (.slice (some ⟨g, 0, none⟩) (2 * k + 1) cap2) (2 * k + 1) (bi (nibTo z k ++ [16]))) := hown
      clear hcellg hgg hcs htake hl hsz hown ho hbel hrow2 hk2 hbB
      go_wp2_with fail
      go_loop [6] (fun i => ∃ t : Nat, t ≤ k ∧ i = .int .i64 t) (fun i => k - (intOf i).toNat)
      case atStart => exact ⟨0, Nat.zero_le _, rfl⟩
      case round =>
        obtain ⟨t, htk, rfl⟩ := hrel
        by_cases hlt2 : t < k
        · have hng := nibTo_get z k t hlt2
          have hnl := nibTo_len z k
          have c0 : w2.cell? ⟨w.heap.size, t, none⟩ = some (.int .u8 (z t)) := hrow3.cell hlt2
          have c1 := Hcg.out (2 * t) (z t / 16) (by rw [List.getElem?_append_left (by omega)]; exact hng.1)
          have c2 := Hcg.out (2 * t + 1) (z t % 16) (by rw [List.getElem?_append_left (by omega)]; exact hng.2)
          have hbd := hk.bd t
          have hti : (t : Int) < (k : Int) := by omega
          clear hng hnl
          generalize z t = c at *
          go_wp2_with fail
          go_round
          case rel => exact ⟨t + 1, by omega, by go_num⟩
          case measure => simp [intOf]; omega
        · obtain rfl : t = k := by omega
          have hnl := nibTo_len z t
          have c3 := Hcg.out (2 * t) 16 (by rw [List.getElem?_append_right (by omega), hnl]; simp)
          clear hnl
          go_wp2_with fail
          refine (same_true a t cap b off w.heap.size t z w2 hn hk3 hrow3).mono ?_
          rintro e w3 ⟨rfl, m, rfl⟩
          clear c3
          go_wp2_with fail
          go_loopw [8] (fun i wr2 => ∃ (q : Nat) (xs : List Int), q ≤ 2 * t + 1 ∧ xs.length = 2 * t + 1 ∧ i = .int .i64 q ∧ Hid (wr2.ownsRow (w.heap.size + 1) 5 1 (.slice (some ⟨g, 0, none⟩) (2 * t + 1) cap2) (2 * t + 1) (bi xs)) ∧ Below (w.heap.size + 1) w2 wr2) (fun i _ => 2 * t + 1 - (intOf i).toNat)
          case atStart => exact ⟨0, nibTo z t ++ [16], by omega, by simp [nibTo_len], rfl, Hown.out, ⟨rfl, rfl, rfl, Nat.le_refl _, fun _ _ => rfl⟩⟩
          case round =>
            obtain ⟨q, xs, hq, hxl, rfl, Ho2, hb3⟩ := hrel
            by_cases hlt3 : q < 2 * t + 1
            · have hcq : wr.cell? ⟨g, q, none⟩ = some (.int .u8 (xs[q]'(by omega))) := by
                rw [Ho2.out.cellAt q (by omega)]
                simp [bi, hxl, hlt3]
              have hfq := Ho2.out.frozenAt q
              have hqi : (q : Int) < 2 * (t : Int) + 1 := by omega
              generalize xs[q]'(by omega) = x at hcq
              go_wp2_with fail
              go_roundw
              case rel =>
                exact ⟨q + 1, xs.set q (bits BinOp.xor IntKind.u8 (if IntKind.u8.signed = true then -1 else IntKind.u8.max) x), by omega, by simp [hxl], by go_num, stored_bi Ho2.out q _, hb3.setCell (by show w.heap.size + 1 ≤ g; omega) _⟩
              case measure => simp [intOf]; omega
            · obtain rfl : q = 2 * t + 1 := by omega
              have hb4 : Below w.heap.size w wr := hbel2.trans (hb3.mono (by omega))
              have hk4 := hk.below hb4 (Nat.le_refl _)
              have hrow4 : wr.rowIs w.heap.size 5 t (fun i => .int .u8 (z i)) := hrow3.of_block (hb3.block _ (by omega))
              go_wp2_with fail
              refine (same_true a t cap b off w.heap.size t z wr hn hk4 hrow4).mono ?_
              rintro e w5 ⟨rfl, m5, rfl⟩
              go_wp2_with fail
              go_ret
              exact ⟨rfl, ⟨hb4.os, hb4.tape, hb4.output, hb4.size, hb4.block⟩⟩
end Go.Proofs.Ybulkgdxe.lawK
