import Derived.Test.YbulkgdpcDoorE1
import Derived.Test.YbulkgdpcDoorB6
import Derived.Lib.AppendStr
import Derived.Laws.IdiomStrings
namespace Go.Proofs.YbulkgdpcDoor.lawB
open Go.ChangeShapes Go.WideShapes Go.ChangeAt Go.RowKit
set_option linter.unusedVariables false

def tot (vs : List ByteArray) (k : Nat) : Nat := ((vs.take k).map ByteArray.size).sum
theorem tot_succ (vs : List ByteArray) (k : Nat) (h : k < vs.length) : tot vs (k + 1) = tot vs k + vs[k].size := by
  unfold tot
  rw [List.take_succ_eq_append_getElem h, List.map_append, List.sum_append]
  simp only [List.map_cons, List.map_nil, List.sum_cons, List.sum_nil, Nat.add_zero]
def bc (l : List UInt8) : List Value := l.map fun b => Value.int .u8 (b.toNat : Int)
theorem bc_len (l : List UInt8) : (bc l).length = l.length := by simp [bc]
theorem bc_app (a b : List UInt8) : bc (a ++ b) = bc a ++ bc b := by simp [bc]
theorem bc_one (X : Nat) (h : ((UInt8.ofNat X).toNat : Int) = (X : Int)) : bc [UInt8.ofNat X] = [Value.int .u8 (X : Int)] := by
  simp only [bc, List.map_cons, List.map_nil, h]
theorem IntKind.wrap_u8 (x : Int) : IntKind.u8.wrap x = x % 256 := by simp [IntKind.wrap, IntKind.bits, IntKind.signed]
def encTo (vs : List ByteArray) (k : Nat) : List UInt8 := encAll (vs.take k)
theorem encTo_succ (vs : List ByteArray) (k : Nat) (h : k < vs.length) : encTo vs (k + 1) = encTo vs k ++ (vint 10 vs[k].size ++ vs[k].data.toList) := by
  unfold encTo encAll
  rw [List.take_succ_eq_append_getElem h]
  simp only [List.flatMap_append, List.flatMap_cons, List.flatMap_nil, List.append_nil]
def okTo (vs : List ByteArray) (k : Nat) : Bool := (vs.take k).all (fun v => decide (v.size ≤ 65536))
theorem okTo_succ (vs : List ByteArray) (k : Nat) (h : k < vs.length) : okTo vs (k + 1) = (okTo vs k && decide (vs[k].size ≤ 65536)) := by
  unfold okTo
  rw [List.take_succ_eq_append_getElem h, List.all_append]
  simp only [List.all_cons, List.all_nil, Bool.and_true]
theorem info5 : (Ybad.prog.info? 5).map (fun i => (i.zero, i.size, i.bytes)) = some (some (.int .u8 0), 1, 1) := by kernel_rfl

/-- the bytes so far -/
structure Enc (B : Nat) (w wr : World) (v : Value) (l : List UInt8) : Prop where
  own : wr.ownsRow B 5 1 v l.length (bc l)
  bel : Below B w wr
  size : B ≤ wr.heap.size

theorem pow_fits (n : Nat) (h : n ≤ 1048576) : n < 128 ^ (10 + 1) := Nat.lt_of_le_of_lt h (by decide)

theorem Enc.grown {B : Nat} {w wr w1 : World} {v v' : Value} {l l' : List UInt8} {n : Nat} (h : Enc B w wr v l) (hown : w1.ownsRow B 5 1 v' n (bc l')) (hn : n = l'.length) (hg : wr.grownBy w1 v.ownBlock) : Enc B w w1 v' l' := by
  subst hn
  have hk : ∀ k, v.ownBlock = some k → B ≤ k := fun k hv => (h.own.lt k hv).1
  exact ⟨hown, h.bel.grown hg h.size hk, Nat.le_trans h.size hg.size⟩
theorem Enc.alloc {B : Nat} {w wr : World} {v : Value} {l : List UInt8} (h : Enc B w wr v l) (o : Obj) : Enc B w (wr.alloc o) v l :=
  ⟨h.own.alloc o, h.bel.alloc h.size o, by have := h.size; simp; omega⟩

theorem encTo_len (vs : List ByteArray) (k : Nat) (hk : k ≤ vs.length) (hs : ∀ i (h : i < vs.length), vs[i].size < 2097152) : (encTo vs k).length ≤ tot vs k + 3 * k := by
  induction k with
  | zero => simp [encTo, encAll]
  | succ k ih =>
    rw [encTo_succ vs k (by omega), tot_succ vs k (by omega)]
    have := ih (by omega)
    have h3 := vint_le vs[k].size (hs k (by omega))
    have h4 : vs[k].data.toList.length = vs[k].size := Array.length_toList
    simp only [List.length_append, h4]
    omega

set_option maxRecDepth 100000 in
set_option maxHeartbeats 2000000 in
theorem lawE_cons (vs : List ByteArray) (sub : Int) (b off n cap : Nat) (w : World) (Hn : Hid (n = vs.length)) (hn : 1 ≤ n) (hcap : n ≤ 9223372036854775807)
    (hc : Hid (∀ i (h : i < vs.length), w.cell? ⟨b, off + i, none⟩ = some (.string vs[i]) ∧ b < w.heap.size)) (hsz : Hid (∀ i (h : i < vs.length), vs[i].size ≤ 140737488355328)) (hB : 3 ≤ w.heap.size) (hE : Errs w) :
    Calls Ybad.prog 4 #[.slice (some ⟨b, off, none⟩) n cap, .int .i64 sub] w fun e w' => e = .returned (.bool true) ∧ Below w.heap.size w w' := by
  obtain ⟨i0, hi, hz0, hz1, hz2⟩ := info_parts info5
  go_enter Ybad.func4, Ybad.ntmps4
  go_wp2_with fail
  go_loop [5, 6] (fun t i => ∃ k : Nat, k ≤ n ∧ k ≤ 65537 ∧ i = .int .i64 k ∧ t = .int .i64 (tot vs k) ∧ tot vs k ≤ 1048576) (fun _ i => n - (intOf i).toNat)
  case atStart => exact ⟨0, by omega, by omega, rfl, rfl, by simp [tot]⟩
  case round =>
    obtain ⟨k, hk, hk6, rfl, rfl, htot⟩ := hrel
    by_cases hlt : k < n
    · have hkl : k < vs.length := by rw [← Hn.out]; exact hlt
      have hcell := (hc.out k hkl).1
      have hxs := hsz.out k hkl
      have Hts : Hid (tot vs (k + 1) = tot vs k + vs[k].size) := tot_succ vs k hkl
      have hki : (k : Int) < (n : Int) := by omega
      generalize vs[k] = x at *
      by_cases hb1 : 1048576 < tot vs k + x.size
      · have hb1i : (1048576 : Int) < (tot vs k : Int) + (x.size : Int) := by omega
        go_wp2_with fail
        go_ret
        exact ⟨rfl, Below.refl _ _⟩
      · have hb1i : ¬ (1048576 : Int) < (tot vs k : Int) + (x.size : Int) := by omega
        have hb1d : decide ((1048576 : Int) < (tot vs k : Int) + (x.size : Int)) = false := decide_eq_false hb1i
        by_cases hb2 : 65536 < k
        · have hb2i : (65536 : Int) < (k : Int) := by omega
          go_wp2_with fail
          go_ret
          exact ⟨rfl, Below.refl _ _⟩
        · have hb2i : ¬ (65536 : Int) < (k : Int) := by omega
          go_wp2_with fail
          go_round
          case rel => exact ⟨k + 1, by omega, by omega, by go_num, by rw [Hts.out]; go_num, by rw [Hts.out]; omega⟩
          case measure => simp [intOf]; omega
    · obtain rfl : k = n := by omega
      clear hk
      have htl : ∀ i (h : i < vs.length), vs[i].size ≤ 1048576 := fun i h => by
        have : ∀ m, m ≤ vs.length → i < m → vs[i].size ≤ tot vs m := fun m => by
          induction m with
          | zero => intro _ h; omega
          | succ m ih =>
            intro h1 h2
            rw [tot_succ vs m (by omega)]
            by_cases e : i = m
            · subst e; omega
            · have := ih (by omega) (by omega)
              omega
        have h2 := this k (by rw [← Hn.out]; exact Nat.le_refl _) (by rw [Hn.out]; exact h)
        omega
      have hel : ∀ j, j ≤ k → (encTo vs j).length ≤ 1300000 := fun j hj => by
        have h1 := encTo_len vs j (by rw [← Hn.out]; exact hj) (fun i h => by have := htl i h; omega)
        have h2 : ∀ m, j ≤ m → m ≤ vs.length → tot vs j ≤ tot vs m := fun m => by
          induction m with
          | zero => intro h _; obtain rfl : j = 0 := by omega
                    exact Nat.le_refl _
          | succ m ih =>
            intro h1 h2
            by_cases e : j = m + 1
            · subst e; exact Nat.le_refl _
            · have := ih (by omega) (by omega)
              rw [tot_succ vs m (by omega)]
              omega
        have h3 := h2 k hj (by rw [← Hn.out]; exact Nat.le_refl _)
        omega
      have Htl : Hid (∀ i (h : i < vs.length), vs[i].size ≤ 1048576) := htl
      have Hel : Hid (∀ j, j ≤ k → (encTo vs j).length ≤ 1300000) := hel
      clear htl hel
      go_wp2_with fail
      go_loopw [7, 8, 9] (fun v o i wr => ∃ j : Nat, j ≤ k ∧ i = .int .i64 j ∧ o = .bool (okTo vs j) ∧ Enc w.heap.size w wr v (encTo vs j)) (fun _ _ i _ => k - (intOf i).toNat)
      case atStart =>
        refine ⟨0, by omega, rfl, ?_, ⟨World.ownsRow_nil _ _ _ _, Below.refl _ _, Nat.le_refl _⟩⟩
        have : decide (0 < k) = true := decide_eq_true (by omega)
        rw [this]
        rfl
      case round =>
        obtain ⟨j, hj, rfl, rfl, henc⟩ := hrel
        by_cases hlt2 : j < k
        · have hjl : j < vs.length := by rw [← Hn.out]; exact hlt2
          have hcell : wr.cell? ⟨b, off + j, none⟩ = some (.string vs[j]) := (henc.bel.cell (hc.out j hjl).2).trans (hc.out j hjl).1
          have hxs := Htl.out j hjl
          have Hes : Hid (encTo vs (j + 1) = encTo vs j ++ (vint 10 vs[j].size ++ vs[j].data.toList)) := encTo_succ vs j hjl
          have Hos : Hid (okTo vs (j + 1) = (okTo vs j && decide (vs[j].size ≤ 65536))) := okTo_succ vs j hjl
          have hl0 := Hel.out j (by omega)
          have hji : (j : Int) < (k : Int) := by omega
          generalize vs[j] = x at *
          have hsx : (x.size : Int) ≤ 1048576 := by omega
          by_cases hbig : 65536 < x.size
          · have hbi : (65536 : Int) < (x.size : Int) := by omega
            go_wp2_with fail
            go_loopw [7, 10] (fun v x' wr2 => ∃ (pre : List UInt8) (X f : Nat), x' = .int .u64 X ∧ X ≤ 1048576 ∧ X < 128 ^ (f + 1) ∧ Hid (pre ++ vint f X = vint 10 x.size) ∧ Enc w.heap.size w wr2 v (encTo vs j ++ pre)) (fun _ x' _ => (intOf x').toNat)
            case atStart => exact ⟨[], x.size, 10, rfl, by omega, pow_fits x.size (by omega), Eq.refl (vint 10 x.size), by simpa using henc⟩
            case round =>
              obtain ⟨pre, X, f, rfl, hX, hXf, Hv, henc2⟩ := hrel
              have hpl : pre.length ≤ 3 := by
                have h1 := congrArg List.length Hv.out
                have h2 := vint_le x.size (by omega)
                simp at h1
                omega
              have hown := henc2.own
              have hlen2 : (encTo vs j ++ pre).length ≤ 1300003 := by simp only [List.length_append]; omega
              generalize hL : encTo vs j ++ pre = L at *
              by_cases hX1 : 128 ≤ X
              · have hX1i : (128 : Int) ≤ (X : Int) := by omega
                obtain ⟨c, hcc⟩ : ∃ c : UInt8, UInt8.ofNat (X % 128 + 128) = c := ⟨_, rfl⟩
                have hbo := byte_or X
                rw [hcc, IntKind.wrap_u8] at hbo
                have Hcc : Hid (UInt8.ofNat (X % 128 + 128) = c) := hcc
                have HL : Hid (encTo vs j ++ pre = L) := hL
                clear hcc hL
                go_wp2_with (at_builtin; refine wpList_append_own _ rfl (.tmp 53) (.tmp 57) 44 rfl w.heap.size 5 i0 (.int .u8 0) 1 1 Ybad.underlying44 hi hz0 hz1 hz2 rfl (by decide) _ _ _ rfl (hown.alloc _) ⟨wr.heap.size, 0, none⟩ 1 1 [.int .u8 (c.toNat : Int)] rfl rfl (cell_one_new _ _ _) (by intro u hu; simp at hu; subst hu; rfl) (by unfold maxLen; omega) (by omega) (by have := henc2.size; simp; omega) ?_)
                intro v' w5 hown' hgrow _
                have henc3 : Enc w.heap.size w w5 v' (L ++ [c]) := (henc2.alloc _).grown (l' := L ++ [c]) (n := L.length + 1) (by simpa [bc] using hown') (by simp) hgrow
                clear hown' hgrow hbo
                go_wp2_with fail
                go_roundw
                case rel =>
                  obtain ⟨f', rfl⟩ : ∃ f', f = f' + 1 := by
                    cases f with
                    | zero => simp at hXf; omega
                    | succ f' => exact ⟨f', rfl⟩
                  refine ⟨pre ++ [c], X / 128, f', by go_num, by omega, ?_, ?_, ?_⟩
                  · rw [Nat.pow_succ] at hXf
                    exact Nat.div_lt_of_lt_mul (by rw [Nat.mul_comm]; exact hXf)
                  · have h := Hv.out
                    rw [vint, if_neg (by omega), Hcc.out] at h
                    show pre ++ [c] ++ vint f' (X / 128) = _
                    rw [← h]
                    simp
                  · rw [← List.append_assoc, HL.out]
                    exact henc3
                case measure => simp [intOf]; omega
              · have hX1i : ¬ (128 : Int) ≤ (X : Int) := by omega
                have hX1d : decide ((128 : Int) ≤ (X : Int)) = false := decide_eq_false hX1i
                have Hvx : Hid (encTo vs j ++ vint 10 x.size = L ++ [UInt8.ofNat X]) := by
                  show encTo vs j ++ vint 10 x.size = L ++ [UInt8.ofNat X]
                  rw [← Hv.out, ← hL]
                  have : vint f X = [UInt8.ofNat X] := by
                    cases f with
                    | zero => rfl
                    | succ f => rw [vint, if_pos (by omega)]
                  rw [this]
                  simp
                have hcx : ((UInt8.ofNat X).toNat : Int) = (X : Int) := by rw [ofNat_toNat X (by omega)]
                have Hcx : Hid (((UInt8.ofNat X).toNat : Int) = (X : Int)) := hcx
                clear hL Hv hcx
                go_wp2_with (at_builtin; refine wpList_append_own _ rfl (.tmp 61) (.tmp 64) 44 rfl w.heap.size 5 i0 (.int .u8 0) 1 1 Ybad.underlying44 hi hz0 hz1 hz2 rfl (by decide) _ _ _ rfl (hown.alloc _) ⟨wr.heap.size, 0, none⟩ 1 1 [.int .u8 (X : Int)] rfl rfl (cell_one_new _ _ _) (by intro u hu; simp at hu; subst hu; rfl) (by unfold maxLen; omega) (by omega) (by have := henc2.size; simp; omega) ?_)
                intro v' w5 hown' hgrow _
                have henc3 : Enc w.heap.size w w5 v' (L ++ [UInt8.ofNat X]) := (henc2.alloc _).grown (l' := L ++ [UInt8.ofNat X]) (n := L.length + 1) (by rw [bc_app, bc_one X Hcx.out]; exact hown') (by simp) hgrow
                clear hown' hgrow
                have hcell5 : w5.cell? ⟨b, off + j, none⟩ = some (.string x) := (henc3.bel.cell (hc.out j hjl).2).trans ((henc.bel.cell (hc.out j hjl).2).symm.trans hcell)
                have hown5 := henc3.own
                go_wp2_with (at_builtin; refine Go.Lib.wpList_append_own_string _ rfl (.tmp 66) (.tmp 70) 44 9 rfl w.heap.size 5 i0 Ybad.underlying44 Ybad.underlying9 hi hz0 hz1 hz2 _ _ _ rfl hown5 x rfl (by unfold maxLen; simp only [List.length_append, List.length_singleton]; omega) (by simp only [List.length_append, List.length_singleton]; omega) henc3.size ?_)
                intro v6 w6 hown6 hgrow6 _
                have henc6 : Enc w.heap.size w w6 v6 (encTo vs (j + 1)) := by
                  have e : encTo vs (j + 1) = (L ++ [UInt8.ofNat X]) ++ x.data.toList := by
                    rw [Hes.out, ← List.append_assoc, Hvx.out]
                  rw [e]
                  refine henc3.grown (l' := (L ++ [UInt8.ofNat X]) ++ x.data.toList) (n := L.length + 1 + x.size) ?_ ?_ hgrow6
                  · rw [bc_app]; exact hown6
                  · have e2 : x.data.toList.length = x.size := Array.length_toList
                    simp only [List.length_append, List.length_singleton, e2]
                clear hown6 hgrow6 hcell5 hown5
                go_wp2_with fail
                go_roundw
                case rel => exact ⟨j + 1, by omega, by go_num, by rw [Hos.out]; simp; omega, henc6⟩
                case measure => simp [intOf]; omega
          · have hbi : ¬ (65536 : Int) < (x.size : Int) := by omega
            go_wp2_with fail
            go_loopw [7, 10] (fun v x' wr2 => ∃ (pre : List UInt8) (X f : Nat), x' = .int .u64 X ∧ X ≤ 1048576 ∧ X < 128 ^ (f + 1) ∧ Hid (pre ++ vint f X = vint 10 x.size) ∧ Enc w.heap.size w wr2 v (encTo vs j ++ pre)) (fun _ x' _ => (intOf x').toNat)
            case atStart => exact ⟨[], x.size, 10, rfl, by omega, pow_fits x.size (by omega), Eq.refl (vint 10 x.size), by simpa using henc⟩
            case round =>
              obtain ⟨pre, X, f, rfl, hX, hXf, Hv, henc2⟩ := hrel
              have hpl : pre.length ≤ 3 := by
                have h1 := congrArg List.length Hv.out
                have h2 := vint_le x.size (by omega)
                simp at h1
                omega
              have hown := henc2.own
              have hlen2 : (encTo vs j ++ pre).length ≤ 1300003 := by simp only [List.length_append]; omega
              generalize hL : encTo vs j ++ pre = L at *
              by_cases hX1 : 128 ≤ X
              · have hX1i : (128 : Int) ≤ (X : Int) := by omega
                obtain ⟨c, hcc⟩ : ∃ c : UInt8, UInt8.ofNat (X % 128 + 128) = c := ⟨_, rfl⟩
                have hbo := byte_or X
                rw [hcc, IntKind.wrap_u8] at hbo
                have Hcc : Hid (UInt8.ofNat (X % 128 + 128) = c) := hcc
                have HL : Hid (encTo vs j ++ pre = L) := hL
                clear hcc hL
                go_wp2_with (at_builtin; refine wpList_append_own _ rfl (.tmp 53) (.tmp 57) 44 rfl w.heap.size 5 i0 (.int .u8 0) 1 1 Ybad.underlying44 hi hz0 hz1 hz2 rfl (by decide) _ _ _ rfl (hown.alloc _) ⟨wr.heap.size, 0, none⟩ 1 1 [.int .u8 (c.toNat : Int)] rfl rfl (cell_one_new _ _ _) (by intro u hu; simp at hu; subst hu; rfl) (by unfold maxLen; omega) (by omega) (by have := henc2.size; simp; omega) ?_)
                intro v' w5 hown' hgrow _
                have henc3 : Enc w.heap.size w w5 v' (L ++ [c]) := (henc2.alloc _).grown (l' := L ++ [c]) (n := L.length + 1) (by simpa [bc] using hown') (by simp) hgrow
                clear hown' hgrow hbo
                go_wp2_with fail
                go_roundw
                case rel =>
                  obtain ⟨f', rfl⟩ : ∃ f', f = f' + 1 := by
                    cases f with
                    | zero => simp at hXf; omega
                    | succ f' => exact ⟨f', rfl⟩
                  refine ⟨pre ++ [c], X / 128, f', by go_num, by omega, ?_, ?_, ?_⟩
                  · rw [Nat.pow_succ] at hXf
                    exact Nat.div_lt_of_lt_mul (by rw [Nat.mul_comm]; exact hXf)
                  · have h := Hv.out
                    rw [vint, if_neg (by omega), Hcc.out] at h
                    show pre ++ [c] ++ vint f' (X / 128) = _
                    rw [← h]
                    simp
                  · rw [← List.append_assoc, HL.out]
                    exact henc3
                case measure => simp [intOf]; omega
              · have hX1i : ¬ (128 : Int) ≤ (X : Int) := by omega
                have hX1d : decide ((128 : Int) ≤ (X : Int)) = false := decide_eq_false hX1i
                have Hvx : Hid (encTo vs j ++ vint 10 x.size = L ++ [UInt8.ofNat X]) := by
                  show encTo vs j ++ vint 10 x.size = L ++ [UInt8.ofNat X]
                  rw [← Hv.out, ← hL]
                  have : vint f X = [UInt8.ofNat X] := by
                    cases f with
                    | zero => rfl
                    | succ f => rw [vint, if_pos (by omega)]
                  rw [this]
                  simp
                have hcx : ((UInt8.ofNat X).toNat : Int) = (X : Int) := by rw [ofNat_toNat X (by omega)]
                have Hcx : Hid (((UInt8.ofNat X).toNat : Int) = (X : Int)) := hcx
                clear hL Hv hcx
                go_wp2_with (at_builtin; refine wpList_append_own _ rfl (.tmp 61) (.tmp 64) 44 rfl w.heap.size 5 i0 (.int .u8 0) 1 1 Ybad.underlying44 hi hz0 hz1 hz2 rfl (by decide) _ _ _ rfl (hown.alloc _) ⟨wr.heap.size, 0, none⟩ 1 1 [.int .u8 (X : Int)] rfl rfl (cell_one_new _ _ _) (by intro u hu; simp at hu; subst hu; rfl) (by unfold maxLen; omega) (by omega) (by have := henc2.size; simp; omega) ?_)
                intro v' w5 hown' hgrow _
                have henc3 : Enc w.heap.size w w5 v' (L ++ [UInt8.ofNat X]) := (henc2.alloc _).grown (l' := L ++ [UInt8.ofNat X]) (n := L.length + 1) (by rw [bc_app, bc_one X Hcx.out]; exact hown') (by simp) hgrow
                clear hown' hgrow
                have hcell5 : w5.cell? ⟨b, off + j, none⟩ = some (.string x) := (henc3.bel.cell (hc.out j hjl).2).trans ((henc.bel.cell (hc.out j hjl).2).symm.trans hcell)
                have hown5 := henc3.own
                go_wp2_with (at_builtin; refine Go.Lib.wpList_append_own_string _ rfl (.tmp 66) (.tmp 70) 44 9 rfl w.heap.size 5 i0 Ybad.underlying44 Ybad.underlying9 hi hz0 hz1 hz2 _ _ _ rfl hown5 x rfl (by unfold maxLen; simp only [List.length_append, List.length_singleton]; omega) (by simp only [List.length_append, List.length_singleton]; omega) henc3.size ?_)
                intro v6 w6 hown6 hgrow6 _
                have henc6 : Enc w.heap.size w w6 v6 (encTo vs (j + 1)) := by
                  have e : encTo vs (j + 1) = (L ++ [UInt8.ofNat X]) ++ x.data.toList := by
                    rw [Hes.out, ← List.append_assoc, Hvx.out]
                  rw [e]
                  refine henc3.grown (l' := (L ++ [UInt8.ofNat X]) ++ x.data.toList) (n := L.length + 1 + x.size) ?_ ?_ hgrow6
                  · rw [bc_app]; exact hown6
                  · have e2 : x.data.toList.length = x.size := Array.length_toList
                    simp only [List.length_append, List.length_singleton, e2]
                clear hown6 hgrow6 hcell5 hown5
                go_wp2_with fail
                go_roundw
                case rel => exact ⟨j + 1, by omega, by go_num, by rw [Hos.out]; simp; omega, henc6⟩
                case measure => simp [intOf]; omega
        · obtain rfl : j = k := by omega
          have hfull : vs.take j = vs := by rw [Hn.out]; exact List.take_length
          have hE2 : encTo vs j = encAll vs := by unfold encTo; rw [hfull]
          have hO2 : okTo vs j = vs.all (fun v => decide (v.size ≤ 65536)) := by unfold okTo; rw [hfull]
          have hlen := Hel.out j (Nat.le_refl _)
          rw [hE2] at henc hlen
          have hne : encAll vs ≠ [] := by
            intro h0
            cases vs with
            | nil => have := Hn.out; simp at this; omega
            | cons v r =>
              have := congrArg List.length h0
              have h2 := vint_pos v.size
              simp only [encAll, List.flatMap_cons, List.length_append, List.length_nil] at this
              omega
          have hdec := dec_enc vs [] [] ((encAll vs).length + 1) (fun v hv => by
            obtain ⟨i, hi, rfl⟩ := List.mem_iff_getElem.1 hv
            have := Htl.out i hi
            omega) (by simp)
          simp only [List.nil_append, List.length_nil] at hdec
          rw [← hO2] at hdec
          have hsize : (ByteArray.mk (encAll vs).toArray).size = (encAll vs).length := size_mk _
          have hvb := fun W (h1 : 3 ≤ W.heap.size) (h2 : Errs W) => values_batch sub 1 1 ⟨(encAll vs).toArray⟩ 0 W (by rw [hsize]; omega) h1 h2
          rw [hsize] at hvb
          rw [hdec] at hvb
          have Hvb : Hid (∀ W (h1 : 3 ≤ W.heap.size) (h2 : Errs W), Calls Ybad.prog 5 #[.agg (msg 1 sub 1 1 1 ⟨(encAll vs).toArray⟩ 0)] W (DecPost W.heap.size (if okTo vs j = true then some vs else none) W)) := hvb
          have hvn : vs ≠ [] := by intro h0; have := Hn.out; rw [h0] at this; simp at this; omega
          have hbel := henc.bel
          have hErr := hE.below hbel hB
          obtain ⟨g, cap2, cur, hu7, hbg, hgg, hnc, hcm, hcs, htake⟩ : ∃ g cap2 cur, u7 = Value.slice (some ⟨g, 0, none⟩) (encAll vs).length cap2 ∧ w.heap.size ≤ g ∧ wr.heap[g]? = some (.cells cur 5 (0, 0)) ∧ (encAll vs).length ≤ cap2 ∧ cap2 ≤ maxLen ∧ cur.size = cap2 * 1 ∧ cur.toList.take ((encAll vs).length * 1) = bc (encAll vs) := by
            rcases henc.own.2 with ⟨_, h0⟩ | h
            · exact absurd (List.length_eq_zero_iff.1 h0) hne
            · exact h
          subst hu7
          have hcv : (convert 44 9 (.slice (some ⟨g, 0, none⟩) (encAll vs).length cap2)).run Ybad.prog wr = .ok (.string ⟨(encAll vs).toArray⟩) wr :=
            run_convert_bytes_back wr 44 9 5 ⟨g, 0, none⟩ cap2 (encAll vs) Ybad.underlying44 Ybad.underlying5 Ybad.underlying9 (fun i hi => henc.own.cells rfl i _ (by simp [bc, hi]))
          have hwsz := henc.size
          clear hdec hvb hE2 hO2 hsize hfull hgg hcs htake henc
          have hb1 : ∀ o cs, Below wr.heap.size wr ((wr.alloc o).setRow wr.heap.size cs) := fun o cs => below_setRow ((Below.refl _ _).alloc (Nat.le_refl _) o) (Nat.le_refl _) cs
          go_wp2_with (first | (refine wpList_build_to rfl 37 #[(0, .const (.int .u8 1)), (1, .tmp 72), (2, .const (.int .u64 1)), (3, .const (.int .i64 1)), (4, .tmp 75)] rfl (msg 1 sub 1 1 1 ⟨(encAll vs).toArray⟩ 0) (by kernel_rfl) ?_) | (refine wpList_store_row rfl 37 (.tmp 11) (.tmp 76) rfl wr.heap.size (msg 1 sub 1 1 1 ⟨(encAll vs).toArray⟩ 0) rfl rfl 37 _ (heap_alloc_new wr _) (by kernel_rfl) (by kernel_rfl) (by kernel_rfl) ?_) | (refine wpList_load_row rfl 37 (.tmp 11) rfl wr.heap.size rfl 37 (msg 1 sub 1 1 1 ⟨(encAll vs).toArray⟩ 0) (0, 0) _ (setRow_heap _ _ _ _ 37 (0, 0) (heap_alloc_new wr _)) Ybad.underlying37 rfl (by kernel_rfl) ?_))
          refine (Hvb.out _ (by simp; omega) (hErr.below (hb1 _ _) (by omega))).mono ?_
          rintro e w1 ⟨hbl, hm⟩
          have hbl1 : Below w.heap.size w w1 := hbel.trans (((hb1 _ _).trans (hbl.mono (by simp))).mono hbel.size)
          cases hok : okTo vs j with
          | false =>
            rw [hok] at hm
            simp only [Bool.false_eq_true, if_false] at hm
            subst hm
            clear hbl hb1 hcv
            go_wp2_with fail
            refine (same_none _ _).mono ?_
            rintro e w3 ⟨rfl, hw⟩
            obtain rfl := hw.symm
            go_wp2_with fail
            go_ret
            exact ⟨rfl, hbl1⟩
          | true =>
            rw [hok] at hm
            simp only [if_true] at hm
            obtain ⟨x, rfl, hown, hnil⟩ := hm
            have he : (!vs.isEmpty) = true := by simp [hvn]
            rw [he]
            obtain ⟨g2, cap3, rfl, hg2, hgl2, hlen2, hcx⟩ := own_cells hown hvn
            have HX : Hid (∀ i (hi : i < vs.length), w1.cell? ⟨g2, 0 + i, none⟩ = some (.string vs[i])) := hcx
            have HY : Hid (∀ i (hi : i < vs.length), w1.cell? ⟨b, off + i, none⟩ = some (.string vs[i])) := fun i hi => (hbl1.cell (hc.out i hi).2).trans (hc.out i hi).1
            have hnv : vs.length = j := Hn.out.symm
            have HS : Hid (∀ W, (∀ i (hi : i < vs.length), W.cell? ⟨g2, 0 + i, none⟩ = some (.string vs[i])) → (∀ i (hi : i < vs.length), W.cell? ⟨b, off + i, none⟩ = some (.string vs[i])) →
                Calls Ybad.prog 7 #[.slice (some ⟨g2, 0, none⟩) j cap3, .bool true, .slice (some ⟨b, off, none⟩) j cap, .bool true] W fun e w' => e = .returned (.bool true) ∧ ∃ n, w' = W.drewN n) := fun W h1 h2 => by
              have := same_list vs g2 0 cap3 b off cap W hlen2 h1 h2
              rw [hnv] at this
              exact this
            rw [hnv]
            clear hbl hb1 hcv hown hnil he hcx hnv hlen2
            go_wp2_with fail
            refine (HS.out w1 HX.out HY.out).mono ?_
            rintro e w3 ⟨rfl, m, rfl⟩
            go_wp2_with fail
            go_ret
            exact ⟨rfl, Below.dN hbl1 _⟩
end Go.Proofs.YbulkgdpcDoor.lawB
