import Derived.Test.YbulkgdxeRows
import Derived.WalkKit
import Derived.ProofKit
import Derived.Deep.OwnRows
import Derived.Deep.QuietTactic
import Derived.BigQuiet
import Derived.WalkSpells
namespace Go.Proofs.Ybulkgdxe.lawK
open Go.ChangeShapes Go.WideShapes Go.ChangeAt Go.RowKit
set_option linter.unusedVariables false

/-- the key that came in: n bytes z, readable by index, whatever the slice's address (nil and empty too) -/
structure Key (w : World) (a : Option Addr) (n cap : Nat) (b off : Nat) (z : Nat → Int) : Prop where
  ix : ∀ i, i < n → ∀ w', (Instr.indexAt 22 (.slice a n cap) (.int .i64 (i : Int))).run Yba.prog w' = .ok (.pointer (some ⟨b, off + i, none⟩)) w'
  cell : ∀ i, i < n → w.cell? ⟨b, off + i, none⟩ = some (.int .u8 (z i))
  blk : 0 < n → b < w.heap.size
  bd : ∀ i, 0 ≤ z i ∧ z i ≤ 255

theorem Key.below {w w' : World} {a : Option Addr} {n cap b off : Nat} {z : Nat → Int} {B : Nat} (h : Key w a n cap b off z) (hb : Below B w w') (hB : w.heap.size ≤ B) : Key w' a n cap b off z :=
  ⟨h.ix, fun i hi => (hb.cell (by have := h.blk (by omega); show b < B; omega)).trans (h.cell i hi), fun h0 => Nat.lt_of_lt_of_le (h.blk h0) hb.size, h.bd⟩

def nibTo (z : Nat → Int) : Nat → List Int
  | 0 => []
  | k + 1 => nibTo z k ++ [z k / 16, z k % 16]
theorem nibTo_len (z : Nat → Int) : ∀ k, (nibTo z k).length = 2 * k
  | 0 => rfl
  | k + 1 => by simp [nibTo, nibTo_len z k]; omega
theorem nibTo_get (z : Nat → Int) : ∀ k i, i < k → (nibTo z k)[2 * i]? = some (z i / 16) ∧ (nibTo z k)[2 * i + 1]? = some (z i % 16)
  | k + 1, i, h => by
    have hl := nibTo_len z k
    by_cases e : i = k
    · subst e
      rw [nibTo]
      constructor
      · rw [List.getElem?_append_right (by omega), hl]; simp
      · rw [List.getElem?_append_right (by omega), hl, show 2 * i + 1 - 2 * i = 1 by omega]; simp
    · have ih := nibTo_get z k i (by omega)
      rw [nibTo]
      constructor
      · rw [List.getElem?_append_left (by omega)]; exact ih.1
      · rw [List.getElem?_append_left (by omega)]; exact ih.2

def bi (l : List Int) : List Value := l.map (Value.int .u8)
theorem info5 : (Yba.prog.info? 5).map (fun i => (i.zero, i.size, i.bytes)) = some (some (.int .u8 0), 1, 1) := by kernel_rfl
theorem and15 : ∀ n : Fin 256, bits BinOp.and IntKind.u8 ((n : Nat) : Int) 15 = ((n : Nat) : Int) % 16 := by decide +kernel
theorem and15' (x : Int) (h0 : 0 ≤ x) (h1 : x ≤ 255) : bits BinOp.and IntKind.u8 x 15 = x % 16 := by
  have := and15 ⟨x.toNat, by omega⟩
  simp only [Int.toNat_of_nonneg h0] at this
  exact this

/-- what a slice of bytes of the call's own holds -/
structure Own (B : Nat) (w wr : World) (v : Value) (l : List Int) : Prop where
  own : wr.ownsRow B 5 1 v l.length (bi l)
  bel : Below B w wr
  size : B ≤ wr.heap.size
theorem Own.append {B : Nat} {w wr w1 : World} {v v' : Value} {l x : List Int} {n : Nat} {o : Obj} (h : Own B w wr v l) (hown : w1.ownsRow B 5 1 v' n (bi l ++ bi x)) (hn : n = l.length + x.length) (hg : (wr.alloc o).grownBy w1 v.ownBlock) : Own B w w1 v' (l ++ x) := by
  subst hn
  have hk : ∀ k, v.ownBlock = some k → B ≤ k := fun k hv => (h.own.lt k hv).1
  refine ⟨by simpa [bi] using hown, (h.bel.alloc h.size o).grown hg (by have := h.size; simp; omega) hk, ?_⟩
  have := hg.size
  have := h.size
  simp at *
  omega

theorem cells_two {w : World} {x y : Value} : ∀ j u, [x, y][j]? = some u → (w.alloc (.cells #[x, y] 5)).cell? ((⟨w.heap.size, 0, none⟩ : Addr).add j) = some u := by
  intro j u hj
  match j, hj with
  | 0, hj =>
    simp at hj; subst hj
    simp [Addr.add]
  | 1, hj =>
    simp at hj; subst hj
    simp [Addr.add]

set_option maxHeartbeats 1000000 in
theorem appendNibbles_any (a : Option Addr) (n cap b off : Nat) (z : Nat → Int) (w : World) (hn : n ≤ 1048576) (hk : Key w a n cap b off z) (B : Nat) (v : Value) (hown : w.ownsRow B 5 1 v 0 []) (hB : B ≤ w.heap.size) (hblk : 0 < n → b < B) :
    Calls Yba.prog 6 #[v, .slice a n cap] w fun e w' => ∃ v', e = .returned v' ∧ Own B w w' v' (nibTo z n) := by
  obtain ⟨i0, hi, hz0, hz1, hz2⟩ := info_parts info5
  go_enter Yba.func6, Yba.ntmps6
  go_wp2_with fail
  go_loopw [0, 9] (fun v i wr => ∃ k : Nat, k ≤ n ∧ i = .int .i64 k ∧ Own B w wr v (nibTo z k)) (fun _ i _ => n - (intOf i).toNat)
  case atStart => exact ⟨0, Nat.zero_le _, rfl, ⟨hown, Below.refl _ _, hB⟩⟩
  case round =>
    obtain ⟨k, hkn, rfl, ho⟩ := hrel
    by_cases hlt : k < n
    · have hix := hk.ix k hlt
      have hcell : wr.cell? ⟨b, off + k, none⟩ = some (.int .u8 (z k)) := (ho.bel.cell (hblk (by omega))).trans (hk.cell k hlt)
      have hbd := hk.bd k
      have h15 := and15' (z k) hbd.1 hbd.2
      have hlti : (k : Int) < (n : Int) := by omega
      have Hs : Hid (nibTo z (k + 1) = nibTo z k ++ [z k / 16, z k % 16]) := rfl
      have hl := nibTo_len z k
      generalize z k = c at *
      have hown2 := ho.own
      go_wp2_with (at_builtin; refine wpList_append_own _ rfl (.tmp 13) (.tmp 18) 22 rfl B 5 i0 (.int .u8 0) 1 1 Yba.underlying22 hi hz0 hz1 hz2 rfl (by decide) _ _ _ rfl (hown2.alloc _) ⟨wr.heap.size, 0, none⟩ 2 2 [.int .u8 (c / 16), .int .u8 (c % 16)] rfl rfl cells_two (by intro u hu; simp at hu; rcases hu with rfl | rfl <;> rfl) (by unfold maxLen; omega) (by omega) (by have := ho.size; simp; omega) ?_)
      intro v' w5 hown' hgrow _
      have ho2 : Own B w w5 v' (nibTo z (k + 1)) := by
        rw [Hs.out]
        exact ho.append (x := [c / 16, c % 16]) hown' (by simp; omega) hgrow
      clear hown' hgrow
      go_wp2_with fail
      go_roundw
      case rel => exact ⟨k + 1, by omega, by go_num, ho2⟩
      case measure => simp [intOf]; omega
    · obtain rfl : k = n := by omega
      go_wp2_with fail
      go_ret
      exact ⟨_, rfl, ho⟩

theorem own_weaken {w0 w wr : World} {B B' : Nat} {v : Value} {l : List Int} (h : Own B w wr v l) (hb : Below B' w0 w) (hB : B' ≤ B) : Own B' w0 wr v l := by
  refine ⟨⟨h.own.1, ?_⟩, hb.trans (h.bel.mono hB), Nat.le_trans hB h.size⟩
  rcases h.own.2 with h | ⟨g, cap, cur, h1, h2, h3⟩
  · exact .inl h
  · exact .inr ⟨g, cap, cur, h1, by omega, h3⟩

set_option maxHeartbeats 1000000 in
theorem keyToNibbles_any (a : Option Addr) (n cap b off : Nat) (z : Nat → Int) (w : World) (hn : n ≤ 1048576) (hk : Key w a n cap b off z) :
    Calls Yba.prog 4 #[.slice a n cap] w fun e w' => ∃ v', e = .returned v' ∧ Own w.heap.size w w' v' (nibTo z n ++ [16]) := by
  obtain ⟨i0, hi, hz0, hz1, hz2⟩ := info_parts info5
  go_enter Yba.func4, Yba.ntmps4
  go_wp2_with (at_make; refine wpList_make_own _ rfl (.const (.int .i64 0)) (.tmp 7) 22 rfl w.heap.size 5 i0 (.int .u8 0) 1 Yba.underlying22 hi hz0 hz1 .i64 .i64 _ (2 * n + 1) rfl rfl (by omega) (by rw [hz2]; omega) (by unfold maxLen; omega) (Nat.le_refl _) ?_)
  intro w1 hown1 hgrow1
  have hbel1 : Below w.heap.size w w1 := (Below.refl _ _).grown hgrow1 (Nat.le_refl _) (fun k h => by cases h)
  have hk1 := hk.below hbel1 (Nat.le_refl _)
  have hs1 := hgrow1.size
  go_wp2_with fail
  refine (appendNibbles_any a n cap b off z w1 hn hk1 w.heap.size _ hown1 hs1 hk.blk).mono ?_
  rintro e w2 ⟨v2, rfl, ho2⟩
  have ho3 := own_weaken ho2 hbel1 (Nat.le_refl _)
  have hown3 := ho3.own
  have hl := nibTo_len z n
  clear hown1 hgrow1
  go_wp2_with (at_builtin; refine wpList_append_own _ rfl (.tmp 12) (.tmp 13) 22 rfl w.heap.size 5 i0 (.int .u8 0) 1 1 Yba.underlying22 hi hz0 hz1 hz2 rfl (by decide) _ _ _ rfl (hown3.alloc _) ⟨w2.heap.size, 0, none⟩ 1 1 [.int .u8 16] rfl rfl (cell_one_new _ _ _) (by intro u hu; simp at hu; subst hu; rfl) (by unfold maxLen; omega) (by omega) (by have := ho3.size; simp; omega) ?_)
  intro v' w5 hown' hgrow _
  have ho5 := ho3.append (x := [16]) hown' (by simp; omega) hgrow
  clear hown' hgrow
  go_wp2_with fail
  go_ret
  exact ⟨_, rfl, ho5⟩

theorem same_true (a : Option Addr) (n cap b off g c2 : Nat) (z : Nat → Int) (w : World) (hn : n ≤ 1048576) (hk : Key w a n cap b off z) (hg : w.rowIs g 5 n (fun i => .int .u8 (z i))) :
    Calls Yba.prog 5 #[.slice a n cap, .slice (some ⟨g, 0, none⟩) n c2] w fun e w' => e = .returned (.bool true) ∧ ∃ m, w' = w.drewN m := by
  go_enter Yba.func5, Yba.ntmps5
  go_wp2_with fail
  go_loopw [5] (fun i wr => ∃ k : Nat, k ≤ n ∧ i = .int .i64 k ∧ ∃ m, wr = w.drewN m) (fun i _ => n - (intOf i).toNat)
  case atStart => exact ⟨0, Nat.zero_le _, rfl, 0, rfl⟩
  case round =>
    obtain ⟨k, hkn, rfl, m, rfl⟩ := hrel
    by_cases hlt : k < n
    · have hix := hk.ix k hlt
      have g1 := hk.cell k hlt
      have g2 : w.cell? ⟨g, k, none⟩ = some (.int .u8 (z k)) := hg.cell hlt
      have hki : (k : Int) < (n : Int) := by omega
      generalize z k = c at *
      go_wp2_with fail
      go_quiet (fail)
      go_wp2_with fail
      go_roundw
      case rel => exact ⟨k + 1, by omega, by go_num, _, rfl⟩
      case measure => simp [intOf]; omega
    · obtain rfl : k = n := by omega
      go_wp2_with fail
      go_ret
      exact ⟨rfl, m, rfl⟩
end Go.Proofs.Ybulkgdxe.lawK
