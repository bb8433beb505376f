import Derived.Test.YbulkgdpcRows
import Derived.WalkKit
import Derived.ProofKit
import Derived.Deep.OwnRows
import Derived.OpenShut
namespace Go.Proofs.Ybulkgdpc.lawA
open Go.ChangeShapes Go.WideShapes Go.ChangeAt Go.RowKit
set_option linter.unusedVariables false

/-! ### The plain arithmetic of the generator -/
def r1 (z : Int) : Int := IntKind.u64.wrap (bits BinOp.xor IntKind.u64 z (z / 1073741824) * 13787848793156543929)
def r2 (z : Int) : Int := IntKind.u64.wrap (bits BinOp.xor IntKind.u64 z (z / 134217728) * 10723151780598845931)
def mix (z : Int) : Int := bits BinOp.xor IntKind.u64 (r2 (r1 z)) (r2 (r1 z) / 2147483648)
def step (s : Int) : Int := IntKind.u64.wrap (s + 11400714819323198485)
/-- the generator's state after k steps -/
def stTo (s : Int) : Nat → Int
  | 0 => s
  | k + 1 => step (stTo s k)
def xorE (s : Int) : Int := bits BinOp.xor IntKind.u64 s 1701867363
def xorC (s : Int) : Int := bits BinOp.xor IntKind.u64 s 1668245870

theorem wrap_bd (x : Int) : 0 ≤ IntKind.u64.wrap x ∧ IntKind.u64.wrap x ≤ 18446744073709551615 := bounds_u64 (wf_wrap .u64 x)
theorem xor_bd (a b : Int) : 0 ≤ bits BinOp.xor IntKind.u64 a b ∧ bits BinOp.xor IntKind.u64 a b ≤ 18446744073709551615 := bounds_u64 (wf_bits .xor .u64 a b)

theorem stTo_bd (s : Int) (h0 : 0 ≤ s) (h1 : s ≤ 18446744073709551615) : ∀ k, 0 ≤ stTo s k ∧ stTo s k ≤ 18446744073709551615
  | 0 => ⟨h0, h1⟩
  | _ + 1 => wrap_bd _

theorem stTo_closed (s : Int) (h0 : 0 ≤ s) (h1 : s ≤ 18446744073709551615) (k : Nat) :
    stTo s k = IntKind.u64.wrap (s + IntKind.u64.wrap ((k : Int) * 11400714819323198485)) := by
  induction k with
  | zero => simp only [stTo, IntKind.wrap_u64]; omega
  | succ k ih => simp only [stTo, step, ih, IntKind.wrap_u64]; omega

/-! ### The leaves -/
theorem mix_any (z : Int) (h0 : 0 ≤ z) (h1 : z ≤ 18446744073709551615) (w : World) :
    Calls Yba.prog 12 #[.int .u64 z] w fun e w' => e = .returned (.int .u64 (mix z)) ∧ w' = w := by
  go_enter Yba.func12, Yba.ntmps12
  go_wp2
  go_ret
  exact ⟨rfl, rfl⟩

theorem out_any (s i : Int) (w : World) :
    Calls Yba.prog 6 #[.int .u64 s, .int .u64 i] w fun e w' => e = .returned (.int .u64 (mix (IntKind.u64.wrap (s + IntKind.u64.wrap (i * 11400714819323198485))))) ∧ w' = w := by
  go_enter Yba.func6, Yba.ntmps6
  go_wp2_with (go_at_call 12; refine (mix_any _ (wrap_bd _).1 (wrap_bd _).2 _).mono ?_; rintro e w' ⟨rfl, rfl⟩)
  go_ret
  exact ⟨rfl, rfl⟩

theorem next_any (b : Nat) (s : Int) (w : World) (hc : w.cell? ⟨b, 0, none⟩ = some (.int .u64 s)) (hf : w.frozen? ⟨b, 0, none⟩ = false) (h0 : 0 ≤ s) (h1 : s ≤ 18446744073709551615) :
    Calls Yba.prog 10 #[.pointer (some ⟨b, 0, none⟩)] w fun e w' => e = .returned (.int .u64 (mix (step s))) ∧ w' = w.setCell ⟨b, 0, none⟩ (.int .u64 (step s)) := by
  go_enter Yba.func10, Yba.ntmps10
  go_wp2
  go_ret
  exact ⟨rfl, rfl⟩

theorem newRand_any (s : Int) (w : World) :
    Calls Yba.prog 9 #[.int .u64 s] w fun e w' => e = .returned (.pointer (some ⟨w.heap.size, 0, none⟩)) ∧ w' = w.alloc (.cells #[.int .u64 s] 48) := by
  go_enter Yba.func9, Yba.ntmps9
  go_wp2
  go_ret
  exact ⟨rfl, rfl⟩

theorem info29 : (Yba.prog.info? 29).map (fun i => (i.zero, i.size, i.bytes)) = some (some (.pointer none), 1, 8) := by kernel_rfl



/-! ### A map of one key at most, an int's: its operations as equations -/
section
variable {P : Program} {t k e : TypeId} {w : World} {b : Nat}
open Go.ChangeMaps (setBlock)

theorem check_int_at (n : Nat) (hk : P.underlying k = some (.int .i64)) (emp : Bool) (a : Int) : (Instr.checkKey emp (n + 1) k (.int .i64 a)).run P w = .ok () w := by
  simp [Instr.checkKey, run_underlying hk]
theorem check_int (hk : P.underlying k = some (.int .i64)) (emp : Bool) (a : Int) : (Instr.checkKey emp 10000 k (.int .i64 a)).run P w = .ok () w := check_int_at 9999 hk emp a

theorem find_none (hk : P.underlying k = some (.int .i64)) (a : Int) : (Instr.findKey k (.int .i64 a) []).run P w = .ok none w := by
  simp [Instr.findKey, run_underlying hk, Instr.findNow]

theorem find_one (hk : P.underlying k = some (.int .i64)) (a : Int) (v : Value) (c : Nat) : (Instr.findKey k (.int .i64 a) [⟨.int .i64 a, v, c⟩]).run P w = .ok (some (0, v)) w := by
  simp [Instr.findKey, run_underlying hk, Instr.findNow, Instr.sameNow]

theorem look_none (ht : P.underlying t = some (.map k e)) (hk : P.underlying k = some (.int .i64)) {z : Value} (hz : (zeroValue e).run P w = .ok z w) {c : Nat} (hb : w.heap[b]? = some (.map #[] c)) (a : Int) :
    (Instr.lookup t (.map (some b)) (.int .i64 a) false).run P w = .ok z w := by
  simp [Instr.lookup, run_underlying ht, MapKept.run_getObj_map hb, check_int hk, find_none hk, hz, Result.andThen]

theorem look_one (ht : P.underlying t = some (.map k e)) (hk : P.underlying k = some (.int .i64)) {c d : Nat} {a : Int} {v : Value} (hb : w.heap[b]? = some (.map #[⟨.int .i64 a, v, d⟩] c)) :
    (Instr.lookup t (.map (some b)) (.int .i64 a) false).run P w = .ok v w := by
  simp [Instr.lookup, run_underlying ht, MapKept.run_getObj_map hb, check_int hk, find_one hk, Result.andThen]

theorem look_one_ok (ht : P.underlying t = some (.map k e)) (hk : P.underlying k = some (.int .i64)) {c d : Nat} {a : Int} {v : Value} (hb : w.heap[b]? = some (.map #[⟨.int .i64 a, v, d⟩] c)) :
    (Instr.lookup t (.map (some b)) (.int .i64 a) true).run P w = .ok (.tuple #[v, .bool true]) w := by
  simp [Instr.lookup, run_underlying ht, MapKept.run_getObj_map hb, check_int hk, find_one hk, Result.andThen]

theorem upd_none (ht : P.underlying t = some (.map k e)) (hk : P.underlying k = some (.int .i64)) {c : Nat} (hb : w.heap[b]? = some (.map #[] c)) (a : Int) (v : Value) :
    (Instr.mapUpdate t (.map (some b)) (.int .i64 a) v).run P w = .ok () (setBlock w b (.map #[⟨.int .i64 a, v, c⟩] (c + 1))) := by
  simp [Instr.mapUpdate, run_underlying ht, MapKept.run_getObj_map hb, check_int hk, find_none hk, MapKept.run_setObj_map _ hb, Result.andThen, setBlock]

theorem upd_one (ht : P.underlying t = some (.map k e)) (hk : P.underlying k = some (.int .i64)) {c d : Nat} {a : Int} {v0 : Value} (hb : w.heap[b]? = some (.map #[⟨.int .i64 a, v0, d⟩] c)) (v : Value) :
    (Instr.mapUpdate t (.map (some b)) (.int .i64 a) v).run P w = .ok () (setBlock w b (.map #[⟨.int .i64 a, v, d⟩] c)) := by
  simp [Instr.mapUpdate, run_underlying ht, MapKept.run_getObj_map hb, check_int hk, find_one hk, MapKept.run_setObj_map _ hb, Result.andThen, setBlock, Instr.keyThatStays, Instr.sameBits, Array.modify, Array.modifyM]
end

/-- k coins have been made: the row S of n pointers, of which the first k lead to coins; coin i lies at block S+2+2i, its empty map at S+1+2i -/
def CoinsTo (w : World) (S n k : Nat) (K : Nat → Int) (d : Int) : Prop :=
  w.rowIs S 29 n (fun i => if i < k then .pointer (some ⟨S + 2 + 2 * i, 0, none⟩) else .pointer none) ∧
  (∀ i, i < k → w.heap[S + 1 + 2 * i]? = some (.map #[] 0)) ∧
  (∀ i, i < k → w.rowIs (S + 2 + 2 * i) 32 3 (fun j => if j = 0 then .int .u64 (K i) else if j = 1 then .int .u64 d else .map (some (S + 1 + 2 * i))))


theorem coins_other {w w' : World} {S n k : Nat} {K : Nat → Int} {d : Int} (h : CoinsTo w S n k K d) (hs : ∀ b, S ≤ b → b < w.heap.size → w'.heap[b]? = w.heap[b]?) (hsz : S + 1 + 2 * k ≤ w.heap.size) : CoinsTo w' S n k K d := by
  obtain ⟨h1, h2, h3⟩ := h
  exact ⟨h1.of_block (hs _ (Nat.le_refl _) h1.lt), fun i hi => (hs _ (by omega) (by omega)).trans (h2 i hi), fun i hi => (h3 i hi).of_block (hs _ (by omega) (by omega))⟩

theorem coins_step {wr : World} {S n k : Nat} {K : Nat → Int} {d : Int} (h : CoinsTo wr S n k K d) (hsz : wr.heap.size = S + 1 + 2 * k) (hlt : k < n) {a : Int} {m c : Nat} (hm : m = S + 1 + 2 * k) (hc : c = S + 2 + 2 * k) (ha : a = K k) :
    CoinsTo (((wr.alloc (.map #[] 0)).alloc (.cells #[.int .u64 a, .int .u64 d, .map (some m)] 32)).setCell ⟨S, k, none⟩ (.pointer (some ⟨c, 0, none⟩))) S n (k + 1) K d := by
  subst hm hc ha
  obtain ⟨h1, h2, h3⟩ := h
  have z1 : (wr.alloc (.map #[] 0)).heap.size = S + 2 + 2 * k := by simp [hsz]; omega
  refine ⟨?_, ?_, ?_⟩
  · refine (((h1.alloc _).alloc _).set k _).congr fun i hi => ?_
    by_cases e : i = k
    · subst e; simp
    · by_cases e2 : i < k
      · simp [e, e2, show i < k + 1 by omega]
      · simp [e, e2, show ¬ i < k + 1 by omega]
  · intro i hi
    rw [Below.heap_setCell _ _ _ _ (by show S + 1 + 2 * i ≠ S; omega), Below.heap_alloc _ _ _ (by rw [z1]; omega)]
    by_cases e : i = k
    · subst e
      have := (MapKept.heap_alloc wr (.map #[] 0)).1
      rw [hsz] at this; exact this
    · rw [Below.heap_alloc _ _ _ (by rw [hsz]; omega)]; exact h2 i (by omega)
  · intro i hi
    by_cases e : i = k
    · subst e
      have := World.rowIs_alloc (wr.alloc (.map #[] 0)) #[.int .u64 (K i), .int .u64 d, .map (some (S + 1 + 2 * i))] 32 (fun j => if j = 0 then .int .u64 (K i) else if j = 1 then .int .u64 d else .map (some (S + 1 + 2 * i))) (by
        intro j hj
        match j, hj with
        | 0, _ => simp
        | 1, _ => simp
        | 2, _ => simp)
      rw [z1] at this
      exact this.setOther (by show S + 2 + 2 * i ≠ S; omega) _
    · exact (((h3 i (by omega)).alloc _).alloc _).setOther (by show S + 2 + 2 * i ≠ S; omega) _

theorem newCoins_any (s : Int) (n : Nat) (d : Int) (w : World) (hn : 1 ≤ n) (hn2 : n ≤ 512) :
    Calls Yba.prog 11 #[.int .u64 s, .int .i64 n, .int .i64 d] w fun e w' => e = .returned (.slice (some ⟨w.heap.size + 1, 0, none⟩) n n) ∧ CoinsTo w' (w.heap.size + 1) n n (fun i => mix (stTo (xorC s) (i + 1))) (IntKind.u64.wrap d) ∧ w'.heap.size = w.heap.size + 2 + 2 * n ∧ Below w.heap.size w w' := by
  have hmk := fun w => run_make_row' (P := Yba.prog) 28 29 (.pointer none) 8 Yba.underlying28 info29 rfl .i64 .i64 n (by omega) (by omega) w
  have hmm := @run_makeMap Yba.prog
  go_enter Yba.func11, Yba.ntmps11
  go_wp2_with (go_at_call 9; refine (newRand_any _ _).mono ?_; rintro e w' ⟨rfl, rfl⟩)
  clear hmk
  go_loopw [17] (fun i wr => ∃ k : Nat, k ≤ n ∧ i = .int .i64 k ∧ wr.rowIs w.heap.size 48 1 (fun _ => .int .u64 (stTo (xorC s) k)) ∧ CoinsTo wr (w.heap.size + 1) n k (fun i => mix (stTo (xorC s) (i + 1))) (IntKind.u64.wrap d) ∧ wr.heap.size = w.heap.size + 2 + 2 * k ∧ Below w.heap.size w wr)
    (fun i _ => n - (intOf i).toNat)
  case atStart =>
    refine ⟨0, Nat.zero_le _, rfl, ?_, ⟨?_, fun i hi => absurd hi (by omega), fun i hi => absurd hi (by omega)⟩, ?_, ?_⟩
    · have := World.rowIs_alloc w #[.int .u64 (xorC s)] 48 (fun _ => .int .u64 (stTo (xorC s) 0)) (fun i hi => by simp at hi; subst hi; rfl)
      exact this.alloc _
    · have := World.rowIs_made (w.alloc (.cells #[.int .u64 (xorC s)] 48)) (.pointer none) n 29
      rw [show (w.alloc (.cells #[.int .u64 (xorC s)] 48)).heap.size = w.heap.size + 1 by simp] at this
      exact this.congr fun i _ => by simp
    · simp
    · exact ((Below.refl _ _).alloc (Nat.le_refl _) _).alloc (by simp) _
  case round =>
    obtain ⟨k, hk, rfl, hrng, hco, hsz, hbel⟩ := hrel
    by_cases hlt : k < n
    · have hc := hrng.cell (i := 0) (by omega)
      have hf := hrng.frozen 0
      have hb := stTo_bd (xorC s) (xor_bd _ _).1 (xor_bd _ _).2 k
      have hsc := hco.1.cell hlt
      rw [if_neg (by omega)] at hsc
      have hsf := hco.1.frozen k
      have hsc2 : ∀ x o1 o2, (((wr.setCell ⟨w.heap.size, 0, none⟩ x).alloc o1).alloc o2).cell? ⟨w.heap.size + 1, k, none⟩ = some (.pointer none) := fun x o1 o2 => by
        have := ((((hco.1.setOther (a := ⟨w.heap.size, 0, none⟩) (by show w.heap.size + 1 ≠ w.heap.size; omega) x).alloc o1).alloc o2).cell hlt)
        simpa using this
      have hsf2 : ∀ x o1 o2, (((wr.setCell ⟨w.heap.size, 0, none⟩ x).alloc o1).alloc o2).frozen? ⟨w.heap.size + 1, k, none⟩ = false := fun x o1 o2 =>
        ((((hco.1.setOther (a := ⟨w.heap.size, 0, none⟩) (by show w.heap.size + 1 ≠ w.heap.size; omega) x).alloc o1).alloc o2).frozen k)
      go_wp2_with (go_at_call 10; refine (next_any _ _ _ hc hf hb.1 hb.2).mono ?_; rintro e w' ⟨rfl, rfl⟩)
      go_roundw
      case rel =>
        refine ⟨k + 1, by omega, by go_num, ?_, ?_, ?_, ?_⟩
        · exact ((((hrng.set 0 _).alloc _).alloc _).setOther (by show w.heap.size ≠ w.heap.size + 1; omega) _).congr fun i hi => by
            obtain rfl : i = 0 := by omega
            simp [stTo]
        · exact coins_step (coins_other hco (fun b hb1 _ => Below.heap_setCell _ _ _ _ (by show b ≠ w.heap.size; omega)) (by omega)) (by simp [World.setCell, hsz]) hlt (by omega) (by omega) rfl
        · simp [World.setCell, hsz]; omega
        · exact (((hbel.setCell (Nat.le_refl _) _).alloc (by simp [World.setCell, hsz]; omega) _).alloc (by simp [World.setCell, hsz]; omega) _).setCell (by show w.heap.size ≤ w.heap.size + 1; omega) _
      case measure => simp [intOf]; omega
    · obtain rfl : k = n := by omega
      go_wp2
      go_ret
      exact ⟨rfl, hco, hsz, hbel⟩
end Go.Proofs.Ybulkgdpc.lawA
