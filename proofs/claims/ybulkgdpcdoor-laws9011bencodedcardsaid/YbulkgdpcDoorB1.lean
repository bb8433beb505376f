import Derived.Test.YbulkgdpcDoorRows
import Derived.WalkKit
import Derived.ProofKit
import Derived.Deep.OwnRows
import Derived.Deep.QuietTactic
import Derived.BigQuiet
import Derived.WalkSpells
namespace Go.Proofs.YbulkgdpcDoor.lawB
open Go.ChangeShapes Go.WideShapes Go.ChangeAt Go.RowKit
set_option linter.unusedVariables false

/-- the three cells of a strings.Reader -/
def rc (s : ByteArray) (i : Nat) (p : Int) (j : Nat) : Value := if j = 0 then .string s else if j = 1 then .int .i64 i else .int .i64 p
/-- block R is a strings.Reader over s that stands at byte i -/
def Rd (w : World) (R : Nat) (s : ByteArray) (i : Nat) : Prop := ∃ p : Int, w.rowIs R 57 3 (rc s i p)

/-- w' is w but for block R (and draws) -/
structure Only (R : Nat) (w w' : World) : Prop where
  os : w'.os = w.os
  tape : w'.tape = w.tape
  output : w'.output = w.output
  size : w'.heap.size = w.heap.size
  block : ∀ k, k ≠ R → w'.heap[k]? = w.heap[k]?

theorem Only.refl (R : Nat) (w : World) : Only R w w := ⟨rfl, rfl, rfl, rfl, fun _ _ => rfl⟩
theorem Only.trans {R : Nat} {a b c : World} (h : Only R a b) (k : Only R b c) : Only R a c :=
  ⟨k.os.trans h.os, k.tape.trans h.tape, k.output.trans h.output, k.size.trans h.size, fun i hi => (k.block i hi).trans (h.block i hi)⟩
theorem Only.drewN {R : Nat} {a b : World} (h : Only R a b) (n : Nat) : Only R a (b.drewN n) := ⟨h.os, h.tape, h.output, h.size, h.block⟩
theorem Only.setCell {R : Nat} {a b : World} (h : Only R a b) (o : Nat) (v : Value) : Only R a (b.setCell ⟨R, o, none⟩ v) :=
  ⟨h.os, h.tape, h.output, by rw [← h.size]; simp [World.setCell], fun k hk => (Below.heap_setCell _ _ _ _ hk).trans (h.block k hk)⟩
theorem Only.cell {R : Nat} {w w' : World} (h : Only R w w') {p : Addr} (hp : p.block ≠ R) : w'.cell? p = w.cell? p := World.cell?_of_block (w := w) (h.block p.block hp)

theorem ret_int {k : IntKind} {a b : Int} (h : a = b) : Ending.returned (.int k a) = .returned (.int k b) := by rw [h]

theorem newReader_any (s : ByteArray) (w : World) :
    Calls Ybad.prog 9 #[.string s] w fun e w' => e = .returned (.pointer (some ⟨w.heap.size, 0, none⟩)) ∧ w' = w.alloc (.cells #[.string s, .int .i64 0, .int .i64 (-1)] 57) := by
  go_enter Ybad.func9, Ybad.ntmps9
  go_wp2
  go_ret
  exact ⟨rfl, rfl⟩

theorem len_any (R : Nat) (s : ByteArray) (i : Nat) (p : Int) (w : World) (hr : w.rowIs R 57 3 (rc s i p)) (hi : i ≤ s.size) (hs : s.size ≤ 2000000) :
    Calls Ybad.prog 10 #[.pointer (some ⟨R, 0, none⟩)] w fun e w' => e = .returned (.int .i64 ((s.size - i : Nat) : Int)) ∧ ∃ n, w' = w.drewN n := by
  have c0 : w.cell? ⟨R, 0, none⟩ = some (.string s) := hr.cell (i := 0) (by omega)
  have c1 : w.cell? ⟨R, 1, none⟩ = some (.int .i64 i) := hr.cell (i := 1) (by omega)
  by_cases h : i < s.size
  · have h1 : decide ((s.size : Int) ≤ (i : Int)) = false := decide_eq_false (by omega)
    have h2 : ¬ ((s.size : Int) ≤ (i : Int)) := by omega
    go_enter Ybad.func10, Ybad.ntmps10
    go_wp2
    go_quiet (fail)
    go_wp2
    go_quiet (fail)
    go_wp2
    go_ret
    exact ⟨ret_int (by omega), _, World.drewN_drewN _ _ _⟩
  · have h1 : decide ((s.size : Int) ≤ (i : Int)) = true := decide_eq_true (by omega)
    have h2 : (s.size : Int) ≤ (i : Int) := by omega
    go_enter Ybad.func10, Ybad.ntmps10
    go_wp2
    go_quiet (fail)
    go_wp2
    go_ret
    exact ⟨ret_int (by omega), _, rfl⟩

theorem rb_more (R : Nat) (s : ByteArray) (i : Nat) (p : Int) (w : World) (hr : w.rowIs R 57 3 (rc s i p)) (hi : i < s.size) (hs : s.size ≤ 2000000) :
    Calls Ybad.prog 35 #[.pointer (some ⟨R, 0, none⟩)] w fun e w' => e = .returned (.tuple #[.int .u8 (s[i].toNat : Int), .nilIface]) ∧ w'.rowIs R 57 3 (rc s (i + 1) (-1)) ∧ Only R w w' := by
  have c0 : w.cell? ⟨R, 0, none⟩ = some (.string s) := hr.cell (i := 0) (by omega)
  have c1 : w.cell? ⟨R, 1, none⟩ = some (.int .i64 i) := hr.cell (i := 1) (by omega)
  have c2 : w.cell? ⟨R, 2, none⟩ = some (.int .i64 p) := hr.cell (i := 2) (by omega)
  have f1 := hr.frozen 1
  have f2 := hr.frozen 2
  have h1 : decide ((s.size : Int) ≤ (i : Int)) = false := decide_eq_false (by omega)
  have h2 : ¬ ((s.size : Int) ≤ (i : Int)) := by omega
  have h3 : (i : Int) < (s.size : Int) := by omega
  go_enter Ybad.func35, Ybad.ntmps35
  go_wp2
  go_quiet (fail)
  go_wp2
  go_quiet (fail)
  go_wp2
  go_ret2
  refine ⟨rfl, ?_, ?_⟩
  · refine ((hr.set 2 _).set 1 _).congr fun j hj => ?_
    match j, hj with
    | 0, _ => simp [rc]
    | 1, _ => simp [rc]
    | 2, _ => simp [rc]
  · exact ⟨rfl, rfl, rfl, by simp [World.setCell, World.drewN], fun k hk => (Below.heap_setCell _ _ _ _ hk).trans (Below.heap_setCell _ _ _ _ hk)⟩

theorem rb_end (R : Nat) (s : ByteArray) (i : Nat) (p : Int) (w : World) (hr : w.rowIs R 57 3 (rc s i p)) (hi : s.size ≤ i) (hs : s.size ≤ 2000000) (E : Value) (hR : R ≠ 0) (hE : w.cell? ⟨0, 0, none⟩ = some E) :
    Calls Ybad.prog 35 #[.pointer (some ⟨R, 0, none⟩)] w fun e w' => e = .returned (.tuple #[.int .u8 0, E]) ∧ w'.rowIs R 57 3 (rc s i (-1)) ∧ Only R w w' := by
  have c0 : w.cell? ⟨R, 0, none⟩ = some (.string s) := hr.cell (i := 0) (by omega)
  have c1 : w.cell? ⟨R, 1, none⟩ = some (.int .i64 i) := hr.cell (i := 1) (by omega)
  have c2 : w.cell? ⟨R, 2, none⟩ = some (.int .i64 p) := hr.cell (i := 2) (by omega)
  have f2 := hr.frozen 2
  have h1 : decide ((s.size : Int) ≤ (i : Int)) = true := decide_eq_true (by omega)
  have h2 : ((s.size : Int) ≤ (i : Int)) := by omega
  have hE2 : ∀ v, (w.setCell ⟨R, 2, none⟩ v).cell? ⟨0, 0, none⟩ = some E := fun v => by
    rw [World.cell?_of_block (w := w) (Below.heap_setCell _ _ _ _ (by show 0 ≠ R; omega))]; exact hE
  go_enter Ybad.func35, Ybad.ntmps35
  go_wp2
  go_quiet (fail)
  go_wp2
  go_quiet (fail)
  go_wp2
  go_ret2
  refine ⟨rfl, ?_, ?_⟩
  · refine (hr.set 2 _).congr fun j hj => ?_
    match j, hj with
    | 0, _ => simp [rc]
    | 1, _ => simp [rc]
    | 2, _ => simp [rc]
  · exact ⟨rfl, rfl, rfl, by simp [World.setCell, World.drewN], fun k hk => (Below.heap_setCell _ _ _ _ hk)⟩

theorem seek_any (R : Nat) (s : ByteArray) (i : Nat) (p : Int) (x : Nat) (w : World) (hr : w.rowIs R 57 3 (rc s i p)) (hi : i + x ≤ s.size) (hs : s.size ≤ 2000000) :
    Calls Ybad.prog 12 #[.pointer (some ⟨R, 0, none⟩), .int .i64 x, .int .i64 1] w fun e w' => e = .returned (.tuple #[.int .i64 ((i + x : Nat) : Int), .nilIface]) ∧ w'.rowIs R 57 3 (rc s (i + x) (-1)) ∧ Only R w w' := by
  have c1 : w.cell? ⟨R, 1, none⟩ = some (.int .i64 i) := hr.cell (i := 1) (by omega)
  have c2 : w.cell? ⟨R, 2, none⟩ = some (.int .i64 p) := hr.cell (i := 2) (by omega)
  have f1 := hr.frozen 1
  have f2 := hr.frozen 2
  have h3 : ¬ ((i : Int) + (x : Int) < 0) := by omega
  go_enter Ybad.func12, Ybad.ntmps12
  go_wp2
  go_ret2
  refine ⟨?_, ?_, ?_⟩
  · simp
  · refine ((hr.set 2 _).set 1 _).congr fun j hj => ?_
    match j, hj with
    | 0, _ => simp [rc]
    | 1, _ => simp [rc]
    | 2, _ => simp [rc]
  · exact ⟨rfl, rfl, rfl, by simp [World.setCell], fun k hk => (Below.heap_setCell _ _ _ _ hk).trans (Below.heap_setCell _ _ _ _ hk)⟩
end Go.Proofs.YbulkgdpcDoor.lawB
