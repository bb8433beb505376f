import Derived.Test.YbulkgdpqS2
import Derived.Conc.MuLone
import Derived.Conc.EventLaws
import Derived.KernelRfl
namespace Go.Proofs
abbrev Yba.muLink : Go.Conc.Locks.MuLink := { lock := 5, unlock := 6, ilock := 7, iunlock := 8, lockSlow := 13, unlockSlow := 16, disable := 9, enable := 11, acquire := 12, relMerge := 14, cas32 := 10, add32 := 15, tMutex := 48, tIMutex := 46, tPMutex := 66, tPIMutex := 67, tPI32 := 69, tUP := 71, tNoCopy := 43, tU32 := 44 }
theorem Yba.muLib : Go.Conc.Locks.MuLib Yba.prog Yba.muLink :=
  ⟨Yba.func5, Yba.func6, Yba.func7, Yba.func8, Yba.func9, Yba.func11, Yba.func12, Yba.func14, Yba.func10, Yba.func15, Yba.underlying46, Yba.runUnderlying46, Yba.sizeOf46, Yba.isAgg46, Yba.zeroValue46, Yba.underlying48, Yba.runUnderlying48, Yba.sizeOf48, Yba.isAgg48, Yba.zeroValue48, Yba.underlying66, Yba.runUnderlying66, Yba.sizeOf66, Yba.isAgg66, Yba.zeroValue66, Yba.underlying67, Yba.runUnderlying67, Yba.sizeOf67, Yba.isAgg67, Yba.zeroValue67, Yba.underlying69, Yba.runUnderlying69, Yba.sizeOf69, Yba.isAgg69, Yba.zeroValue69, Yba.underlying71, Yba.runUnderlying71, Yba.sizeOf71, Yba.isAgg71, Yba.zeroValue71, Yba.underlying43, Yba.runUnderlying43, Yba.sizeOf43, Yba.isAgg43, Yba.zeroValue43, Yba.underlying21, Yba.runUnderlying21, Yba.sizeOf21, Yba.isAgg21, Yba.zeroValue21, (by kernel_rfl)⟩
end Go.Proofs
namespace Go.Proofs.Ybulkgdpq
open Go.RowKit Go.Conc Go.MuLone Go.ChangeMaps

/-- All blocks but those of which 'may' speaks are as they were; none is new. -/
structure Frm (w w' : World) (may : Nat → Prop) : Prop where
  os : w'.os = w.os
  tape : w'.tape = w.tape
  output : w'.output = w.output
  size : w'.heap.size = w.heap.size
  block : ∀ k, ¬ may k → w'.heap[k]? = w.heap[k]?

theorem Frm.trans {w w' w'' : World} {m m' m'' : Nat → Prop} (h : Frm w w' m) (h' : Frm w' w'' m') (hm : ∀ k, m k ∨ m' k → m'' k) : Frm w w'' m'' :=
  ⟨h'.os.trans h.os, h'.tape.trans h.tape, h'.output.trans h.output, h'.size.trans h.size, fun k hk => (h'.block k (fun x => hk (hm k (Or.inr x)))).trans (h.block k (fun x => hk (hm k (Or.inl x))))⟩

theorem Frm.setCell (w : World) (a : Addr) (v : Value) : Frm w (w.setCell a v) (fun k => k = a.block) :=
  ⟨rfl, rfl, rfl, by simp [World.setCell], fun k hk => Below.heap_setCell _ _ _ _ hk⟩

theorem Frm.turned {w w' : World} {b : Nat} (h : w.mapTurned w' b) : Frm w w' (fun k => k = b) := by
  obtain ⟨es, clock, es', clock', hb, rfl⟩ := h
  refine ⟨rfl, rfl, rfl, by simp [setBlock], fun k hk => heap_setBlock_other hb _ hk⟩

theorem Frm.cell {w w' : World} {may : Nat → Prop} (h : Frm w w' may) {a : Addr} (ha : ¬ may a.block) : w'.cell? a = w.cell? a := World.cell?_of_block (w := w) (h.block _ ha)
theorem Frm.frozen {w w' : World} {may : Nat → Prop} (h : Frm w w' may) {a : Addr} (ha : ¬ may a.block) : w'.frozen? a = w.frozen? a := World.frozen?_of_block (w := w) (h.block _ ha)

theorem close_chan (w : World) (c : Nat) (hc : w.heap[c]? = some (.chan 0 #[] false 0 0 false)) (ats : Array TypeId) (ty : TypeId) :
    ∃ w', (Builtin.close_ ats ty #[.chan (some c)]).run Yba.prog w = .ok (.tuple #[]) w' ∧ w'.heap[c]? = some (.chan 0 #[] true 0 0 false) ∧ Frm w w' (fun k => k = c) := by
  have hlt : c < w.heap.size := (Array.getElem?_eq_some_iff.1 hc).1
  refine ⟨_, run_close_open ats ty hc, ?_, ⟨rfl, rfl, rfl, by simp, fun k hk => ?_⟩⟩
  · simp [hlt]
  · show (w.heap.setIfInBounds c _)[k]? = _
    rw [Array.getElem?_setIfInBounds_ne (fun e => hk e.symm)]

theorem equalIn_chan (w : World) (d : Nat) (a b : Option Nat) : (Op.equalIn (d + 1) 25 (.chan a) (.chan b)).run Yba.prog w = .ok (a == b) w := by
  simp [Op.equalIn, run_underlying Yba.underlying25]
theorem equal_chan (w : World) (a b : Option Nat) : (Op.equal 25 (.chan a) (.chan b)).run Yba.prog w = .ok (a == b) w := equalIn_chan w 9999 a b
@[go_sem] theorem neq_chan (w : World) (a b : Option Nat) : (binOp .neq 25 (.chan a) (.chan b)).run Yba.prog w = .ok (.bool (!(a == b))) w := by
  simp only [binOp]
  simp [equal_chan w a b]

theorem zero25 (w : World) : (zeroValue 25).run Yba.prog w = .ok (.chan none) w := by kernel_rfl
theorem zero4 (w : World) : (zeroValue 4).run Yba.prog w = .ok (.bool false) w := by kernel_rfl

/-- The service that the law builds: its lock is free, and it holds the two maps. -/
structure Svc (w : World) (S bd br : Nat) : Prop where
  mu : w.cell? ⟨S, 21, none⟩ = some (.int .i32 0)
  muz : w.frozen? ⟨S, 21, none⟩ = false
  dec : w.cell? ⟨S, 26, none⟩ = some (.map (some bd))
  run : w.cell? ⟨S, 27, none⟩ = some (.map (some br))

set_option maxRecDepth 100000 in
set_option maxHeartbeats 1600000 in
/-- endDeciding where nothing is to be removed. -/
theorem end_none (S bd br nd szd : Nat) (fd : Int → Option Value) (k : Int) (w : World) (hw : (Lit.int .i64 k).wf = true) (hS : Svc w S bd br) (hne : bd ≠ S) (hd : MF w bd nd fd szd) (hf : (fd k).getD (.chan none) = .chan none) :
    Calls Yba.prog 4 #[.pointer (some ⟨S, 0, none⟩), .int .i64 k] w fun e w' => e = .returned (.tuple #[]) ∧ Frm w w' (fun j => j = S) := by
  have h1 := hS.mu
  have z1 := hS.muz
  have hF1 := Frm.setCell w ⟨S, 21, none⟩ (.int .i32 1)
  have hl := (hd.of_block (hF1.block bd hne)).look Yba.underlying24 (zero25 _) hw
  rw [hf] at hl
  have h26 : (w.setCell ⟨S, 21, none⟩ (.int .i32 1)).cell? ⟨S, 26, none⟩ = some (.map (some bd)) := (World.cell?_setCell_other _ _ _ _ (by simp)).trans hS.dec
  go_enter_defers Yba.func4, Yba.ntmps4
  go_wp2_with (go_at_call 5; refine (lock_free Yba.muLib ⟨S, 21, none⟩ _ h1 z1).mono ?_; rintro e w' ⟨rfl, rfl⟩)
  refine leaves_cons (f := 6) (args := #[.pointer (some ⟨S, 21, none⟩)]) (by simp) (by simp [go_sem]) ?_
  refine (unlock_deferred Yba.muLib ⟨S, 21, none⟩ .returning _ ?_ ?_).mono ?_
  · exact World.cell?_setCell_same w ⟨S, 21, none⟩ (.int .i32 1) h1
  · simp [z1]
  rintro e u' w'' ⟨rfl, rfl, rfl⟩
  exact ⟨_, results_none rfl _ _ _, rfl, hF1.trans (Frm.setCell _ _ _) (fun j hj => by rcases hj with rfl | rfl <;> rfl)⟩

set_option maxRecDepth 100000 in
set_option maxHeartbeats 1600000 in
/-- endDeciding where the transaction is being decided. -/
theorem end_some (S bd br nd szd nr szr c : Nat) (fd fr : Int → Option Value) (k : Int) (w : World) (hw : (Lit.int .i64 k).wf = true) (hS : Svc w S bd br) (hd : MF w bd nd fd szd) (hr : MF w br nr fr szr)
    (hf : fd k = some (.chan (some c))) (hc : w.heap[c]? = some (.chan 0 #[] false 0 0 false)) (n1 : bd ≠ S) (n2 : br ≠ S) (n3 : bd ≠ br) (n4 : c ≠ S) (n5 : c ≠ bd) (n6 : c ≠ br) :
    Calls Yba.prog 4 #[.pointer (some ⟨S, 0, none⟩), .int .i64 k] w fun e w' => e = .returned (.tuple #[]) ∧ Frm w w' (fun j => j = S ∨ j = bd ∨ j = br ∨ j = c) ∧
      MF w' bd nd (delKey fd k) (szd - 1) ∧ MF w' br nr (delKey fr k) (if (fr k).isSome then szr - 1 else szr) ∧ w'.heap[c]? = some (.chan 0 #[] true 0 0 false) := by
  have h1 := hS.mu
  have z1 := hS.muz
  obtain ⟨w1, hw1⟩ : ∃ w1, w.setCell ⟨S, 21, none⟩ (.int .i32 1) = w1 := ⟨_, rfl⟩
  have hF1 : Frm w w1 (fun j => j = S) := by rw [← hw1]; exact Frm.setCell w ⟨S, 21, none⟩ (.int .i32 1)
  have hm1 : w1.cell? ⟨S, 21, none⟩ = some (.int .i32 1) := by rw [← hw1]; exact World.cell?_setCell_same w ⟨S, 21, none⟩ (.int .i32 1) h1
  have hz1 : w1.frozen? ⟨S, 21, none⟩ = false := by rw [← hw1]; simp [z1]
  have h26 : w1.cell? ⟨S, 26, none⟩ = some (.map (some bd)) := by rw [← hw1]; exact (World.cell?_setCell_other _ _ _ _ (by simp)).trans hS.dec
  have h27 : w1.cell? ⟨S, 27, none⟩ = some (.map (some br)) := by rw [← hw1]; exact (World.cell?_setCell_other _ _ _ _ (by simp)).trans hS.run
  have hd1 := hd.of_block (hF1.block bd n1)
  have hr1 := hr.of_block (hF1.block br n2)
  have hc1 := (hF1.block c n4).trans hc
  have hl := hd1.look Yba.underlying24 (zero25 _) hw
  rw [hf] at hl
  have hl' : (Instr.lookup 24 (.map (some bd)) (.int .i64 k) false).run Yba.prog w1 = .ok (.chan (some c)) w1 := hl
  obtain ⟨w2, hx2, hd2, ht2⟩ := hd1.drop Yba.underlying24 hw 0
  have hF2 := Frm.turned ht2
  have h27' : w2.cell? ⟨S, 27, none⟩ = some (.map (some br)) := (hF2.cell (fun e => n1 e.symm)).trans h27
  have hr2 := hr1.of_block (hF2.block br (fun e => n3 e.symm))
  have hc2 := (hF2.block c n5).trans hc1
  obtain ⟨w3, hx3, hr3, ht3⟩ := hr2.drop Yba.underlying26 hw 0
  have hF3 := Frm.turned ht3
  have hd3 := hd2.of_block (hF3.block bd n3)
  have hc3 := (hF3.block c n6).trans hc2
  obtain ⟨w4, hx4, hc4, hF4⟩ := close_chan w3 c hc3 #[25] 0
  have hF14 : Frm w1 w4 (fun j => j = bd ∨ j = br ∨ j = c) := (hF2.trans hF3 (fun _ h => h) (m'' := fun j => j = bd ∨ j = br)).trans hF4 (fun j h => by rcases h with (h | h) | h <;> simp [h])
  have hd4 := hd3.of_block (hF4.block bd (fun e => n5 e.symm))
  have hr4 := hr3.of_block (hF4.block br (fun e => n6 e.symm))
  have hS4 : ¬ (S = bd ∨ S = br ∨ S = c) := by rintro (e | e | e) <;> simp_all
  have hm4 := (hF14.cell (a := ⟨S, 21, none⟩) hS4).trans hm1
  have hz4 := (hF14.frozen (a := ⟨S, 21, none⟩) hS4).trans hz1
  clear hl
  rw [hf] at hd4
  have hd4' : MF w4 bd nd (delKey fd k) (szd - 1) := hd4
  generalize hsr : (if (fr k).isSome = true then szr - 1 else szr) = sr at *
  go_enter_defers Yba.func4, Yba.ntmps4
  go_wp2_with (go_at_call 5; refine (lock_free Yba.muLib ⟨S, 21, none⟩ _ h1 z1).mono ?_; rintro e w' ⟨rfl, rfl⟩; simp only [hw1])
  refine leaves_cons (f := 6) (args := #[.pointer (some ⟨S, 21, none⟩)]) (by simp) (by simp [go_sem]) ?_
  refine (unlock_deferred Yba.muLib ⟨S, 21, none⟩ .returning _ hm4 hz4).mono ?_
  rintro e u' w'' ⟨rfl, rfl, rfl⟩
  have hF5 := Frm.setCell w4 ⟨S, 21, none⟩ (.int .i32 0)
  exact ⟨_, results_none rfl _ _ _, rfl, (hF1.trans hF14 (fun _ h => h) (m'' := fun j => j = S ∨ j = bd ∨ j = br ∨ j = c)).trans hF5 (fun j hj => by
    rcases hj with hj | hj
    · exact hj
    · exact Or.inl hj), hd4'.of_block (hF5.block bd n1), hr4.of_block (hF5.block br n2), (hF5.block c n4).trans hc4⟩
end Go.Proofs.Ybulkgdpq
