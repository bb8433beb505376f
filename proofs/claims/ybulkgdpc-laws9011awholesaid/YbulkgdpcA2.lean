import Derived.Test.YbulkgdpcA1
import Derived.Deep.RegionWith
import Derived.BigRegion
import Derived.WalkSpells
import Derived.LaidEqlPtr
namespace Go.Proofs.Ybulkgdpc.lawA
open Go.ChangeShapes Go.WideShapes Go.ChangeAt Go.RowKit
open Go.ChangeMaps (setBlock heap_setBlock_same heap_setBlock_other)
set_option linter.unusedVariables false

def sdTo (x : Int) : Nat → Int
  | 0 => 0
  | k + 1 => mix (stTo x (k + 1))

/-- the four cells of a logCoins -/
def lc (seed : Int) (n : Nat) (d : Int) (M : Nat) (j : Nat) : Value :=
  if j = 0 then .int .u64 seed else if j = 1 then .int .i64 n else if j = 2 then .int .i64 d else .map (some M)

theorem of_fresh (p M : Nat) (seed : Int) (n : Nat) (d e : Int) (j : Nat) (w : World) (hn : 1 ≤ n) (hn2 : n ≤ 512) (hj : j < n) (he : e ≤ 1048576)
    (hp : w.rowIs p 27 4 (lc seed n d M)) (es : Array MapEntry) (c : Nat) (hM : w.heap[M]? = some (.map es c))
    (hes : es = #[] ∨ ∃ b, es = #[⟨.int .i64 e, .slice none 0 0, b⟩]) :
    Calls Yba.prog 5 #[.pointer (some ⟨p, 0, none⟩), .int .i64 e, .int .i64 j] w fun r w' =>
      r = .returned (.pointer (some ⟨w.heap.size + 4 + 2 * j, 0, none⟩)) ∧
      CoinsTo w' (w.heap.size + 2) n n (fun i => mix (stTo (xorC (sdTo (xorE seed) e.toNat)) (i + 1))) (IntKind.u64.wrap d) ∧
      w'.heap.size = w.heap.size + 3 + 2 * n ∧ (∃ b c', w'.heap[M]? = some (.map #[⟨.int .i64 e, .slice (some ⟨w.heap.size + 2, 0, none⟩) n n, b⟩] c')) ∧
      (∀ b, b < w.heap.size → b ≠ M → w'.heap[b]? = w.heap[b]?) ∧ w'.os = w.os ∧ w'.tape = w.tape ∧ w'.output = w.output := by
  have hlk : (Instr.lookup 25 (.map (some M)) (.int .i64 e) false).run Yba.prog w = .ok (.slice none 0 0) w := by
    rcases hes with rfl | ⟨b, rfl⟩
    · exact look_none Yba.underlying25 Yba.underlying3 (by kernel_rfl) hM e
    · exact look_one Yba.underlying25 Yba.underlying3 hM
  have hpl : p < w.heap.size := hp.lt
  have c0 := hp.cell (i := 0) (by omega)
  have c3 := hp.cell (i := 3) (by omega)
  simp only [lc] at c0 c3
  simp at c0 c3
  have hsn := fun w a n c => Lib.run_eql_slice_nil (P := Yba.prog) w 28 29 a n c 0 0 Yba.underlying28
  go_enter Yba.func5, Yba.ntmps5
  go_wp2_with (go_at_call 9; refine (newRand_any _ _).mono ?_; rintro e w' ⟨rfl, rfl⟩)
  go_loopw [9, 25] (fun v i wr => ∃ k : Nat, k ≤ e.toNat ∧ i = .int .i64 k ∧ v = .int .u64 (sdTo (xorE seed) k) ∧ wr.rowIs w.heap.size 48 1 (fun _ => .int .u64 (stTo (xorE seed) k)) ∧ wr.heap.size = w.heap.size + 1 ∧ Below w.heap.size w wr)
    (fun _ i _ => e.toNat - (intOf i).toNat)
  case atStart =>
    refine ⟨0, Nat.zero_le _, rfl, rfl, ?_, by simp, (Below.refl _ _).alloc (Nat.le_refl _) _⟩
    exact World.rowIs_alloc w #[.int .u64 (xorE seed)] 48 (fun _ => .int .u64 (stTo (xorE seed) 0)) (fun i hi => by simp at hi; subst hi; rfl)
  case round =>
    obtain ⟨k, hk, rfl, rfl, hrng, hsz, hbel⟩ := hrel
    by_cases hlt : (k : Int) < e
    · have hc := hrng.cell (i := 0) (by omega)
      have hf := hrng.frozen 0
      have hb := stTo_bd (xorE seed) (xor_bd _ _).1 (xor_bd _ _).2 k
      clear c0 c3 hlk hsn
      go_wp2_with (go_at_call 10; refine (next_any _ _ _ hc hf hb.1 hb.2).mono ?_; rintro e w' ⟨rfl, rfl⟩)
      go_roundw
      case rel =>
        refine ⟨k + 1, by omega, by go_num, rfl, ?_, by simp [World.setCell, hsz], hbel.setCell (Nat.le_refl _) _⟩
        exact (hrng.set 0 _).congr fun i hi => by
            obtain rfl : i = 0 := by omega
            simp [stTo]
      case measure => simp [intOf]; omega
    · have hke : k = e.toNat := by omega
      subst hke
      have hp2 : wr.rowIs p 27 4 (lc seed n d M) := hp.of_block (hbel.block _ hpl)
      have d1 := hp2.cell (i := 1) (by omega)
      have d2 := hp2.cell (i := 2) (by omega)
      have d3 := hp2.cell (i := 3) (by omega)
      simp only [lc] at d1 d2 d3
      simp at d1 d2 d3
      clear c0 c3 hlk hsn
      have hMl : M < w.heap.size := (Array.getElem?_eq_some_iff.1 hM).1
      have hMr : wr.heap[M]? = some (.map es c) := (hbel.block _ hMl).trans hM
      go_wp2_with fail
      go_region_with (go_at_call 11; refine (newCoins_any _ _ _ _ hn hn2).mono ?_; rintro r0 w2 ⟨rfl, hco, hsz2, hbel2⟩)
      all_goals
        have hw2 : CoinsTo w2 (w.heap.size + 2) n n (fun i => mix (stTo (xorC (sdTo (xorE seed) e.toNat)) (i + 1))) (IntKind.u64.wrap d) ∧ w2.heap.size = w.heap.size + 3 + 2 * n ∧ (∀ b, b < w.heap.size → w2.heap[b]? = w.heap[b]?) ∧ w2.os = w.os ∧ w2.tape = w.tape ∧ w2.output = w.output := by
          refine ⟨?_, ?_, ?_, ?_, ?_, ?_⟩
          · have := hco
            simpa [hsz] using this
          · have := hsz2
            simp [hsz] at this
            omega
          · intro b hb
            have := hbel2.block b (by simp [hsz]; omega)
            exact this.trans (hbel.block b hb)
          · exact hbel2.os.trans hbel.os
          · exact hbel2.tape.trans hbel.tape
          · exact hbel2.output.trans hbel.output
        clear hco hsz2 hbel2
        obtain ⟨hco, hsz2, hblk, hos, htape, hout⟩ := hw2
        have hM2 : w2.heap[M]? = some (.map es c) := (hblk _ hMl).trans hM
        obtain ⟨b1, c1, hup⟩ : ∃ b1 c1, ∀ v, (Instr.mapUpdate 25 (.map (some M)) (.int .i64 e) v).run Yba.prog w2 = .ok () (setBlock w2 M (.map #[⟨.int .i64 e, v, b1⟩] c1)) := by
          rcases hes with rfl | ⟨b, rfl⟩
          · exact ⟨_, _, fun v => upd_none Yba.underlying25 Yba.underlying3 hM2 e v⟩
          · exact ⟨_, _, fun v => upd_one Yba.underlying25 Yba.underlying3 hM2 v⟩
        have f3 : w2.cell? ⟨p, 3, none⟩ = some (.map (some M)) := (World.cell?_of_block (w := wr) ((hblk _ hpl).trans (hbel.block _ hpl).symm)).trans d3
        have hoth : ∀ v b, b ≠ M → (setBlock w2 M (.map #[⟨.int .i64 e, v, b1⟩] c1)).heap[b]? = w2.heap[b]? := fun v b hb => heap_setBlock_other hM2 _ hb
        have hcj : ∀ v, (setBlock w2 M (.map #[⟨.int .i64 e, v, b1⟩] c1)).cell? ⟨w.heap.size + 2, j, none⟩ = some (.pointer (some ⟨w.heap.size + 4 + 2 * j, 0, none⟩)) := fun v => by
          have := hco.1.cell hj
          rw [if_pos hj] at this
          rw [World.cell?_of_block (w := w2) (hoth v _ (by show w.heap.size + 2 ≠ M; omega)), this]
        have hcj1 : ∀ v, (setBlock w2 M (.map #[⟨.int .i64 e, v, b1⟩] c1)).cell? ⟨w.heap.size + 1 + 1, j, none⟩ = some (.pointer (some ⟨w.heap.size + 4 + 2 * j, 0, none⟩)) := hcj
        have hji : (j : Int) < (n : Int) := by omega
        have Hb : Hid (∀ b, b < w.heap.size → w2.heap[b]? = w.heap[b]?) := hblk
        have Ho : Hid (∀ v b, b ≠ M → (setBlock w2 M (.map #[⟨.int .i64 e, v, b1⟩] c1)).heap[b]? = w2.heap[b]?) := hoth
        clear d1 d2 d3 hblk hrng hMr hoth hsz
        have Hos : Hid (w2.os = w.os) := hos
        have Hta : Hid (w2.tape = w.tape) := htape
        have Hou : Hid (w2.output = w.output) := hout
        have Hsz : Hid (w2.heap.size = w.heap.size + 3 + 2 * n) := hsz2
        clear hos htape hout hsz2
        go_wp2
        go_ret
        refine ⟨rfl, ?_, ?_, ⟨b1, c1, ?_⟩, ?_, Hos.out, Hta.out, Hou.out⟩
        · exact coins_other hco (fun b hb1 _ => Ho.out _ b (by omega)) (by have := Hsz.out; omega)
        · have := Hsz.out
          simpa [setBlock] using this
        · exact heap_setBlock_same hM2 _
        · intro b hb hne
          exact (Ho.out _ b hne).trans (Hb.out b hb)

theorem of_there (p M S : Nat) (seed : Int) (n : Nat) (d e : Int) (j : Nat) (w : World) (hj : j < n)
    (hp : w.rowIs p 27 4 (lc seed n d M)) (b c : Nat) (hM : w.heap[M]? = some (.map #[⟨.int .i64 e, .slice (some ⟨S, 0, none⟩) n n, b⟩] c)) (v : Value) (hv : w.cell? ⟨S, j, none⟩ = some v) :
    Calls Yba.prog 5 #[.pointer (some ⟨p, 0, none⟩), .int .i64 e, .int .i64 j] w fun r w' => r = .returned v ∧ w' = w := by
  have hlk : (Instr.lookup 25 (.map (some M)) (.int .i64 e) false).run Yba.prog w = .ok (.slice (some ⟨S, 0, none⟩) n n) w := look_one Yba.underlying25 Yba.underlying3 hM
  have c3 := hp.cell (i := 3) (by omega)
  simp only [lc] at c3
  simp at c3
  have hji : (j : Int) < (n : Int) := by omega
  have hsn := fun w a n c => Lib.run_eql_slice_nil (P := Yba.prog) w 28 29 a n c 0 0 Yba.underlying28
  go_enter Yba.func5, Yba.ntmps5
  go_wp2
  go_ret
  exact ⟨rfl, rfl⟩

theorem of_fresh' (p M : Nat) (seed : Int) (n : Nat) (d e : Int) (j : Nat) (w : World) (hn : 1 ≤ n) (hn2 : n ≤ 512) (hj : j < n) (he : e ≤ 1048576)
    (hp : w.rowIs p 27 4 (lc seed n d M)) (es : Array MapEntry) (c : Nat) (hM : w.heap[M]? = some (.map es c))
    (hes : es = #[] ∨ ∃ b, es = #[⟨.int .i64 e, .slice none 0 0, b⟩]) (S R T : Nat) (hS : S = w.heap.size + 2) (hR : R = w.heap.size + 4 + 2 * j) (hT : T = w.heap.size + 3 + 2 * n) :
    Calls Yba.prog 5 #[.pointer (some ⟨p, 0, none⟩), .int .i64 e, .int .i64 j] w fun r w' =>
      r = .returned (.pointer (some ⟨R, 0, none⟩)) ∧
      CoinsTo w' S n n (fun i => mix (stTo (xorC (sdTo (xorE seed) e.toNat)) (i + 1))) (IntKind.u64.wrap d) ∧
      w'.heap.size = T ∧ (∃ b c', w'.heap[M]? = some (.map #[⟨.int .i64 e, .slice (some ⟨S, 0, none⟩) n n, b⟩] c')) ∧
      (∀ b, b < w.heap.size → b ≠ M → w'.heap[b]? = w.heap[b]?) ∧ w'.os = w.os ∧ w'.tape = w.tape ∧ w'.output = w.output := by
  subst hS hR hT
  exact of_fresh p M seed n d e j w hn hn2 hj he hp es c hM hes

/-- the look at what zzs9011aout gives, under a name -/
theorem out_at (s i v : Int) (hv : v = mix (IntKind.u64.wrap (s + IntKind.u64.wrap (i * 11400714819323198485)))) (w : World) :
    Calls Yba.prog 6 #[.int .u64 s, .int .u64 i] w fun e w' => e = .returned (.int .u64 v) ∧ w' = w := by
  subst hv
  exact out_any s i w

section
variable {P : Program} (w : World)
theorem run_neq_ptr_same {tp te : TypeId} {j : TypeInfo} (a : Addr) (hp : P.underlying tp = some (.pointer te)) (hte : P.info? te = some j) :
    (binOp .neq tp (.pointer (some a)) (.pointer (some a))).run P w = .ok (.bool false) w := by
  have h : ∀ d : Nat, (Op.equalIn (d + 1) tp (.pointer (some a)) (.pointer (some a))).run P w = .ok true w := fun d => by
    simp [Op.equalIn, run_underlying hp, sizeOf, typeInfo, hte, run_sameAddr_same]
  simp only [binOp]
  simp [Op.equal, Op.maxDepth, h 9999]
theorem len_map {t k e : TypeId} (ht : P.underlying t = some (.map k e)) {b : Nat} {es : Array MapEntry} {c : Nat} (hb : w.heap[b]? = some (.map es c)) (ty : TypeId) :
    (Builtin.len_ #[t] ty #[.map (some b)]).run P w = .ok (.int .i64 es.size) w := by
  simp [Builtin.len_, run_underlying ht, MapKept.run_getObj_map hb, goInt, Result.andThen]
end
end Go.Proofs.Ybulkgdpc.lawA
