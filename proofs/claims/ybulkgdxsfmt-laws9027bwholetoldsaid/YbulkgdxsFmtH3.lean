import Derived.Test.YbulkgdxsFmtH2
import Derived.Laws.MakeOwn
import Derived.Laws.Cover3
namespace Go.Proofs.YbulkgdxsFmt
open Go.RowKit Go.Extern.Stop Go.Stop Go.Extern

/-- The slice of names that came in. -/
structure Nms (w : World) (a : Option Addr) (n cap b off : Nat) (xs : List ByteArray) : Prop where
  len : xs.length = n
  ix : ∀ i, i < n → ∀ w', (Instr.indexAt 29 (.slice a n cap) (.int .i64 (i : Int))).run Ybaf.prog w' = .ok (.pointer (some ⟨b, off + i, none⟩)) w'
  cell : ∀ i, i < n → w.cell? ⟨b, off + i, none⟩ = some (.string (xs.getD i ⟨#[]⟩))
  lt : 0 < n → b < w.heap.size

def zeroCls : Value := .agg (cls ⟨#[]⟩)
def made (n : Nat) : Array Value := madeCells (cls ⟨#[]⟩) (n * 19)

theorem info39' : (Ybaf.prog.info? 39).map (fun i => (i.zero, i.size, i.bytes)) = some (some zeroCls, 19, 208) := by kernel_rfl

theorem run_make_cls (n : Nat) (hn : n ≤ 1048576) (w : World) :
    (Instr.makeSlice 30 (.int .i64 (n : Int)) (.int .i64 (n : Int))).run Ybaf.prog w = .ok (.slice (some ⟨w.heap.size, 0, none⟩) n n) (w.alloc (.cells (made n) 39)) := by
  obtain ⟨i, hi, hzz⟩ := Option.map_eq_some_iff.1 info39'
  simp only [Prod.mk.injEq] at hzz
  obtain ⟨hz, hs, hb⟩ := hzz
  have hr := run_make (P := Ybaf.prog) w 30 39 i zeroCls Ybaf.underlying30 hi hz .i64 .i64 n n (by omega) (Int.le_refl _) (by rw [hb]; omega) (by omega)
  simp only [Int.toNat_natCast, hs] at hr
  exact hr

/-- A row of classes, the name of each by its number. -/
def ClsFn (w : World) (g n : Nat) (f : Nat → ByteArray) : Prop := w.rowIs g 39 (19 * n) (fun i => clsCell (f (i / 19)) (i % 19))

theorem cls_made (n : Nat) (w : World) : ClsFn (w.alloc (.cells (made n) 39)) w.heap.size n (fun _ => ⟨#[]⟩) := by
  refine ⟨made n, Go.Deep.blk_alloc_new _ _, ?_, fun i hi => ?_⟩
  · unfold made; rw [size_madeCells]; omega
  · have hi' : i < n * 19 := by omega
    have hm : i % 19 < 19 := Nat.mod_lt _ (by omega)
    have hsz : (cls ⟨#[]⟩).size = 19 := rfl
    unfold made madeCells
    simp only [Array.getElem?_map, Array.getElem?_range, hi', if_true, Option.map_some, hsz]
    congr 1
    have : (cls ⟨#[]⟩)[i % 19]! = (cls ⟨#[]⟩)[i % 19]'(by rw [hsz]; exact hm) := by
      rw [getElem!_pos]
    rw [this]
    unfold clsCell cls
    simp [List.getD, List.getElem?_eq_getElem (show i % 19 < (clsList ⟨#[]⟩).length from hm)]

theorem ClsFn.set {w : World} {g n : Nat} {f : Nat → ByteArray} (h : ClsFn w g n f) (k : Nat) (s : ByteArray) :
    ClsFn (w.setCell ⟨g, k * 19, none⟩ (.string s)) g n (fun i => if i = k then s else f i) := by
  refine World.rowIs.congr (World.rowIs.set h (k * 19) (.string s)) fun i hi => ?_
  by_cases e : i = k * 19
  · subst e
    have e1 : k * 19 / 19 = k := by omega
    have e2 : k * 19 % 19 = 0 := by omega
    simp only [if_true, e1, e2]
    rfl
  · simp only [if_neg e]
    by_cases e3 : i / 19 = k
    · have e4 : i % 19 ≠ 0 := by omega
      simp only [e3, if_true]
      have h19 : i % 19 < 19 := Nat.mod_lt _ (by omega)
      generalize i % 19 = j at e4 h19
      unfold clsCell clsList
      match j, e4 with
      | j + 1, _ => simp [List.getD]
    · simp only [if_neg e3]

theorem ClsFn.blk {w : World} {g n : Nat} {f : Nat → ByteArray} {xs : List ByteArray} (h : ClsFn w g n f) (hl : xs.length = n) (e : ∀ i, i < n → f i = xs.getD i ⟨#[]⟩) : ClsBlk w g xs := by
  unfold ClsBlk
  rw [hl]
  refine World.rowIs.congr h fun i hi => ?_
  simp only [e (i / 19) (by omega)]

theorem ClsFn.cell {w : World} {g n : Nat} {f : Nat → ByteArray} (h : ClsFn w g n f) {k : Nat} (hk : k < n) : w.cell? ⟨g, k * 19, none⟩ = some (.string (f k)) := by
  have h1 := World.rowIs.cell h (i := k * 19) (by omega)
  rw [h1]
  have e1 : k * 19 / 19 = k := by omega
  have e2 : k * 19 % 19 = 0 := by omega
  simp only [e1, e2]
  rfl

theorem ClsFn.frozen {w : World} {g n : Nat} {f : Nat → ByteArray} (h : ClsFn w g n f) (k : Nat) : w.frozen? ⟨g, k, none⟩ = false := World.rowIs.frozen h k
end Go.Proofs.YbulkgdxsFmt
