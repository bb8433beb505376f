import Derived.Test.YbulkgdxsFmtF1
import Derived.WalkKit
import Derived.WalkSpells
import Derived.Deep.OwnRows
import Derived.Laws.Rows
import Derived.Laws.Tables
import Derived.Great.Ranges
namespace Go.Proofs.YbulkgdxsFmt
open Go.RowKit Go.Extern.Stop Go.Stop Go.Extern

/-- The cells of a fund.Class that has a name and nothing else. -/
def clsList (s : ByteArray) : List Value :=
  [.string s, .slice none 0 0, .slice none 0 0, .slice none 0 0,
   .int .i64 0, .pointer none, .int .i64 0, .int .i64 0, .pointer none, .int .i64 0, .int .i64 0, .pointer none,
   .int .i64 0, .int .i64 0, .pointer none, .int .i64 0, .int .i64 0, .pointer none, .int .i64 0]
def cls (s : ByteArray) : Array Value := (clsList s).toArray
def clsCell (s : ByteArray) (j : Nat) : Value := (clsList s).getD j undef

theorem cls_zero (s : ByteArray) : (cls s)[0]? = some (.string s) := rfl
theorem info39 : (Ybaf.prog.info? 39).map (·.size) = some 19 := by kernel_rfl

/-- The block of the classes: one Class for each name. -/
def ClsBlk (w : World) (g : Nat) (xs : List ByteArray) : Prop :=
  w.rowIs g 39 (19 * xs.length) (fun i => clsCell (xs.getD (i / 19) ⟨#[]⟩) (i % 19))

theorem ClsBlk.cell {w : World} {g : Nat} {xs : List ByteArray} (h : ClsBlk w g xs) {i j : Nat} (hi : i < xs.length) (hj : j < 19) :
    w.cell? ⟨g, i * 19 + j, none⟩ = some (clsCell (xs.getD i ⟨#[]⟩) j) := by
  have h1 := World.rowIs.cell h (i := i * 19 + j) (by omega)
  rw [h1]
  have e1 : (i * 19 + j) / 19 = i := by omega
  have e2 : (i * 19 + j) % 19 = j := by omega
  simp only [e1, e2]

theorem run_load_cls {w : World} {g off : Nat} {s : ByteArray} (h : ∀ j, j < 19 → w.cell? ⟨g, off + j, none⟩ = some (clsCell s j)) :
    (loadVar 39 ⟨g, off, none⟩).run Ybaf.prog w = .ok (.agg (cls s)) w := by
  have hl : (loadCells ⟨g, off, none⟩ (clsList s).length).run Ybaf.prog w = .ok (clsList s).toArray w :=
    run_loadCells_list (P := Ybaf.prog) w ⟨g, off, none⟩ (clsList s) (fun j v hv => by
      have hadd : (⟨g, off, none⟩ : Addr).add j = ⟨g, off + j, none⟩ := by unfold Addr.add; split <;> simp_all
      have hj : j < 19 := by
        have := (List.getElem?_eq_some_iff.1 hv).1
        simpa [clsList] using this
      rw [hadd, h j hj]
      simp [clsCell, List.getD, hv])
  have hlen : (clsList s).length = 19 := rfl
  rw [hlen] at hl
  cases hq : Ybaf.prog.info? 39 with
  | none => have := info39; simp [hq] at this
  | some i =>
    have hs : i.size = 19 := by have := info39; simpa [hq] using this
    have hagg : (isAgg 39).run Ybaf.prog w = .ok true w := by
      unfold isAgg
      rw [Sem.run_bind, run_underlying Ybaf.underlying39 w]
      rfl
    simp [loadVar, Sem.run_bind, hagg, sizeOf, typeInfo, hq, hs, hl, cls]

theorem wpList_load_cls {ops : Array Oper} {rest : List Oper} {o : Oper} {a : Act} {w : World} {Q : Exit → Act → World → Prop} (hgd : o.guard = none) (x : Operand) (ho : o.op = .load 39 x)
    (g off : Nat) (hx : a.eval x = .pointer (some ⟨g, off, none⟩)) (s : ByteArray) (hc : ∀ j, j < 19 → w.cell? ⟨g, off + j, none⟩ = some (clsCell s j))
    (h : wpList Ybaf.prog ops Q rest (a.put o.dst (.agg (cls s))) w) : wpList Ybaf.prog ops Q (o :: rest) a w := by
  refine wpList_plain hgd fun K hK => ?_
  unfold Oper.wp execOp
  simp only [ho, hx, Instr.loadAt, Instr.sureAddr, Sem.run_bind, Sem.run_pure, Result.andThen_ok, run_load_cls hc]
  exact hK _ _ h

set_option maxRecDepth 100000 in
set_option maxHeartbeats 1600000 in
/-- The closure of Class: is it that name? -/
theorem same_name (s nm : ByteArray) (c : Nat) (w : World) (hc : w.cell? ⟨c, 0, none⟩ = some (.string nm)) :
    Calls Ybaf.prog 15 #[.agg (cls s), .pointer (some ⟨c, 0, none⟩)] w fun e w' => e = .returned (.bool (s.toList == nm.toList)) ∧ w' = w.alloc (.cells (cls s) 39) := by
  have hcl : c < w.heap.size := World.block_lt_of_cell? w _ hc
  have h0 := cls_zero s
  generalize hg : cls s = arr at h0 ⊢
  go_enter Ybaf.func15, Ybaf.ntmps15
  go_wp2
  go_ret
  exact ⟨rfl, rfl⟩

def hasAt (xs : List ByteArray) (nm : ByteArray) (i : Nat) : Bool := (xs.getD i ⟨#[]⟩).toList == nm.toList

def Found (xs : List ByteArray) (nm : ByteArray) (r : Int) : Prop :=
  (∃ i : Nat, i < xs.length ∧ r = (i : Int) ∧ hasAt xs nm i = true) ∨ (r = -1 ∧ ∀ i, i < xs.length → hasAt xs nm i = false)

theorem ClsBlk.below {w w' : World} {B g : Nat} {xs : List ByteArray} (h : ClsBlk w g xs) (hb : Below B w w') (hg : g < B) : ClsBlk w' g xs :=
  World.rowIs.of_block h (hb.block g hg)

set_option maxRecDepth 100000 in
set_option maxHeartbeats 3200000 in
theorem index_func (xs : List ByteArray) (nm : ByteArray) (g c : Nat) (w : World) (hn : xs.length ≤ 1048576) (hb : ClsBlk w g xs) (hc : w.cell? ⟨c, 0, none⟩ = some (.string nm))  :
    Calls Ybaf.prog 14 #[.slice (some ⟨g, 0, none⟩) xs.length xs.length, .func (.func 15) #[] #[.pointer (some ⟨c, 0, none⟩)]] w fun e w' => (∃ r, e = .returned (.int .i64 r) ∧ Found xs nm r) ∧ Below w.heap.size w w' := by
  have hgl : g < w.heap.size := World.rowIs.lt hb
  have hcl : c < w.heap.size := World.block_lt_of_cell? w _ hc
  generalize hnn : xs.length = n at hn ⊢
  go_enter Ybaf.func14, Ybaf.ntmps14
  go_wp2_with fail
  go_loopw [8] (fun iv wr => ∃ k : Nat, k ≤ n ∧ iv = .int .i64 k ∧ Below w.heap.size w wr ∧ Hid (∀ i, i < k → hasAt xs nm i = false))
    (fun iv _ => n - (intOf iv).toNat)
  case atStart => exact ⟨0, Nat.zero_le _, rfl, Below.refl _ _, fun i hi => by omega⟩
  case round =>
    obtain ⟨k, hk, rfl, hbel, HF⟩ := hrel
    have hcr : wr.cell? ⟨c, 0, none⟩ = some (.string nm) := (hbel.cell hcl).trans hc
    have hbr : ClsBlk wr g xs := hb.below hbel hgl
    obtain ⟨x, hx⟩ : ∃ x, xs.getD k ⟨#[]⟩ = x := ⟨_, rfl⟩
    have hcells : k < n → ∀ j, j < 19 → wr.cell? ⟨g, k * 19 + j, none⟩ = some (clsCell x j) := fun h j hj => by rw [← hx]; exact hbr.cell (by omega) hj
    have hat : hasAt xs nm k = (x.toList == nm.toList) := by unfold hasAt; rw [hx]
    clear hx
    by_cases hlt : k < n
    · have hki : (k : Int) < n := by omega
      have hcs := hcells hlt
      clear hcells
      go_wp2_with (refine wpList_load_cls rfl (.tmp 14) rfl g (k * 19) rfl x hcs ?_)
      refine (same_name x nm c wr hcr).mono ?_
      rintro e w3 ⟨rfl, rfl⟩
      have hbel2 : Below w.heap.size w (wr.alloc (.cells (cls x) 39)) := hbel.alloc hbel.size _
      have HB2 : Hid (Below w.heap.size w (wr.alloc (.cells (cls x) 39))) := hbel2
      clear hbel2 hcs hbr hcr
      generalize hq : (x.toList == nm.toList) = q at *
      cases q with
      | true =>
        go_wp2
        go_ret
        exact ⟨⟨k, rfl, Or.inl ⟨k, by omega, rfl, hat⟩⟩, HB2⟩
      | false =>
        go_wp2
        go_roundw
        case rel => exact ⟨k + 1, by omega, by simp, HB2, fun i hi => by
          by_cases e : i = k
          · subst e; exact hat
          · exact HF i (by omega)⟩
        case measure => simp [intOf]; omega
    · have hkn : k = n := by omega
      subst hkn
      clear hcells
      go_wp2
      go_ret
      exact ⟨⟨-1, rfl, Or.inr ⟨rfl, fun i hi => HF i (by omega)⟩⟩, hbel⟩
end Go.Proofs.YbulkgdxsFmt
