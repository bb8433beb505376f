import Derived.Test.YbulkgdpqS1
import Derived.Maps.Own
import Derived.Maps.OwnSet
import Derived.Maps.Keyed
import Derived.Maps.Views
namespace Go.Proofs.Ybulkgdpq
open Go.RowKit Go.Conc

/-- An element read as itself. -/
def RV (v : Value) : Option (DataW Value × List MemPlace) := some (.held v, [])

abbrev kl (k : Int) : Lit := .int .i64 k

/-- Block b is a map with int64 keys: what it holds at each key, and how many entries there are; at most n. -/
def MF (w : World) (b n : Nat) (f : Int → Option Value) (sz : Nat) : Prop :=
  ∃ D : DataW Value, w.ownsMap Yba.prog 2 RV b n D ∧ (∀ k, Maps.has D (kl k) = (f k).isSome) ∧ (∀ k v z, f k = some v → D.atKey (kl k) z = .held v) ∧ Maps.size D = sz

theorem K2 : Maps.Keyed Yba.prog 2 := Maps.int_keyed Yba.underlying2
theorem keyOf2 {k : Int} (hw : (Lit.int .i64 k).wf = true) : keyOf Yba.prog 2 (.int .i64 k) = some (kl k) := Maps.keyOf_int_mk Yba.underlying2 hw
theorem isKey (k : Int) : WideAt.IsKeyLit (kl k) := trivial

theorem MF.made (w : World) : MF (w.alloc (.map #[] 0)) w.heap.size 0 (fun _ => none) 0 :=
  ⟨.map [], World.ownsMap_made w Yba.prog 2 RV, fun _ => rfl, fun _ _ _ h => (nomatch h), rfl⟩

theorem MF.atKey {D : DataW Value} {f : Int → Option Value} (h1 : ∀ k, Maps.has D (kl k) = (f k).isSome) (h2 : ∀ k v z, f k = some v → D.atKey (kl k) z = .held v) (k : Int) (z : Value) :
    D.atKey (kl k) (.held z) = .held ((f k).getD z) := by
  cases hf : f k with
  | none => exact Maps.atKey_of_not_has (by rw [h1, hf]; rfl) _
  | some v => exact h2 k v _ hf

section
variable {w : World} {b n sz : Nat} {f : Int → Option Value} {t e : TypeId}

theorem MF.look (h : MF w b n f sz) (ht : Yba.prog.underlying t = some (.map 2 e)) {z : Value} (hz : (zeroValue e).run Yba.prog w = .ok z w) {k : Int} (hw : (Lit.int .i64 k).wf = true) :
    (Instr.lookup t (.map (some b)) (.int .i64 k) false).run Yba.prog w = .ok ((f k).getD z) w := by
  obtain ⟨D, ho, h1, h2, _⟩ := h
  obtain ⟨v, ps, hr, hv⟩ := ho.lookup K2 ht hz (zd := .held z) (zp := []) rfl (keyOf2 hw)
  rw [MF.atKey h1 h2] at hv
  simp only [RV, Option.some.injEq, Prod.mk.injEq, DataW.held.injEq] at hv
  rw [hr, hv.1]

theorem MF.look_ok (h : MF w b n f sz) (ht : Yba.prog.underlying t = some (.map 2 e)) {z : Value} (hz : (zeroValue e).run Yba.prog w = .ok z w) {k : Int} (hw : (Lit.int .i64 k).wf = true) :
    (Instr.lookup t (.map (some b)) (.int .i64 k) true).run Yba.prog w = .ok (.tuple #[(f k).getD z, .bool (f k).isSome]) w := by
  obtain ⟨D, ho, h1, h2, _⟩ := h
  obtain ⟨v, ps, hr, hv⟩ := ho.look_ok K2 ht hz (zd := .held z) (zp := []) rfl (keyOf2 hw)
  rw [MF.atKey h1 h2] at hv
  simp only [RV, Option.some.injEq, Prod.mk.injEq, DataW.held.injEq] at hv
  rw [hr, hv.1, h1]

theorem MF.len (h : MF w b n f sz) (ht : Yba.prog.underlying t = some (.map 2 e)) (ty : TypeId) :
    (Builtin.len_ #[t] ty #[.map (some b)]).run Yba.prog w = .ok (.int .i64 sz) w := by
  obtain ⟨D, ho, h1, h2, rfl⟩ := h
  exact ho.len ht ty

theorem MF.le (h : MF w b n f sz) : sz ≤ n := by
  obtain ⟨D, ho, h1, h2, rfl⟩ := h
  exact ho.size_le

theorem MF.lt (h : MF w b n f sz) : b < w.heap.size := by
  obtain ⟨D, ho, _⟩ := h
  exact ho.lt

theorem MF.of_block (h : MF w b n f sz) {w' : World} (e : w'.heap[b]? = w.heap[b]?) : MF w' b n f sz := by
  obtain ⟨D, ⟨es, clock, hb, r⟩, r2⟩ := h
  exact ⟨D, ⟨es, clock, e.trans hb, r⟩, r2⟩

/-- The map with one key set. -/
def setKey (f : Int → Option Value) (k : Int) (v : Value) : Int → Option Value := fun j => if j = k then some v else f j
def delKey (f : Int → Option Value) (k : Int) : Int → Option Value := fun j => if j = k then none else f j

theorem kl_ne {j k : Int} (h : j ≠ k) : kl j ≠ kl k := fun e => h (by injection e)

theorem MF.store (h : MF w b n f sz) (ht : Yba.prog.underlying t = some (.map 2 e)) (hn : n < maxLen) {k : Int} (hw : (Lit.int .i64 k).wf = true) (v : Value) :
    ∃ w', (Instr.mapUpdate t (.map (some b)) (.int .i64 k) v).run Yba.prog w = .ok () w' ∧ MF w' b (n + 1) (setKey f k v) (if (f k).isSome then sz else sz + 1) ∧ w.mapTurned w' b := by
  obtain ⟨D, ho, h1, h2, rfl⟩ := h
  obtain ⟨w', hr, ho', ht'⟩ := ho.store K2 ht hn (keyOf2 hw) (d := .held v) (ps := []) (val := v) rfl
  refine ⟨w', hr, ⟨_, ho', fun j => ?_, fun j u z hj => ?_, ?_⟩, ht'⟩
  · by_cases e : j = k
    · subst e
      rw [Maps.has_put_same ho.isMap (isKey _)]
      simp [setKey]
    · rw [Maps.has_put_other (kl_ne e), h1]
      simp [setKey, e]
  · by_cases e : j = k
    · subst e
      rw [Maps.atKey_put_same ho.isMap (isKey _)]
      simp [setKey] at hj
      rw [hj]
    · rw [Maps.atKey_put_other (kl_ne e)]
      simp [setKey, e] at hj
      exact h2 j u z hj
  · rw [Maps.size_put (ho.tidy K2), h1]

theorem MF.drop (h : MF w b n f sz) (ht : Yba.prog.underlying t = some (.map 2 e)) {k : Int} (hw : (Lit.int .i64 k).wf = true) (ty : TypeId) :
    ∃ w', (Builtin.delete_ #[t, 2] ty #[.map (some b), .int .i64 k]).run Yba.prog w = .ok (.tuple #[]) w' ∧ MF w' b n (delKey f k) (if (f k).isSome then sz - 1 else sz) ∧ w.mapTurned w' b := by
  obtain ⟨D, ho, h1, h2, rfl⟩ := h
  obtain ⟨w', hr, ho', ht'⟩ := ho.drop K2 ht (keyOf2 hw) ty
  refine ⟨w', hr, ⟨_, ho', fun j => ?_, fun j u z hj => ?_, ?_⟩, ht'⟩
  · by_cases e : j = k
    · subst e
      rw [Maps.has_del_same]
      simp [delKey]
    · rw [Maps.has_del_other (kl_ne e), h1]
      simp [delKey, e]
  · by_cases e : j = k
    · subst e
      simp [delKey] at hj
    · rw [Maps.atKey_del_other (kl_ne e)]
      simp [delKey, e] at hj
      exact h2 j u z hj
  · have := Maps.size_del (k := kl k) (ho.tidy K2)
    rw [h1] at this
    split at this <;> simp_all <;> omega
end
end Go.Proofs.Ybulkgdpq
