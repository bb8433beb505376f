import Derived.Test.YbulkgdpqS3
import Derived.Deep.OwnRows
import Derived.OpenShut
namespace Go.Proofs.Ybulkgdpq
open Go.RowKit Go.Conc Go.MuLone Go.ChangeMaps

/-- A slice of int64 that came in; the walk reads it by the run of the index op, so nil is no case of its own. -/
structure Ints (w : World) (a : Option Addr) (n cap b off : Nat) (ks : Nat → Int) : Prop where
  ix : ∀ i, i < n → ∀ w', (Instr.indexAt 22 (.slice a n cap) (.int .i64 (i : Int))).run Yba.prog w' = .ok (.pointer (some ⟨b, off + i, none⟩)) w'
  cell : ∀ i, i < n → w.cell? ⟨b, off + i, none⟩ = some (.int .i64 (ks i))
  lt : ∀ i, i < n → b < w.heap.size
  wf : ∀ i, i < n → (Lit.int .i64 (ks i)).wf = true

structure Bools (w : World) (a : Option Addr) (n cap b off : Nat) (bs : Nat → Bool) : Prop where
  ix : ∀ i, i < n → ∀ w', (Instr.indexAt 23 (.slice a n cap) (.int .i64 (i : Int))).run Yba.prog w' = .ok (.pointer (some ⟨b, off + i, none⟩)) w'
  cell : ∀ i, i < n → w.cell? ⟨b, off + i, none⟩ = some (.bool (bs i))
  lt : ∀ i, i < n → b < w.heap.size

theorem Ints.carry {w : World} {a : Option Addr} {n cap b off : Nat} {ks : Nat → Int} (h : Ints w a n cap b off ks) {w' : World} (hb : Below w.heap.size w w') {i : Nat} (hi : i < n) :
    w'.cell? ⟨b, off + i, none⟩ = some (.int .i64 (ks i)) := (hb.cell (h.lt i hi)).trans (h.cell i hi)
theorem Bools.carry {w : World} {a : Option Addr} {n cap b off : Nat} {ks : Nat → Bool} (h : Bools w a n cap b off ks) {w' : World} (hb : Below w.heap.size w w') {i : Nat} (hi : i < n) :
    w'.cell? ⟨b, off + i, none⟩ = some (.bool (ks i)) := (hb.cell (h.lt i hi)).trans (h.cell i hi)

abbrev openCh : Obj := .chan 0 #[] false 0 0 false
abbrev shutCh : Obj := .chan 0 #[] true 0 0 false

theorem run_make_chan (w : World) : (Instr.makeChan 25 (.int .i64 0)).run Yba.prog w = .ok (.chan (some w.heap.size)) (w.alloc openCh) := by kernel_rfl

/-- The map of channels: nil, or an open channel that no other key holds. -/
structure DecOk (w : World) (bd : Nat) (fd : Int → Option Value) : Prop where
  kind : ∀ k v, fd k = some v → v = .chan none ∨ ∃ c, v = .chan (some c)
  isopen : ∀ k c, fd k = some (.chan (some c)) → bd < c ∧ w.heap[c]? = some openCh
  inj : ∀ j k c, fd j = some (.chan (some c)) → fd k = some (.chan (some c)) → j = k

theorem DecOk.of_block {w w' : World} {bd : Nat} {fd : Int → Option Value} (h : DecOk w bd fd) (e : ∀ c, bd < c → c < w.heap.size → w'.heap[c]? = w.heap[c]?) : DecOk w' bd fd :=
  ⟨h.kind, fun k c hk => ⟨(h.isopen k c hk).1, by
    have ho := (h.isopen k c hk).2
    rw [e c (h.isopen k c hk).1 (Array.getElem?_eq_some_iff.1 ho).1, ho]⟩, h.inj⟩

theorem DecOk.setNil {w : World} {bd : Nat} {fd : Int → Option Value} (h : DecOk w bd fd) (k : Int) : DecOk w bd (setKey fd k (.chan none)) := by
  refine ⟨fun j v hj => ?_, fun j c hj => ?_, fun i j c hi hj => ?_⟩
  · by_cases e : j = k
    · simp [setKey, e] at hj
      exact Or.inl hj.symm
    · simp [setKey, e] at hj
      exact h.kind j v hj
  · by_cases e : j = k
    · simp [setKey, e] at hj
    · simp [setKey, e] at hj
      exact h.isopen j c hj
  · by_cases e : i = k
    · simp [setKey, e] at hi
    · by_cases e' : j = k
      · simp [setKey, e'] at hj
      · simp [setKey, e] at hi
        simp [setKey, e'] at hj
        exact h.inj i j c hi hj

theorem DecOk.setNew {w : World} {bd : Nat} {fd : Int → Option Value} (h : DecOk w bd fd) (k : Int) (hbd : bd < w.heap.size) : DecOk (w.alloc openCh) bd (setKey fd k (.chan (some w.heap.size))) := by
  have hne : ∀ j c, fd j = some (.chan (some c)) → c < w.heap.size := fun j c hj => (Array.getElem?_eq_some_iff.1 (h.isopen j c hj).2).1
  refine ⟨fun j v hj => ?_, fun j c hj => ?_, fun i j c hi hj => ?_⟩
  · by_cases e : j = k
    · simp [setKey, e] at hj
      exact Or.inr ⟨_, hj.symm⟩
    · simp [setKey, e] at hj
      exact h.kind j v hj
  · by_cases e : j = k
    · simp [setKey, e] at hj
      subst hj
      exact ⟨hbd, Go.Deep.blk_alloc_new _ _⟩
    · simp [setKey, e] at hj
      exact ⟨(h.isopen j c hj).1, by rw [Below.heap_alloc _ _ _ (hne j c hj)]; exact (h.isopen j c hj).2⟩
  · by_cases e : i = k
    · by_cases e' : j = k
      · rw [e, e']
      · simp [setKey, e] at hi
        simp [setKey, e'] at hj
        have := hne j c hj
        omega
    · by_cases e' : j = k
      · simp [setKey, e] at hi
        simp [setKey, e'] at hj
        have := hne i c hi
        omega
      · simp [setKey, e] at hi
        simp [setKey, e'] at hj
        exact h.inj i j c hi hj

/-- Loop 1: the first k keys have been put into the map of channels. -/
structure L1 (W : World) (bd k : Nat) (ks : Nat → Int) (fd : Int → Option Value) (sz : Nat) (w : World) : Prop where
  bel : Below W.heap.size W w
  ge : W.heap.size ≤ bd
  mf : MF w bd k fd sz
  ok : DecOk w bd fd
  all : ∀ i, i < k → (fd (ks i)).isSome = true

theorem turned_below {B : Nat} {W w w' : World} {b : Nat} (h : Below B W w) (ht : w.mapTurned w' b) (hB : B ≤ b) : Below B W w' := by
  have hf := Frm.turned ht
  exact h.trans ⟨hf.os, hf.tape, hf.output, Nat.le_of_eq hf.size.symm, fun k hk => hf.block k (by omega)⟩

theorem all_set {k : Nat} {ks : Nat → Int} {fd : Int → Option Value} (h : ∀ i, i < k → (fd (ks i)).isSome = true) (v : Value) : ∀ i, i < k + 1 → (setKey fd (ks k) v (ks i)).isSome = true := by
  intro i hi
  by_cases e : ks i = ks k
  · simp [setKey, e]
  · simp [setKey, e]
    refine h i ?_
    have : i ≠ k := fun e' => e (by rw [e'])
    omega

theorem L1.start (W : World) (ks : Nat → Int) : L1 W W.heap.size 0 ks (fun _ => none) 0 (W.alloc (.map #[] 0)) :=
  ⟨(Below.refl _ W).alloc (Nat.le_refl _) _, Nat.le_refl _, MF.made W, ⟨fun _ _ h => (nomatch h), fun _ _ h => (nomatch h), fun _ _ _ h => (nomatch h)⟩, fun _ h => absurd h (Nat.not_lt_zero _)⟩

theorem L1.nil {W w : World} {bd k sz : Nat} {ks : Nat → Int} {fd : Int → Option Value} (h : L1 W bd k ks fd sz w) (hk : k < maxLen) (hw : (Lit.int .i64 (ks k)).wf = true) :
    ∃ w', (Instr.mapUpdate 24 (.map (some bd)) (.int .i64 (ks k)) (.chan none)).run Yba.prog w = .ok () w' ∧ ∃ fd' sz', L1 W bd (k + 1) ks fd' sz' w' := by
  obtain ⟨w', hr, hm, ht⟩ := h.mf.store Yba.underlying24 hk hw (.chan none)
  have hf := Frm.turned ht
  exact ⟨w', hr, _, _, turned_below h.bel ht h.ge, h.ge, hm, (h.ok.setNil (ks k)).of_block (fun c hc _ => hf.block c (by omega)), all_set h.all _⟩

theorem L1.new {W w : World} {bd k sz : Nat} {ks : Nat → Int} {fd : Int → Option Value} (h : L1 W bd k ks fd sz w) (hk : k < maxLen) (hw : (Lit.int .i64 (ks k)).wf = true) :
    ∃ w', (Instr.mapUpdate 24 (.map (some bd)) (.int .i64 (ks k)) (.chan (some w.heap.size))).run Yba.prog (w.alloc openCh) = .ok () w' ∧ ∃ fd' sz', L1 W bd (k + 1) ks fd' sz' w' := by
  have hlt := h.mf.lt
  have hm0 : MF (w.alloc openCh) bd k fd sz := h.mf.of_block (Below.heap_alloc _ _ _ hlt)
  obtain ⟨w', hr, hm, ht⟩ := hm0.store Yba.underlying24 hk hw (.chan (some w.heap.size))
  have hf := Frm.turned ht
  have hb0 : Below W.heap.size W (w.alloc openCh) := h.bel.alloc h.bel.size _
  exact ⟨w', hr, _, _, turned_below hb0 ht h.ge, h.ge, hm, (h.ok.setNew (ks k) hlt).of_block (fun c hc _ => hf.block c (by omega)), all_set h.all _⟩

/-- Loop 2: the first k keys have been put into the map of bools; the map of channels is as it was. -/
structure L2 (W : World) (br k : Nat) (rs : Nat → Int) (fr : Int → Option Value) (sz : Nat) (w : World) : Prop where
  bel : Below W.heap.size W w
  ge : W.heap.size ≤ br
  mf : MF w br k fr sz
  kind : ∀ j v, fr j = some v → ∃ b, v = .bool b
  all : ∀ i, i < k → (fr (rs i)).isSome = true

theorem L2.start (W : World) (rs : Nat → Int) : L2 W W.heap.size 0 rs (fun _ => none) 0 (W.alloc (.map #[] 0)) :=
  ⟨(Below.refl _ W).alloc (Nat.le_refl _) _, Nat.le_refl _, MF.made W, fun _ _ h => (nomatch h), fun _ h => absurd h (Nat.not_lt_zero _)⟩

theorem L2.put {W w : World} {br k sz : Nat} {rs : Nat → Int} {fr : Int → Option Value} (h : L2 W br k rs fr sz w) (hk : k < maxLen) (hw : (Lit.int .i64 (rs k)).wf = true) (b : Bool) :
    ∃ w', (Instr.mapUpdate 26 (.map (some br)) (.int .i64 (rs k)) (.bool b)).run Yba.prog w = .ok () w' ∧ ∃ fr' sz', L2 W br (k + 1) rs fr' sz' w' := by
  obtain ⟨w', hr, hm, ht⟩ := h.mf.store Yba.underlying26 hk hw (.bool b)
  refine ⟨w', hr, _, _, turned_below h.bel ht h.ge, h.ge, hm, fun j v hj => ?_, all_set h.all _⟩
  by_cases e : j = rs k
  · simp [setKey, e] at hj
    exact ⟨b, hj.symm⟩
  · simp [setKey, e] at hj
    exact h.kind j v hj
end Go.Proofs.Ybulkgdpq
