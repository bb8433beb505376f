import Derived.Test.YbulkgdpqS4
namespace Go.Proofs.Ybulkgdpq
open Go.RowKit Go.Conc Go.MuLone Go.ChangeMaps

theorem info25 : (Yba.prog.info? 25).map (fun i => (i.zero, i.size, i.bytes)) = some (some (.chan none), 1, 8) := by kernel_rfl
theorem info4 : (Yba.prog.info? 4).map (fun i => (i.zero, i.size, i.bytes)) = some (some (.bool false), 1, 1) := by kernel_rfl

/-- Both maps stand. -/
structure Two (W : World) (bd br n0 n2 : Nat) (ks rs : Nat → Int) (fd fr : Int → Option Value) (szd szr : Nat) (w : World) : Prop where
  bel : Below W.heap.size W w
  ge : W.heap.size ≤ bd
  lt : bd < br
  md : MF w bd n0 fd szd
  mr : MF w br n2 fr szr
  ok : DecOk w bd fd
  lo : ∀ k c, fd k = some (.chan (some c)) → c < br
  kind : ∀ j v, fr j = some v → ∃ b, v = .bool b
  alld : ∀ i, i < n0 → (fd (ks i)).isSome = true
  allr : ∀ i, i < n2 → (fr (rs i)).isSome = true

theorem Two.of {W wA w : World} {bd n0 n2 szd szr : Nat} {ks rs : Nat → Int} {fd fr : Int → Option Value} (h1 : L1 W bd n0 ks fd szd wA) (h2 : L2 wA wA.heap.size n2 rs fr szr w) :
    Two W bd wA.heap.size n0 n2 ks rs fd fr szd szr w :=
  ⟨h1.bel.trans (h2.bel.mono h1.bel.size), h1.ge, h1.mf.lt, h1.mf.of_block (h2.bel.block _ h1.mf.lt), h2.mf, h1.ok.of_block (fun c _ hc => h2.bel.block c hc),
    fun k c hk => (Array.getElem?_eq_some_iff.1 (h1.ok.isopen k c hk).2).1, h2.kind, h1.all, h2.all⟩

section
variable {W w w' : World} {bd br n0 n2 szd szr : Nat} {ks rs : Nat → Int} {fd fr : Int → Option Value}

theorem Two.of_below (h : Two W bd br n0 n2 ks rs fd fr szd szr w) (hb : Below w.heap.size w w') : Two W bd br n0 n2 ks rs fd fr szd szr w' :=
  ⟨h.bel.trans (hb.mono h.bel.size), h.ge, h.lt, h.md.of_block (hb.block _ h.md.lt), h.mr.of_block (hb.block _ h.mr.lt), h.ok.of_block (fun c _ hc => hb.block c hc), h.lo, h.kind, h.alld, h.allr⟩

theorem Two.chan (h : Two W bd br n0 n2 ks rs fd fr szd szr w) (k : Int) : ∃ a, (fd k).getD (.chan none) = .chan a := by
  cases hf : fd k with
  | none => exact ⟨_, rfl⟩
  | some v =>
    rcases h.ok.kind k v hf with rfl | ⟨c, rfl⟩
    · exact ⟨_, rfl⟩
    · exact ⟨_, rfl⟩

theorem Two.bool (h : Two W bd br n0 n2 ks rs fd fr szd szr w) (k : Int) : ∃ b, (fr k).getD (.bool false) = .bool b := by
  cases hf : fr k with
  | none => exact ⟨_, rfl⟩
  | some v =>
    obtain ⟨b, rfl⟩ := h.kind k v hf
    exact ⟨_, rfl⟩
end

/-- What pre and preRun hold behind k rounds. -/
def preF (fd : Int → Option Value) (z : Value) (ks : Nat → Int) (k : Nat) : Nat → Value := fun i => if i < k then (fd (ks i)).getD z else z

theorem pre_set {w : World} {b : Nat} {t : TypeId} {n k : Nat} {fd : Int → Option Value} {z v : Value} {ks : Nat → Int} (h : w.rowIs b t n (preF fd z ks k)) (hv : (fd (ks k)).getD z = v) :
    (w.setCell ⟨b, k, none⟩ v).rowIs b t n (preF fd z ks (k + 1)) := by
  refine (h.set k v).congr (fun i hi => ?_)
  unfold preF
  by_cases e : i = k
  · subst e
    simp [hv]
  · have : (i < k + 1) = (i < k) := by apply propext; omega
    simp [e, this]

theorem pre_made (w : World) (b : Nat) (t : TypeId) (n : Nat) (fd : Int → Option Value) (z : Value) (ks : Nat → Int) (hb : w.heap.size = b) : (w.alloc (.cells (madeCells #[z] n) t)).rowIs b t n (preF fd z ks 0) := by
  subst hb
  exact (World.rowIs_made w z n t).congr (fun i _ => by simp [preF])

/-- All that stands ahead of the service. -/
structure Mid (W : World) (bd br pb qb n0 n2 : Nat) (ks rs : Nat → Int) (fd fr : Int → Option Value) (szd szr : Nat) (w : World) : Prop where
  two : Two W bd br n0 n2 ks rs fd fr szd szr w
  lp : br < pb
  lq : br < qb
  pre : w.rowIs pb 25 n0 (preF fd (.chan none) ks n0)
  prr : w.rowIs qb 4 n2 (preF fr (.bool false) rs n2)
end Go.Proofs.Ybulkgdpq
