import Derived.Test.YbulkgdpqS5
namespace Go.Proofs.Ybulkgdpq
open Go.RowKit Go.Conc Go.MuLone Go.ChangeMaps

theorem wpList_build_to {P : Program} {ops : Array Oper} {rest : List Oper} {o : Oper} {a : Act} {w : World} {Q : Exit → Act → World → Prop} (hg : o.guard = none) (t : TypeId) (parts : Array (Nat × Operand)) (ho : o.op = .build t parts)
    (cs : Array Value) (hb : P.built t (parts.map fun (i, x) => (i, a.eval x)).toList = some cs)
    (h : wpList P ops Q rest (a.put o.dst (.agg cs)) w) : wpList P ops Q (o :: rest) a w :=
  wpList_build hg t parts ho (by rw [hb]; rfl) (by rw [hb]; exact h)
theorem svc_ex (bd br : Nat) : ∃ cs : Array Value, Yba.prog.built 62 [(21, .map (some bd)), (22, .map (some br))] = some cs ∧ cs[21]? = some (.int .i32 0) ∧ cs[26]? = some (.map (some bd)) ∧ cs[27]? = some (.map (some br)) :=
  ⟨(Yba.prog.built 62 [(21, .map (some bd)), (22, .map (some br))]).getD #[], by kernel_rfl, by kernel_rfl, by kernel_rfl, by kernel_rfl⟩
theorem box_svc (cs : Array Value) (w : World) : (Instr.box 62 (.agg cs)).run Yba.prog w = .ok (.pointer (some ⟨w.heap.size, 0, none⟩)) (w.alloc (.cells cs 62)) := by kernel_rfl

theorem Svc.of {w : World} {S : Nat} {cs : Array Value} {bd br : Nat} (hb : w.heap[S]? = some (.cells cs 62)) (h1 : cs[21]? = some (.int .i32 0)) (h2 : cs[26]? = some (.map (some bd))) (h3 : cs[27]? = some (.map (some br))) :
    Svc w S bd br := by
  refine ⟨?_, ?_, ?_, ?_⟩
  · simp [World.cell?, hb, h1]
  · simp [World.frozen?, hb]
  · simp [World.cell?, hb, h2]
  · simp [World.cell?, hb, h3]

theorem Svc.made (w : World) {cs : Array Value} {bd br : Nat} (h1 : cs[21]? = some (.int .i32 0)) (h2 : cs[26]? = some (.map (some bd))) (h3 : cs[27]? = some (.map (some br))) :
    Svc (w.alloc (.cells cs 62)) w.heap.size bd br := Svc.of (Go.Deep.blk_alloc_new w _) h1 h2 h3

theorem MF.pos {w : World} {b n sz : Nat} {f : Int → Option Value} (h : MF w b n f sz) {k : Int} (hk : (f k).isSome = true) : 0 < sz := by
  obtain ⟨D, ho, h1, h2, rfl⟩ := h
  have := Maps.size_del (k := kl k) (ho.tidy K2)
  rw [h1, hk] at this
  simp at this
  omega

/-- Does the call remove the key? -/
def remOf (fd : Int → Option Value) (k : Int) : Bool := match fd k with
  | some (.chan (some _)) => true
  | _ => false

theorem remOf_true {fd : Int → Option Value} {k : Int} (h : remOf fd k = true) : ∃ c, fd k = some (.chan (some c)) := by
  unfold remOf at h
  split at h
  · exact ⟨_, by assumption⟩
  · cases h
theorem remOf_some {fd : Int → Option Value} {k : Int} {c : Nat} (h : fd k = some (.chan (some c))) : remOf fd k = true := by
  unfold remOf
  rw [h]

theorem remOf_eq {fd : Int → Option Value} {k : Int} {din : Bool} {sa : Option Nat} (h1 : (fd k).isSome = din) (h2 : (fd k).getD (.chan none) = .chan sa) : remOf fd k = (din && sa.isSome) := by
  cases hf : fd k with
  | none =>
    rw [hf] at h1 h2
    obtain rfl : false = din := h1
    simp [remOf, hf]
  | some v =>
    rw [hf] at h1 h2
    obtain rfl : v = .chan sa := h2
    obtain rfl : true = din := h1
    cases sa <;> simp [remOf, hf]

/-- What stands behind the call. -/
structure Fin (W : World) (bd br pb qb n0 n2 : Nat) (ks rs : Nat → Int) (fd fr : Int → Option Value) (szd szr : Nat) (st : Int) (w : World) : Prop where
  bel : Below W.heap.size W w
  pre : w.rowIs pb 25 n0 (preF fd (.chan none) ks n0)
  prr : w.rowIs qb 4 n2 (preF fr (.bool false) rs n2)
  md : MF w bd n0 (if remOf fd st then delKey fd st else fd) (if remOf fd st then szd - 1 else szd)
  mr : MF w br n2 (if remOf fd st then delKey fr st else fr) (if remOf fd st then (if (fr st).isSome then szr - 1 else szr) else szr)
  isopen : ∀ k c, ¬ (remOf fd st = true ∧ k = st) → fd k = some (.chan (some c)) → w.heap[c]? = some openCh
  shut : ∀ c, fd st = some (.chan (some c)) → w.heap[c]? = some shutCh
  kindd : ∀ k v, fd k = some v → ∃ a, v = .chan a
  kindr : ∀ j v, fr j = some v → ∃ b, v = .bool b
  alld : ∀ i, i < n0 → (fd (ks i)).isSome = true
  allr : ∀ i, i < n2 → (fr (rs i)).isSome = true

section
variable {W w w' : World} {bd br pb qb n0 n2 szd szr : Nat} {ks rs : Nat → Int} {fd fr : Int → Option Value} {st : Int}

theorem heap_lt {w : World} {c : Nat} {o : Obj} (h : w.heap[c]? = some o) : c < w.heap.size := (Array.getElem?_eq_some_iff.1 h).1

theorem Fin.of_below (h : Fin W bd br pb qb n0 n2 ks rs fd fr szd szr st w) (hb : Below w.heap.size w w') : Fin W bd br pb qb n0 n2 ks rs fd fr szd szr st w' :=
  ⟨h.bel.trans (hb.mono h.bel.size), h.pre.of_block (hb.block _ h.pre.lt), h.prr.of_block (hb.block _ h.prr.lt), h.md.of_block (hb.block _ h.md.lt), h.mr.of_block (hb.block _ h.mr.lt),
    fun k c hk hc => (hb.block _ (heap_lt (h.isopen k c hk hc))).trans (h.isopen k c hk hc), fun c hc => (hb.block _ (heap_lt (h.shut c hc))).trans (h.shut c hc), h.kindd, h.kindr, h.alld, h.allr⟩

theorem Mid.kindd (h : Mid W bd br pb qb n0 n2 ks rs fd fr szd szr w) : ∀ k v, fd k = some v → ∃ a, v = .chan a := fun k v hk => by
  rcases h.two.ok.kind k v hk with rfl | ⟨c, rfl⟩
  · exact ⟨_, rfl⟩
  · exact ⟨_, rfl⟩

theorem Mid.of_below (h : Mid W bd br pb qb n0 n2 ks rs fd fr szd szr w) (hb : Below w.heap.size w w') : Mid W bd br pb qb n0 n2 ks rs fd fr szd szr w' :=
  ⟨h.two.of_below hb, h.lp, h.lq, h.pre.of_block (hb.block _ h.pre.lt), h.prr.of_block (hb.block _ h.prr.lt)⟩

theorem Frm.below {m : Nat → Prop} (hb : Below W.heap.size W w) (hf : Frm w w' m) (hm : ∀ k, m k → W.heap.size ≤ k) : Below W.heap.size W w' :=
  hb.trans ⟨hf.os, hf.tape, hf.output, Nat.le_of_eq hf.size.symm, fun k hk => hf.block k (fun e => by have := hm k e; omega)⟩

theorem end_any (h0 : Mid W bd br pb qb n0 n2 ks rs fd fr szd szr w) {cs : Array Value} (h1 : cs[21]? = some (.int .i32 0)) (h2 : cs[26]? = some (.map (some bd))) (h3 : cs[27]? = some (.map (some br))) (hst : (Lit.int .i64 st).wf = true) :
    Calls Yba.prog 4 #[.pointer (some ⟨w.heap.size, 0, none⟩), .int .i64 st] (w.alloc (.cells cs 62)) fun e w' => e = .returned (.tuple #[]) ∧ Fin W bd br pb qb n0 n2 ks rs fd fr szd szr st w' := by
  have h := h0.of_below (w' := w.alloc (.cells cs 62)) ((Below.refl _ _).alloc (Nat.le_refl _) _)
  have hS := Svc.made w h1 h2 h3
  have ld := h0.two.md.lt
  have lr := h0.two.mr.lt
  have lp := h0.pre.lt
  have lq := h0.prr.lt
  have hge := h0.two.ge
  have hdr := h0.two.lt
  have hpr := h0.lp
  have hqr := h0.lq
  have hws := h0.two.bel.size
  cases hr : remOf fd st with
  | true =>
    obtain ⟨c, hc⟩ := remOf_true hr
    have ho := h.two.ok.isopen st c hc
    have hlo := h.two.lo st c hc
    refine (end_some w.heap.size bd br n0 szd n2 szr c fd fr st _ hst hS h.two.md h.two.mr hc ho.2 (by omega) (by omega) (by omega) (by omega) (by omega) (by omega)).mono ?_
    rintro e w' ⟨rfl, hF, hd, hrr, hsh⟩
    refine ⟨rfl, Frm.below h.two.bel hF (by rintro k (rfl | rfl | rfl | rfl) <;> omega), h.pre.of_block (hF.block _ (by omega)), h.prr.of_block (hF.block _ (by omega)), ?_, ?_, ?_, ?_, h.kindd, h.two.kind, h.two.alld, h.two.allr⟩
    · simp only [hr, if_true]; exact hd
    · simp only [hr, if_true]; exact hrr
    · intro k c' hk hc'
      have hks : k ≠ st := fun e => hk ⟨hr, e⟩
      have ho' := h.two.ok.isopen k c' hc'
      have hlo' := h.two.lo k c' hc'
      have hne : c' ≠ c := by
        rintro rfl
        exact hks (h.two.ok.inj k st _ hc' hc)
      rw [hF.block c' (by omega)]
      exact ho'.2
    · intro c' hc'
      rw [hc] at hc'
      injection hc' with e
      injection e with e
      injection e with e
      subst e
      exact hsh
  | false =>
    have hf : (fd st).getD (.chan none) = .chan none := by
      cases hq : fd st with
      | none => rfl
      | some v =>
        rcases h.two.ok.kind st v hq with rfl | ⟨c, rfl⟩
        · rfl
        · rw [remOf_some hq] at hr
          cases hr
    refine (end_none w.heap.size bd br n0 szd fd st _ hst hS (by omega) h.two.md hf).mono ?_
    rintro e w' ⟨rfl, hF⟩
    refine ⟨rfl, Frm.below h.two.bel hF (by rintro k rfl; omega), h.pre.of_block (hF.block _ (by omega)), h.prr.of_block (hF.block _ (by omega)), ?_, ?_, ?_, ?_, h.kindd, h.two.kind, h.two.alld, h.two.allr⟩
    · simp only [hr]; exact h.two.md.of_block (hF.block _ (by omega))
    · simp only [hr]; exact h.two.mr.of_block (hF.block _ (by omega))
    · intro k c' hk hc'
      have hlo' := h.two.lo k c' hc'
      rw [hF.block c' (by omega)]
      exact (h.two.ok.isopen k c' hc').2
    · intro c' hc'
      rw [remOf_some hc'] at hr
      cases hr

/-- A round of loop 5. -/
theorem Fin.at5 (h : Fin W bd br pb qb n0 n2 ks rs fd fr szd szr st w) {i : Nat} (hi : i < n0) (hw : (Lit.int .i64 (ks i)).wf = true) (hs : ¬ (remOf fd st = true ∧ ks i = st)) :
    ∃ a, (Instr.lookup 24 (.map (some bd)) (.int .i64 (ks i)) true).run Yba.prog w = .ok (.tuple #[.chan a, .bool true]) w ∧ w.cell? ⟨pb, i, none⟩ = some (.chan a) ∧ ∀ c, a = some c → w.heap[c]? = some openCh := by
  obtain ⟨v, hv⟩ := Option.isSome_iff_exists.1 (h.alld i hi)
  obtain ⟨a, rfl⟩ := h.kindd _ _ hv
  have hlk := h.md.look_ok Yba.underlying24 (zero25 _) hw
  have e : (if remOf fd st = true then delKey fd st else fd) (ks i) = some (.chan a) := by
    cases hr : remOf fd st with
    | true =>
      have : ks i ≠ st := fun e => hs ⟨hr, e⟩
      simp [delKey, this, hv]
    | false => simpa using hv
  rw [e] at hlk
  refine ⟨a, hlk, ?_, ?_⟩
  · have := h.pre.cell hi
    rw [this]
    simp [preF, hi, hv]
  · rintro c rfl
    exact h.isopen _ _ hs hv

/-- A round of loop 6. -/
theorem Fin.at6 (h : Fin W bd br pb qb n0 n2 ks rs fd fr szd szr st w) {i : Nat} (hi : i < n2) (hw : (Lit.int .i64 (rs i)).wf = true) (hs : ¬ (remOf fd st = true ∧ rs i = st)) :
    ∃ b, (Instr.lookup 26 (.map (some br)) (.int .i64 (rs i)) true).run Yba.prog w = .ok (.tuple #[.bool b, .bool true]) w ∧ w.cell? ⟨qb, i, none⟩ = some (.bool b) := by
  obtain ⟨v, hv⟩ := Option.isSome_iff_exists.1 (h.allr i hi)
  obtain ⟨a, rfl⟩ := h.kindr _ _ hv
  have hlk := h.mr.look_ok Yba.underlying26 (zero4 _) hw
  have e : (if remOf fd st = true then delKey fr st else fr) (rs i) = some (.bool a) := by
    cases hr : remOf fd st with
    | true =>
      have : rs i ≠ st := fun e => hs ⟨hr, e⟩
      simp [delKey, this, hv]
    | false => simpa using hv
  rw [e] at hlk
  refine ⟨a, hlk, ?_⟩
  have := h.prr.cell hi
  rw [this]
  simp [preF, hi, hv]
end
end Go.Proofs.Ybulkgdpq
