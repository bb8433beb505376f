import Derived.Test.YbulkgdxsFmtH1
namespace Go.Proofs.YbulkgdxsFmt
open Go.RowKit Go.Extern.Stop Go.Stop Go.Extern

/-- The fund's own block: its name and its classes. -/
structure FundBlk (w : World) (f g : Nat) (fname : ByteArray) (xs : List ByteArray) : Prop where
  name : w.cell? ⟨f, 0, none⟩ = some (.string fname)
  classes : w.cell? ⟨f, 7, none⟩ = some (.slice (some ⟨g, 0, none⟩) xs.length xs.length)
  blk : ClsBlk w g xs

theorem FundBlk.below {w w' : World} {B f g : Nat} {fname : ByteArray} {xs : List ByteArray} (h : FundBlk w f g fname xs) (hb : Below B w w') (hf : f < B) (hg : g < B) : FundBlk w' f g fname xs :=
  ⟨(hb.cell hf).trans h.name, (hb.cell hf).trans h.classes, h.blk.below hb hg⟩

/-- What Class answers. -/
def ClassRes (xs : List ByteArray) (nm : ByteArray) (g : Nat) (p b : Value) : Prop :=
  (∃ i : Nat, i < xs.length ∧ hasAt xs nm i = true ∧ p = .pointer (some ⟨g, i * 19, none⟩) ∧ b = .bool true) ∨
  ((∀ i, i < xs.length → hasAt xs nm i = false) ∧ p = .pointer none ∧ b = .bool false)

set_option maxRecDepth 100000 in
set_option maxHeartbeats 1600000 in
theorem class_any (xs : List ByteArray) (nm fname : ByteArray) (f g : Nat) (w : World) (hn : xs.length ≤ 1048576) (hF : FundBlk w f g fname xs) :
    Calls Ybaf.prog 12 #[.pointer (some ⟨f, 0, none⟩), .string nm] w fun e w' => (∃ p b, e = .returned (.tuple #[p, b]) ∧ ClassRes xs nm g p b) ∧ Below w.heap.size w w' := by
  have h0 := hF.name
  have h7 := hF.classes
  have hfl : f < w.heap.size := World.block_lt_of_cell? w _ h0
  have hgl : g < w.heap.size := World.rowIs.lt hF.blk
  have hb0 : Below w.heap.size w (w.alloc (.cells #[.string nm] 9)) := (Below.refl _ _).alloc (Nat.le_refl _) _
  go_enter Ybaf.func12, Ybaf.ntmps12
  go_wp2_with fail
  refine (index_func xs nm g w.heap.size _ hn (hF.blk.below hb0 hgl) (by go_simp)).mono ?_
  rintro e w3 ⟨⟨r, rfl, hr⟩, hb3⟩
  have hb4 : Below w.heap.size w w3 := hb0.trans (hb3.mono hb0.size)
  have h7' : w3.cell? ⟨f, 7, none⟩ = some (.slice (some ⟨g, 0, none⟩) xs.length xs.length) := (hb4.cell hfl).trans h7
  rcases hr with ⟨i, hi, rfl, hat⟩ | ⟨rfl, hno⟩
  · have hi' : (i : Int) < xs.length := by omega
    generalize hnn : xs.length = n at *
    go_wp2
    go_ret2
    exact ⟨⟨_, _, rfl, Or.inl ⟨i, by omega, hat, rfl, rfl⟩⟩, hb4⟩
  · go_wp2
    go_ret2
    exact ⟨⟨_, _, rfl, Or.inr ⟨hno, rfl, rfl⟩⟩, hb4⟩

set_option maxRecDepth 100000 in
set_option maxHeartbeats 3200000 in
theorem class_or_error (F : Interp) (xs : List ByteArray) (nm fname : ByteArray) (f g : Nat) (w : World) (hA : F.answers w.tape) (hn : xs.length ≤ 1048576) (hF : FundBlk w f g fname xs) :
    Calls Ybaf.prog 9 #[.pointer (some ⟨f, 0, none⟩), .string nm] w fun e w' => (∃ p v, e = .returned (.tuple #[p, v]) ∧
      ((∃ i : Nat, i < xs.length ∧ hasAt xs nm i = true ∧ p = .pointer (some ⟨g, i * 19, none⟩) ∧ v = .nilIface) ∨ ((∀ i, i < xs.length → hasAt xs nm i = false) ∧ p = .pointer none ∧ ∃ q, v = .iface 59 q))) ∧ Below w.heap.size w w' := by
  have h0 := hF.name
  have hfl : f < w.heap.size := World.block_lt_of_cell? w _ h0
  go_enter Ybaf.func9, Ybaf.ntmps9
  go_wp2_with fail
  refine (class_any xs nm fname f g _ hn hF).mono ?_
  rintro e w3 ⟨⟨p, b, rfl, hr⟩, hb3⟩
  have h0' : w3.cell? ⟨f, 0, none⟩ = some (.string fname) := (hb3.cell hfl).trans h0
  have hA3 : F.answers w3.tape := by rw [hb3.tape]; exact hA
  have hA3' := answers_open hA3
  rcases hr with ⟨i, hi, hat, rfl, rfl⟩ | ⟨hno, rfl, rfl⟩
  · go_wp2
    go_ret2
    exact ⟨⟨_, _, rfl, Or.inl ⟨i, hi, hat, rfl, rfl⟩⟩, hb3⟩
  · go_wp2
    apply rows_value Ybaf.nextTurns
    case hr =>
      go_simp
      exact ⟨rfl, rfl⟩
    case h =>
      go_wp2
      go_ret2
      refine ⟨⟨_, _, rfl, Or.inr ⟨hno, rfl, _, rfl⟩⟩, ?_⟩
      have h1 : Below w.heap.size w (w3.alloc (.cells #[.iface 9 (.string fname), .iface 9 (.string nm)] 20)) := hb3.alloc hb3.size _
      exact (h1.alloc h1.size _).drew

set_option maxHeartbeats 1600000 in
theorem new_error (s : ByteArray) (w : World) :
    Calls Ybaf.prog 8 #[.string s] w fun e w' => (∃ q, e = .returned (.iface 59 q)) ∧ Below w.heap.size w w' := by
  go_enter Ybaf.func8, Ybaf.ntmps8
  go_wp2
  go_ret
  exact ⟨⟨_, rfl⟩, (Below.refl _ _).alloc (Nat.le_refl _) _⟩

/-- What checkHolding answers: the holding's two cells, and the error. -/
def HoldRes (xs : List ByteArray) (acct nm : ByteArray) (a c : ByteArray) (v : Value) : Prop :=
  (((acct.toList == ([] : List UInt8)) = true ∨ ∀ i, i < xs.length → hasAt xs nm i = false) ∧ a = ⟨#[]⟩ ∧ c = ⟨#[]⟩ ∧ ∃ q, v = .iface 59 q) ∨
  ((acct.toList == ([] : List UInt8)) = false ∧ a = acct ∧ (∃ i, i < xs.length ∧ hasAt xs nm i = true ∧ c = xs.getD i ⟨#[]⟩) ∧ v = .nilIface)

set_option maxRecDepth 100000 in
set_option maxHeartbeats 3200000 in
theorem check_holding (F : Interp) (xs : List ByteArray) (acct nm fname : ByteArray) (f g : Nat) (w : World) (hA : F.answers w.tape) (hn : xs.length ≤ 1048576) (hF : FundBlk w f g fname xs) :
    Calls Ybaf.prog 6 #[.pointer (some ⟨f, 0, none⟩), .string acct, .string nm] w fun e w' => (∃ a c v, e = .returned (.tuple #[.agg #[.string a, .string c], v]) ∧ HoldRes xs acct nm a c v) ∧ Below w.heap.size w w' := by
  have h0 := hF.name
  have hfl : f < w.heap.size := World.block_lt_of_cell? w _ h0
  have hgl : g < w.heap.size := World.rowIs.lt hF.blk
  have hb0 : Below w.heap.size w (w.alloc (.cells #[.string ⟨#[]⟩, .string ⟨#[]⟩] 47)) := (Below.refl _ _).alloc (Nat.le_refl _) _
  cases hac : (acct.toList == ([] : List UInt8)) with
  | true =>
    go_enter Ybaf.func6, Ybaf.ntmps6
    go_wp2_with fail
    refine (new_error _ _).mono ?_
    rintro e w3 ⟨⟨q, rfl⟩, hb3⟩
    have hb4 : Below w.heap.size w w3 := hb0.trans (hb3.mono hb0.size)
    have c0 : w3.cell? ⟨w.heap.size, 0, none⟩ = some (.string ⟨#[]⟩) := (hb3.cell (by simp)).trans (by go_simp)
    have c1 : w3.cell? ⟨w.heap.size, 1, none⟩ = some (.string ⟨#[]⟩) := (hb3.cell (by simp)).trans (by go_simp)
    have z0 : w3.frozen? ⟨w.heap.size, 0, none⟩ = false := (hb3.frozen (by simp)).trans (by go_simp)
    have z1 : w3.frozen? ⟨w.heap.size, 1, none⟩ = false := (hb3.frozen (by simp)).trans (by go_simp)
    go_wp2
    have hb5 := (hb4.setCell (p := ⟨w.heap.size, 0, none⟩) (Nat.le_refl _) (.string ⟨#[]⟩)).setCell (p := ⟨w.heap.size, 1, none⟩) (Nat.le_refl _) (.string ⟨#[]⟩)
    refine bodyPost_ret (v := .tuple #[.agg #[.string ⟨#[]⟩, .string ⟨#[]⟩], .iface 59 q]) ?_ rfl ⟨⟨_, _, _, rfl, Or.inl ⟨Or.inl hac, rfl, rfl, q, rfl⟩⟩, hb5⟩
    simp [results, Ybaf.results6, go_sem, c0, c1]
  | false =>
    go_enter Ybaf.func6, Ybaf.ntmps6
    go_wp2_with fail
    refine (class_or_error F xs nm fname f g _ (by exact hA) hn (hF.below hb0 hfl hgl)).mono ?_
    rintro e w3 ⟨⟨p, v, rfl, hr⟩, hb3⟩
    have hb4 : Below w.heap.size w w3 := hb0.trans (hb3.mono hb0.size)
    have c0 : w3.cell? ⟨w.heap.size, 0, none⟩ = some (.string ⟨#[]⟩) := (hb3.cell (by simp)).trans (by go_simp)
    have c1 : w3.cell? ⟨w.heap.size, 1, none⟩ = some (.string ⟨#[]⟩) := (hb3.cell (by simp)).trans (by go_simp)
    have z0 : w3.frozen? ⟨w.heap.size, 0, none⟩ = false := (hb3.frozen (by simp)).trans (by go_simp)
    have z1 : w3.frozen? ⟨w.heap.size, 1, none⟩ = false := (hb3.frozen (by simp)).trans (by go_simp)
    rcases hr with ⟨i, hi, hat, rfl, rfl⟩ | ⟨hno, rfl, q, rfl⟩
    · have hcl : w3.cell? ⟨g, i * 19, none⟩ = some (.string (xs.getD i ⟨#[]⟩)) := (hF.below hb4 hfl hgl).blk.cell hi (j := 0) (by omega)
      generalize hx : xs.getD i ⟨#[]⟩ = x at hcl
      go_wp2
      have hb5 := (hb4.setCell (p := ⟨w.heap.size, 0, none⟩) (Nat.le_refl _) (.string acct)).setCell (p := ⟨w.heap.size, 1, none⟩) (Nat.le_refl _) (.string x)
      refine bodyPost_ret (v := .tuple #[.agg #[.string acct, .string x], .nilIface]) ?_ rfl ⟨⟨_, _, _, rfl, Or.inr ⟨hac, rfl, ⟨i, hi, hat, hx.symm⟩, rfl⟩⟩, hb5⟩
      simp [results, Ybaf.results6, go_sem, c0, c1]
    · go_wp2
      have hb5 := (hb4.setCell (p := ⟨w.heap.size, 0, none⟩) (Nat.le_refl _) (.string ⟨#[]⟩)).setCell (p := ⟨w.heap.size, 1, none⟩) (Nat.le_refl _) (.string ⟨#[]⟩)
      refine bodyPost_ret (v := .tuple #[.agg #[.string ⟨#[]⟩, .string ⟨#[]⟩], .iface 59 q]) ?_ rfl ⟨⟨_, _, _, rfl, Or.inl ⟨Or.inr hno, rfl, rfl, q, rfl⟩⟩, hb5⟩
      simp [results, Ybaf.results6, go_sem, c0, c1]
end Go.Proofs.YbulkgdxsFmt
