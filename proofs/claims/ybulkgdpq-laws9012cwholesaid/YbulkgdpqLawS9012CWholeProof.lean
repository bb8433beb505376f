import Derived.Test.YbulkgdpqRows
import Derived.Test.YbulkgdpqS7
import Derived.WalkKit
import Derived.ProofKit
import Derived.OpenShut
import Derived.ShutString
import Derived.ChangeOld
import Derived.Below
import Derived.SizedLaws
import Derived.Deep.Grids
namespace Go.Proofs.Ybulkgdpq.lawS9012CWhole
open Go.ChangeShapes Go.WideShapes Go.ChangeAt Go.RowKit
set_option linter.unusedVariables false

theorem own : ownKnob Yba.prog.godebug = none := by kernel_rfl
theorem laidOut : laidOutB Yba.prog = true := by kernel_rfl
theorem bytes2 : Yba.prog.bytesOf 2 = 8 := by kernel_rfl
theorem bytes4 : Yba.prog.bytesOf 4 = 1 := by kernel_rfl

set_option maxRecDepth 100000 in
theorem law_long (a0 a1 a2 a3 : Option Addr) (n0 n1 n2 n3 c0 c1 c2 c3 : Nat) (st0 : Int) (p : Int) (w : World)
    (b0 : n0 ≤ 140737488351232) (b1 : n1 ≤ 140737488351232) (b2 : n2 ≤ 140737488351232) (b3 : n3 ≤ 140737488351232) (hn : 1048576 < n0 + n1 + n2 + n3) :
    Calls Yba.prog 3 #[.slice a0 n0 c0, .slice a1 n1 c1, .slice a2 n2 c2, .slice a3 n3 c3, .int .i64 st0, .int .u8 p] w fun e w' => e = .returned (.bool true) ∧ Below w.heap.size w w' := by
  have h0 : (n0 : Int) ≤ 140737488351232 := by omega
  have h1 : (n1 : Int) ≤ 140737488351232 := by omega
  have h2 : (n2 : Int) ≤ 140737488351232 := by omega
  have h3 : (n3 : Int) ≤ 140737488351232 := by omega
  have hl : (1048576 : Int) < (n0 : Int) + n1 + n2 + n3 := by omega
  go_enter Yba.func3, Yba.ntmps3
  go_wp2_with fail
  go_ret
  exact ⟨rfl, Below.refl _ _⟩

theorem index22 (b off n cap i : Nat) (hi : i < n) (w : World) : (Instr.indexAt 22 (.slice (some ⟨b, off, none⟩) n cap) (.int .i64 (i : Int))).run Yba.prog w = .ok (.pointer (some ⟨b, off + i, none⟩)) w := by
  have h1 : (i : Int) < (n : Int) := by omega
  go_simp
theorem index23 (b off n cap i : Nat) (hi : i < n) (w : World) : (Instr.indexAt 23 (.slice (some ⟨b, off, none⟩) n cap) (.int .i64 (i : Int))).run Yba.prog w = .ok (.pointer (some ⟨b, off + i, none⟩)) w := by
  have h1 : (i : Int) < (n : Int) := by omega
  go_simp

theorem cell_lt {w : World} {a : Addr} {v : Value} (h : w.cell? a = some v) : a.block < w.heap.size := by
  rcases Nat.lt_or_ge a.block w.heap.size with h2 | h2
  · exact h2
  · exfalso
    have : w.heap[a.block]? = none := Array.getElem?_eq_none h2
    simp [World.cell?, this] at h

section
variable {H : Type} {enc : TypeId × Value → H} {W : World}

/-- A slice of int64 that came in, as the walk reads it; and its length by its datum. -/
theorem ints_of {a : Option Addr} {n cap : Nat} {d : DataW H} {ps : List MemPlace} (h : DataW.Trod enc Yba.prog W 0 (fun _ => true) true 22 (.slice a n cap) d ps) :
    (∃ b off ks, Ints W a n cap b off ks) ∧ (n = 0 ∨ ∃ el sp, d = .slice el sp ∧ n ≤ el.length) := by
  obtain ⟨fuel, hf⟩ := h
  rcases open_ints Yba.underlying22 Yba.underlying2 (by kernel_rfl) hf with ⟨hcs, _⟩ | ⟨x, l, c, zs, hcs, _, hl, hm, hz, hx, hcell, hwz⟩
  · simp [Value.cells] at hcs
    obtain ⟨rfl, rfl, rfl⟩ := hcs
    exact ⟨⟨0, 0, fun _ => 0, ⟨fun i h => absurd h (by omega), fun i h => absurd h (by omega), fun i h => absurd h (by omega), fun i h => absurd h (by omega)⟩⟩, .inl rfl⟩
  · simp [Value.cells] at hcs
    obtain ⟨rfl, rfl, rfl⟩ := hcs
    simp only [if_true] at hz
    simp only [Prod.mk.injEq] at hx
    refine ⟨?_, .inr ⟨_, _, hx.1, by simp [lits]; omega⟩⟩
    by_cases h0 : n = 0
    · subst h0
      exact ⟨0, 0, fun _ => 0, ⟨fun i h => absurd h (by omega), fun i h => absurd h (by omega), fun i h => absurd h (by omega), fun i h => absurd h (by omega)⟩⟩
    · obtain ⟨b, off, spot⟩ := x
      have hc := hcell 0 (by omega)
      have hspot : spot = none := by simpa [Addr.add] using World.cell?_spot hc
      subst hspot
      have hcp : ∀ i, i < zs.length → W.cell? ⟨b, off + i, none⟩ = some (.int .i64 (zs.getD i 0)) := fun i hi => by rw [← add_plain]; exact hcell i hi
      refine ⟨b, off, fun i => zs.getD i 0, ⟨fun i hi w' => index22 b off n cap i hi w', fun i hi => hcp i (by omega), fun i hi => cell_lt (hcp i (by omega)), fun i hi => ?_⟩⟩
      have hi' : i < zs.length := by omega
      refine hwz _ ?_
      simp [List.getD, hi']

theorem bools_of {a : Option Addr} {n cap : Nat} {d : DataW H} {ps : List MemPlace} (h : DataW.Trod enc Yba.prog W 0 (fun _ => true) true 23 (.slice a n cap) d ps) :
    (∃ b off bs, Bools W a n cap b off bs) ∧ (n = 0 ∨ ∃ el sp, d = .slice el sp ∧ n ≤ el.length) := by
  obtain ⟨fuel, hf⟩ := h
  rcases Go.Deep.open_bools Yba.underlying23 Yba.underlying4 (by kernel_rfl) hf with ⟨hcs, _⟩ | ⟨x, l, c, B, hcs, _, hl, hm, hx, hcell⟩
  · simp [Value.cells] at hcs
    obtain ⟨rfl, rfl, rfl⟩ := hcs
    exact ⟨⟨0, 0, fun _ => false, ⟨fun i h => absurd h (by omega), fun i h => absurd h (by omega), fun i h => absurd h (by omega)⟩⟩, .inl rfl⟩
  · simp [Value.cells] at hcs
    obtain ⟨rfl, rfl, rfl⟩ := hcs
    simp only [Prod.mk.injEq] at hx
    refine ⟨?_, .inr ⟨_, _, hx.1, by simp⟩⟩
    by_cases h0 : n = 0
    · subst h0
      exact ⟨0, 0, fun _ => false, ⟨fun i h => absurd h (by omega), fun i h => absurd h (by omega), fun i h => absurd h (by omega)⟩⟩
    · obtain ⟨b, off, spot⟩ := x
      have hc := hcell 0 (by omega)
      have hspot : spot = none := by simpa [Addr.add] using World.cell?_spot hc
      subst hspot
      have hcp : ∀ i, i < cap → W.cell? ⟨b, off + i, none⟩ = some (.bool (B i)) := fun i hi => by rw [← add_plain]; exact hcell i hi
      exact ⟨b, off, B, ⟨fun i hi w' => index23 b off n cap i hi w', fun i hi => hcp i (by omega), fun i hi => cell_lt (hcp i (by omega))⟩⟩
end

theorem walk (a0 a1 a2 a3 : Option Addr) (n0 n1 n2 n3 c0 c1 c2 c3 : Nat) (st0 p : Int) (w : World)
    (I0 : ∃ b off ks, Ints w a0 n0 c0 b off ks) (I1 : ∃ b off ks, Bools w a1 n1 c1 b off ks) (I2 : ∃ b off ks, Ints w a2 n2 c2 b off ks) (I3 : ∃ b off ks, Bools w a3 n3 c3 b off ks)
    (hst0 : (Lit.int .i64 st0).wf = true) (hp : (Lit.int .u8 p).wf = true)
    (b0 : n0 ≤ 140737488351232) (b1 : n1 ≤ 140737488351232) (b2 : n2 ≤ 140737488351232) (b3 : n3 ≤ 140737488351232) :
    Calls Yba.prog 3 #[.slice a0 n0 c0, .slice a1 n1 c1, .slice a2 n2 c2, .slice a3 n3 c3, .int .i64 st0, .int .u8 p] w fun e w' => e = .returned (.bool true) ∧ Below w.heap.size w w' := by
  by_cases hn : n0 + n1 + n2 + n3 ≤ 1048576
  · obtain ⟨x0, o0, ks, J0⟩ := I0
    obtain ⟨x1, o1, ms, J1⟩ := I1
    obtain ⟨x2, o2, rs, J2⟩ := I2
    obtain ⟨x3, o3, vs, J3⟩ := I3
    have hpr : 0 ≤ p ∧ p ≤ 255 := by
      simp [Lit.wf] at hp
      exact ⟨hp.1, hp.2⟩
    obtain ⟨q, rfl⟩ := Int.eq_ofNat_of_zero_le hpr.1
    exact law_any a0 a1 a2 a3 n0 n1 n2 n3 c0 c1 c2 c3 x0 x1 x2 x3 o0 o1 o2 o3 ks rs ms vs st0 q w J0 J1 J2 J3 hst0 (by omega) hn
  · exact law_long a0 a1 a2 a3 n0 n1 n2 n3 c0 c1 c2 c3 st0 p w b0 b1 b2 b3 (by omega)

set_option maxRecDepth 100000 in
theorem lifted (os : Os) (started : os.Started) (H : Type) (enc : TypeId × Value → H) :
    ReturnsInHanded {} Yba.checked os 3 .any (Rows.lawS9012CWholeSpec.pre6 enc Yba.prog Yba.f3 Rows.lawS9012CWholeRow.domain false) (Rows.lawS9012CWholeSpec.post enc Yba.prog Yba.f3 false true false false) := by
  refine returnsInHanded_of_change_sized (C := Yba.checked) own started (by kernel_rfl) Yba.func3
    (ChangeSpec.witness6 (enc := enc) (C := Yba.checked) false ⟨#[], #[.slice none 0 0, .slice none 0 0, .slice none 0 0, .slice none 0 0, .int .i64 0, .int .u8 0], []⟩ 8 (by kernel_rfl) (by kernel_rfl) (by kernel_rfl) (by kernel_rfl)) ?_
  intro W base args ds gs before hval0 hW hcnd hsz0 _
  have hval : ∀ (j : Nat) t v, Yba.f3.params[j]? = some t → args[j]? = some v → Value.okWide Yba.prog W .any base t v := hval0
  have hsz : (DataW.weightsEach Yba.prog (Yba.f3.params.toList ++ Rows.lawS9012CWholeSpec.plain.varTypes Yba.prog) (ds ++ gs)).all (· ≤ reachBytes) = true := hsz0
  have hW' := hW
  obtain ⟨p, q, hA0, hV, rfl, hfz, hnd⟩ := hW
  have hA : DataW.TrodAll enc Yba.prog W 0 (fun _ => true) true Yba.f3.params.toList args.toList ds p := hA0
  rw [Yba.params3] at hA hval hsz
  obtain ⟨v0, vs0, d0, ds0, p0, q0, hargs, rfl, rfl, h0, r0⟩ := trodAll_cons hA
  obtain ⟨v1, vs1, d1, ds1, p1, q1, rfl, rfl, rfl, h1, r1⟩ := trodAll_cons r0
  obtain ⟨v2, vs2, d2, ds2, p2, q2, rfl, rfl, rfl, h2, r2⟩ := trodAll_cons r1
  obtain ⟨v3, vs3, d3, ds3, p3, q3, rfl, rfl, rfl, h3, r3⟩ := trodAll_cons r2
  obtain ⟨v4, vs4, d4, ds4, p4, q4, rfl, rfl, rfl, h4, r4⟩ := trodAll_cons r3
  obtain ⟨v5, vs5, d5, ds5, p5, q5, rfl, rfl, rfl, h5, r5⟩ := trodAll_cons r4
  obtain ⟨rfl, rfl, rfl⟩ := trodAll_nil r5
  obtain rfl : args = #[v0, v1, v2, v3, v4, v5] := by cases args; simp_all
  obtain ⟨rfl, rfl⟩ := trodVars_none hV
  obtain ⟨a0, n0, c0, rfl⟩ := okWide_slice Yba.underlying22 (hval 0 22 v0 rfl rfl)
  obtain ⟨a1, n1, c1, rfl⟩ := okWide_slice Yba.underlying23 (hval 1 23 v1 rfl rfl)
  obtain ⟨a2, n2, c2, rfl⟩ := okWide_slice Yba.underlying22 (hval 2 22 v2 rfl rfl)
  obtain ⟨a3, n3, c3, rfl⟩ := okWide_slice Yba.underlying23 (hval 3 23 v3 rfl rfl)
  obtain ⟨st0, rfl, rfl, rfl, w4⟩ := open_int Yba.underlying2 (hval 4 2 v4 rfl rfl) h4
  obtain ⟨pk, rfl, rfl, rfl, w5⟩ := open_int Yba.underlying5 (hval 5 5 v5 rfl rfl) h5
  have lt0 : ∀ x ∈ p0, x.block < W.heap.size := by obtain ⟨m, hm⟩ := h0; exact DataW.trod_lt m _ _ _ hm
  have lt1 : ∀ x ∈ p1, x.block < W.heap.size := by obtain ⟨m, hm⟩ := h1; exact DataW.trod_lt m _ _ _ hm
  have lt2 : ∀ x ∈ p2, x.block < W.heap.size := by obtain ⟨m, hm⟩ := h2; exact DataW.trod_lt m _ _ _ hm
  have lt3 : ∀ x ∈ p3, x.block < W.heap.size := by obtain ⟨m, hm⟩ := h3; exact DataW.trod_lt m _ _ _ hm
  obtain ⟨I0, s0⟩ := ints_of h0
  obtain ⟨I1, s1⟩ := bools_of h1
  obtain ⟨I2, s2⟩ := ints_of h2
  obtain ⟨I3, s3⟩ := bools_of h3
  have b0 : n0 ≤ 140737488351232 := by
    rcases s0 with rfl | ⟨el, sp, rfl, hel⟩
    · omega
    · have := sized_slice hsz (j := 0) (elems := el) (spare := sp) rfl rfl Yba.underlying22
      rw [bytes2] at this
      unfold reachBytes at this
      omega
  have b1 : n1 ≤ 140737488351232 := by
    rcases s1 with rfl | ⟨el, sp, rfl, hel⟩
    · omega
    · have := sized_slice hsz (j := 1) (elems := el) (spare := sp) rfl rfl Yba.underlying23
      rw [bytes4] at this
      unfold reachBytes at this
      omega
  have b2 : n2 ≤ 140737488351232 := by
    rcases s2 with rfl | ⟨el, sp, rfl, hel⟩
    · omega
    · have := sized_slice hsz (j := 2) (elems := el) (spare := sp) rfl rfl Yba.underlying22
      rw [bytes2] at this
      unfold reachBytes at this
      omega
  have b3 : n3 ≤ 140737488351232 := by
    rcases s3 with rfl | ⟨el, sp, rfl, hel⟩
    · omega
    · have := sized_slice hsz (j := 3) (elems := el) (spare := sp) rfl rfl Yba.underlying23
      rw [bytes4] at this
      unfold reachBytes at this
      omega
  clear hA0 hval0 hsz0 hsz
  refine (walk a0 a1 a2 a3 n0 n1 n2 n3 c0 c1 c2 c3 st0 pk W I0 I1 I2 I3 w4 w5 b0 b1 b2 b3).mono fun e W' ⟨he, bel⟩ => ?_
  subst he
  exact ⟨_, rfl, _, _, _, [], _, [], hW', trodAll_mk1 (shut_bool Yba.underlying4 _),
    (trodAll_cons_mk (Below.trod laidOut (by kernel_rfl) (of_decide_eq_true (by kernel_rfl)) h0 bel lt0)
    (trodAll_cons_mk (Below.trod laidOut (by kernel_rfl) (of_decide_eq_true (by kernel_rfl)) h1 bel lt1)
    (trodAll_cons_mk (Below.trod laidOut (by kernel_rfl) (of_decide_eq_true (by kernel_rfl)) h2 bel lt2)
    (trodAll_cons_mk (Below.trod laidOut (by kernel_rfl) (of_decide_eq_true (by kernel_rfl)) h3 bel lt3)
    (trodAll_cons_mk (shut_int Yba.underlying2 w4) (trodAll_cons_mk (shut_int Yba.underlying5 w5) trodAll_mk0)))))), rfl, bel.frame _, fun h => by cases h⟩

theorem over : Rows.lawS9012CWholeRow.holds Yba.pinned (OpenSpec.ofChange Rows.lawS9012CWholeSpec) :=
  OpenClaim.holds_of_wide 3 Yba.f3 rfl rfl rfl rfl rfl rfl rfl ⟨rfl, rfl, rfl, rfl, rfl⟩ rfl rfl rfl rfl rfl (by kernel_rfl) Yba.func3 (by kernel_rfl)
    (of_decide_eq_true (by kernel_rfl)) (by unfold Func.isWrapper; first | (rw [if_pos (by decide +kernel)]; kernel_rfl) | (rw [if_neg (by decide +kernel)]; exact ⟨rfl, rfl⟩))
    (fun os started H enc _ => lifted os started H enc)

/-- ████ THE STATEMENT ████ -/
theorem proved : Rows.LawS9012CWholeSaid := over
end Go.Proofs.Ybulkgdpq.lawS9012CWhole
