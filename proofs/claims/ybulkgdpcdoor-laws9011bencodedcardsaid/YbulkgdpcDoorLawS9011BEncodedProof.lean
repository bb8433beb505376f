import Derived.Test.YbulkgdpcDoorRows
import Derived.Test.YbulkgdpcDoorTie
import Derived.Test.YbulkgdpcDoorCards
import Derived.Test.YbulkgdpcDoorB7
import Derived.Test.YbulkgdpcDoorE3
import Derived.SevenTiedAt
import Derived.SliceStrings
import Derived.SizedLaws
import Derived.ChangeOld
namespace Go.Proofs.YbulkgdpcDoor.lawS9011BEncoded
open Go.ChangeShapes Go.WideShapes Go.ChangeAt Go.WideMaps Go.WideElems Go.RowKit
open lawB
set_option linter.unusedVariables false

theorem weights_strs {H : Type} (P : Program) (e : TypeId) : ∀ (l : List ByteArray) (s : ByteArray), s ∈ l → s.size ∈ DataW.weightsAll (H := H) P e (strs l)
  | [], s, h => by simp at h
  | x :: r, s, h => by
    simp only [strs, List.map_cons, DataW.weightsAll, List.mem_append]
    rcases List.mem_cons.1 h with rfl | h
    · left
      simp only [DataW.weights, List.mem_singleton]
      exact Array.length_toList.symm
    · right
      exact weights_strs P e r s h

/-- the walk, at whatever slice of strings came in -/
theorem walk (a : Option Addr) (len cap : Nat) (ss : List ByteArray) (sub : Int) (w : World) (hE : Errs w)
    (hrow : len = 0 ∨ ∃ x : Addr, a = some x ∧ len ≤ ss.length ∧ len ≤ maxLen ∧ (∀ i, i < ss.length → w.cell? (x.add i) = some (.string (ss.getD i ByteArray.empty))) ∧ ∀ s ∈ ss, s.size ≤ 140737488355328) :
    Calls Ybad.prog 4 #[.slice a len cap, .int .i64 sub] w fun e w' => e = .returned (.bool true) ∧ Below w.heap.size w w' := by
  by_cases h0 : len = 0
  · subst h0
    exact lawE_zero a cap sub w (errs_size hE) hE
  · rcases hrow with h | ⟨x, rfl, hl, hm, hcell, hsz⟩
    · exact absurd h h0
    · obtain ⟨b, off, spot⟩ := x
      have hc0 := hcell 0 (by omega)
      have hspot : spot = none := by simpa [Addr.add] using World.cell?_spot hc0
      subst hspot
      have hlen : (ss.take len).length = len := by rw [List.length_take]; omega
      have hg : ∀ i (h : i < (ss.take len).length), (ss.take len)[i] = ss.getD i ByteArray.empty := fun i h => by
        have h2 : i < ss.length := by omega
        rw [List.getElem_take]
        simp [List.getD, h2]
      have hblk : ∀ i, i < ss.length → w.cell? ⟨b, off + i, none⟩ = some (.string (ss.getD i ByteArray.empty)) := fun i hi => by
        rw [← add_plain]; exact hcell i hi
      refine lawE_cons (ss.take len) sub b off len cap w hlen.symm (by omega) (by unfold maxLen at hm; omega) (fun i h => ⟨?_, ?_⟩) (fun i h => ?_) (errs_size hE) hE
      · rw [hg i h]
        exact hblk i (by omega)
      · have h1 := hblk i (by omega)
        rcases Nat.lt_or_ge b w.heap.size with h2 | h2
        · exact h2
        · exfalso
          have : w.heap[b]? = none := Array.getElem?_eq_none h2
          simp [World.cell?, this] at h1
      · exact hsz _ (List.mem_of_mem_take (List.getElem_mem h))

set_option maxRecDepth 100000 in
theorem lifted (os : Os) (started : os.Started) (H : Type) (enc : TypeId × Value → H) :
    ReturnsInHanded {} Ybad.checked os 4 .any (fun w args => (Rows.lawS9011BEncodedSpec.pre enc Ybad.prog Ybad.f4 [] false w args ∧ laidMetH Ybad.prog laid3 w) ∧ sizedMet enc Ybad.prog Ybad.f4 (OpenSpec.ofChange Rows.lawS9011BEncodedSpec) false w args)
      (Rows.lawS9011BEncodedSpec.post enc Ybad.prog Ybad.f4 false true false false) := by
  refine returnsInHanded_of_change_and (C := Ybad.checked) (X := fun w _ => laidMetH Ybad.prog laid3 w) (fun _ _ _ hh h => h.of_heap hh) own started (by kernel_rfl) Ybad.func4
    (ChangeSpec.witness_shaped (enc := enc) (C := Ybad.checked) (os := os) (X := fun w _ => laidMetH Ybad.prog laid3 w) false (World.doorLaid Ybad.prog 400 os) #[.slice none 0 0, .int .i64 0] 8 rfl (World.shaped_of_RefB (by kernel_rfl) (by kernel_rfl)) (by kernel_rfl) (by kernel_rfl) (by kernel_rfl) (door_met os _)) ?_
  intro W base args ds gs before hval0 hW _ hsz0 hL _
  have hval : ∀ (j : Nat) t v, Ybad.f4.params[j]? = some t → args[j]? = some v → Value.okWide Ybad.prog W .any base t v := hval0
  have hsz : (DataW.weightsEach Ybad.prog (Ybad.f4.params.toList ++ Rows.lawS9011BEncodedSpec.plain.varTypes Ybad.prog) (ds ++ gs)).all (· ≤ reachBytes) = true := hsz0
  have hW' := hW
  obtain ⟨p, q, hA0, hV, rfl, hfz, hnd⟩ := hW
  have hA : DataW.TrodAll enc Ybad.prog W 0 (fun _ => true) true Ybad.f4.params.toList args.toList ds p := hA0
  rw [Ybad.params4] at hA hval hsz
  obtain ⟨v0, vs0, d0, ds0, p0, q0, hargs, rfl, rfl, h0, r0⟩ := trodAll_cons hA
  obtain ⟨v1, vs1, d1, ds1, p1, q1, rfl, rfl, rfl, h1, r1⟩ := trodAll_cons r0
  obtain ⟨rfl, rfl, rfl⟩ := trodAll_nil r1
  obtain rfl : args = #[v0, v1] := by cases args; simp_all
  obtain ⟨rfl, rfl⟩ := trodVars_none hV
  obtain ⟨a0, len0, cap0, rfl⟩ := okWide_slice Ybad.underlying38 (hval 0 38 v0 rfl rfl)
  have k0 := h0
  have lt0 : ∀ x ∈ p0, x.block < W.heap.size := by obtain ⟨m, hm⟩ := k0; exact DataW.trod_lt m _ _ _ hm
  obtain ⟨a1, rfl, rfl, rfl, w1⟩ := open_int Ybad.underlying3 (hval 1 3 v1 rfl rfl) h1
  obtain ⟨ss, hrow⟩ : ∃ ss : List ByteArray, len0 = 0 ∨ ∃ x : Addr, a0 = some x ∧ len0 ≤ ss.length ∧ len0 ≤ maxLen ∧ (∀ i, i < ss.length → W.cell? (x.add i) = some (.string (ss.getD i ByteArray.empty))) ∧ ∀ s ∈ ss, s.size ≤ 140737488355328 := by
    obtain ⟨fuel, hf⟩ := h0
    rcases open_strings Ybad.underlying38 Ybad.underlying9 cells9 hf with ⟨hcs, _⟩ | ⟨x, l, c, ss, hcs, _, hl, hm, hz, hx, hcell, hws⟩
    · simp [Value.cells] at hcs
      obtain ⟨rfl, rfl, rfl⟩ := hcs
      exact ⟨[], .inl rfl⟩
    · simp [Value.cells] at hcs
      obtain ⟨rfl, rfl, rfl⟩ := hcs
      simp only [Prod.mk.injEq] at hx
      have hz' : ss.length = cap0 := by simpa using hz
      refine ⟨ss, .inr ⟨x, rfl, by omega, by omega, hcell, fun s hs => ?_⟩⟩
      have hin : s.size ∈ DataW.weights Ybad.prog 38 d0 := by
        rw [hx.1]
        simp only [DataW.weights, Ybad.underlying38, List.mem_cons, List.mem_append]
        right
        rw [← List.take_append_drop len0 ss] at hs
        rcases List.mem_append.1 hs with h | h
        · exact .inl (weights_strs _ _ _ s h)
        · exact .inr (weights_strs _ _ _ s h)
      have := List.all_eq_true.1 hsz _ (DataW.weights_mem_each (j := 0) (t := 38) rfl rfl s.size hin)
      have hr := reachBytes_lt
      simp at this
      omega
  clear hA0 hval0
  refine (walk a0 len0 cap0 ss a1 W (errs_of hL) hrow).mono fun e W' ⟨he, bel⟩ => ?_
  subst he
  exact ⟨_, rfl, _, _, _, [], _, [], hW', trodAll_mk1 (shut_bool Ybad.underlying4 _), (trodAll_cons_mk (Below.trod laidOut (by kernel_rfl) (of_decide_eq_true (by kernel_rfl)) k0 bel lt0) (trodAll_cons_mk (shut_int Ybad.underlying3 w1) trodAll_mk0)), rfl, bel.frame _, fun h => by cases h⟩

theorem row_holds : Rows.LawS9011BEncodedSaid :=
  OpenClaim.holds_of_wide 4 Ybad.f4 rfl rfl rfl rfl rfl rfl rfl ⟨rfl, rfl, rfl, rfl, rfl⟩ rfl rfl rfl rfl rfl (by kernel_rfl) Ybad.func4 (by kernel_rfl)
    (of_decide_eq_true (by kernel_rfl)) (by unfold Func.isWrapper; first | (rw [if_pos (by decide +kernel)]; kernel_rfl) | (rw [if_neg (by decide +kernel)]; exact ⟨rfl, rfl⟩))
    (fun os started H enc _ => lifted os started H enc)

/-- THE STATEMENT: the tied card -/
theorem proved : Rows.LawS9011BEncodedCardSaid :=
  Claim7.holds_tied_plain_at .later [] [.sentinel, .sentinel, .sentinel] true Rows.lawS9011BEncodedCard.stood.harness true
    row_holds (fun _ h => by cases h) (by kernel_rfl) (fun _ h => by cases h) lawS9011BEncoded_row_tie rfl ⟨rfl, rfl⟩ (by kernel_rfl) rfl
    (fun f fn hf hfn => by
      obtain rfl : f = 4 := Option.some.inj ((show Ybad.prog.funcNamed Rows.lawS9011BEncodedRow.func = some 4 by kernel_rfl).symm.trans hf) |>.symm
      obtain rfl : fn = Ybad.f4 := (Option.some.inj (Ybad.func4.symm.trans hfn)).symm
      exact ⟨by kernel_rfl, fun j t ht => by
        rw [Ybad.params4] at ht
        have hmem : t ∈ [38, 3] := by
          have := Array.mem_of_getElem? ht
          simpa using this
        have hall : ([38, 3] : List TypeId).all (fun t => !Ybad.prog.wantsStandIn t) = true := by kernel_rfl
        have := List.all_eq_true.1 hall t hmem
        exact (show Ybad.prog.wantsStandIn t = false by simpa using this)⟩)
    (by kernel_rfl)
end Go.Proofs.YbulkgdpcDoor.lawS9011BEncoded
