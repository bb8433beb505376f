import Derived.Test.YbulkgdxsFmtRows
import Derived.Test.YbulkgdxsFmtTie
import Derived.Test.YbulkgdxsFmtCards
import Derived.Test.YbulkgdxsFmtG2
import Derived.ProofKit
import Derived.OpenVars
import Derived.LaidMore
import Derived.OpenShut
import Derived.ShutString
import Derived.Stop.JoinedAt
import Derived.Stop.JoinedTold
import Derived.Stop.Texts
import Derived.SevenTiedAt
import Derived.Deep.DeepWitnessRef
namespace Go.Proofs.YbulkgdxsFmt
open Go.ChangeShapes Go.WideShapes Go.ChangeAt Go.RowKit Go.Kit
open Go.ChangeMaps (open_string shut_string)
open Go.Extern.Stop Go.Stop Go.Extern

theorem own : ownKnob Ybaf.prog.godebug = none := by kernel_rfl
theorem laidOut : laidOutB Ybaf.pinned.checked.prog = true := by kernel_rfl
theorem stops : Ybaf.pinned.checked.prog.stops = ["fmt.errorf, its operands' methods called", "fmt.Sprintf"] := by kernel_rfl
theorem stopKnobs : Ybaf.pinned.checked.prog.stopKnobs = [] := by kernel_rfl
theorem quiet (os : Os) : Stop.quiet Ybaf.pinned.checked.prog os := by
  intro k hk
  rw [stopKnobs] at hk
  cases hk
theorem gN : Ybaf.prog.globalNamed "example.com/zhaomu/zhaomu/internal/register.markNames" = some 0 := by kernel_rfl
theorem gNType : (Ybaf.prog.globals[0]?).map (·.type) = some 52 := by kernel_rfl
theorem cells52 : Ybaf.prog.cellsOf 52 = 2 := by kernel_rfl
theorem cells9 : Ybaf.prog.cellsOf 9 = 1 := by kernel_rfl

def cells2 : Array Value := #[.string (nmB 0), .string (nmB 1)]

theorem str_of_trod {H : Type} {enc : TypeId × Value → H} {w : World} {base : Nat} {sp : Nat → Bool} {held : Bool} {fuel : Nat} {c : Value} {y : DataW H × List MemPlace}
    (h : DataW.trod enc Ybaf.prog w base sp held fuel 9 [c] = some y) : ∃ s : ByteArray, c = .string s ∧ y = (.lit (.string s.data.toList), []) := by
  obtain ⟨s, hc, hy, _⟩ := DataW.trod_string Ybaf.underlying9 h
  simp only [List.cons.injEq, and_true] at hc
  exact ⟨s, hc, hy⟩
theorem ba_of_list {s : ByteArray} {l : List UInt8} (h : s.data.toList = l) : s = ⟨l.toArray⟩ := by subst h; simp

theorem cells_of_laid {W : World} (h : laidMet Ybaf.prog Rows.lawS9027AWholeRow.laid W) : W.var? Ybaf.prog "example.com/zhaomu/zhaomu/internal/register.markNames" = some cells2 := by
  obtain ⟨ps, ⟨g, t, cs, fuel, p, q, hg, ht, hvar, hd, _, _⟩, _⟩ := h
  obtain rfl := Option.some.inj (gN.symm.trans hg)
  obtain rfl := Option.some.inj (gNType.symm.trans ht)
  rw [hvar]
  congr 1
  obtain ⟨l⟩ := cs
  cases fuel with
  | zero => simp [DataW.trod] at hd
  | succ fuel =>
    simp only [DataW.trod, Ybaf.underlying52, cells52, cells9] at hd
    split at hd
    · rename_i hl
      obtain ⟨c0, c1, rfl⟩ : ∃ c0 c1, l = [c0, c1] := by
        match l, hl with
        | [a, b], _ => exact ⟨a, b, rfl⟩
      have e : List.range 2 = [0, 1] := rfl
      rw [e] at hd
      simp only [Option.map_eq_some_iff, List.mapM_cons, List.mapM_nil, Option.bind_eq_bind, Option.bind_eq_some_iff, Option.pure_def, Option.some.injEq] at hd
      obtain ⟨xs, ⟨y0, h0, _, ⟨y1, h1, _, rfl, rfl⟩, rfl⟩, hx⟩ := hd
      obtain ⟨n0, rfl, rfl⟩ := str_of_trod h0
      obtain ⟨n1, rfl, rfl⟩ := str_of_trod h1
      simp [Rows.laid_example_com_zhaomu_zhaomu_internal_register_markNames] at hx
      obtain ⟨⟨e0, e1⟩, _⟩ := hx
      rw [ba_of_list e0, ba_of_list e1]
      rfl
    · cases hd

noncomputable def laidWorld (os : Os) : World :=
  { World.holding Ybaf.prog os ⟨#[], #[], []⟩ with heap := (World.holding Ybaf.prog os ⟨#[], #[], []⟩).heap.modify 0 fun
      | .cells _ t frozen => .cells cells2 t frozen
      | o => o }
theorem laid_met (os : Os) (args : Array Value) : laidMet Ybaf.prog Rows.lawS9027AWholeRow.laid ((laidWorld os).forCall (fun _ _ => 0) ⟨#[], args, []⟩).memory :=
  laidMet_of_run (ps := [.cell 0 0, .cell 0 1]) 8 (by kernel_rfl) (by kernel_rfl) (by kernel_rfl)

set_option maxRecDepth 100000 in
theorem a_lifted (os : Os) (started : os.Started) (H : Type) (enc : TypeId × Value → H) :
    ReturnsInTold none {} Ybaf.checked os 3 .any Input.okWide ((OpenSpec.ofChange Rows.lawS9027AWholeSpec).preRow enc Ybaf.prog Ybaf.f3 [] false Rows.lawS9027AWholeRow.laid) (fun F => ((OpenSpec.ofChange Rows.lawS9027AWholeSpec).at F).post enc Ybaf.prog Ybaf.f3 false true false false) (aloneAtReturn Ybaf.prog) nothingAlways := by
  refine returnsInTold_of_row (C := Ybaf.checked) (s := OpenSpec.ofChange Rows.lawS9027AWholeSpec) (by kernel_rfl) own started (by kernel_rfl) Ybaf.func3
    (OpenSpec.witness_stopped_at (enc := enc) (C := Ybaf.checked) false (laidWorld os) #[.int .i64 0] rfl (by kernel_rfl) (by kernel_rfl) (by kernel_rfl)
      (OpenSpec.preRow_of_B rfl 8 (by kernel_rfl) (by kernel_rfl) (laid_met os _))) ?_
  intro F W base args ds gs before _ hF hval0 hW _ _ _ hL _
  have hval : ∀ (j : Nat) t v, Ybaf.f3.params[j]? = some t → args[j]? = some v → Value.okWide Ybaf.prog W .any base t v := hval0
  have hW' := hW
  obtain ⟨p, q, hA0, hV, rfl, hfz, hnd⟩ := hW
  have hA : DataW.TrodAll enc Ybaf.prog W 0 (fun _ => true) true Ybaf.f3.params.toList args.toList ds p := hA0
  rw [Ybaf.params3] at hA hval
  obtain ⟨v0, d0, rfl, rfl, h0⟩ := trodAll_one hA
  obtain ⟨c, rfl, rfl, rfl, wc⟩ := open_int Ybaf.underlying3 (hval 0 3 v0 rfl rfl) h0
  clear hA0 hval0
  have hvar := cells_of_laid hL
  have k0 : W.cell? ⟨0, 0, none⟩ = some (.string (nmB 0)) := by simpa [cells2] using World.var?_cell gN hvar 0
  have k1 : W.cell? ⟨0, 1, none⟩ = some (.string (nmB 1)) := by simpa [cells2] using World.var?_cell gN hvar 1
  have hsz : 0 < W.heap.size := World.block_lt_of_cell? W _ k0
  obtain ⟨lo, hi⟩ := bounds_i64 wc
  have main : Calls Ybaf.prog 3 #[.int .i64 c] W fun e w' => e = .returned (.bool true) ∧ Below W.heap.size W w' := by
    by_cases e0 : c = 0
    · subst e0; exact law_good0 W hsz k0
    · by_cases e1 : c = 1
      · subst e1; exact law_good1 W hsz k1
      · exact law_bad F.told c W hF lo hi (by omega)
  refine main.mono fun e W' ⟨he, bel⟩ => ?_
  subst he
  obtain ⟨g1, rfl⟩ : ∃ g1, gs = [g1] := by
    match gs, hV with
    | [], h => exact h.elim
    | [x], _ => exact ⟨x, rfl⟩
    | x :: y :: r, h =>
      obtain ⟨_, _, _, _, _, _, _, _, _, _, h, _⟩ := h
      exact h.elim
  have hV' := Below.trodVars (enc := enc) (P := Ybaf.prog) laidOut bel (by kernel_rfl) hV
  exact ⟨_, rfl, _, _, _, [], [], _, hW', trodAll_mk1 (shut_bool Ybaf.underlying4 _), trodAll_mk1 (shut_int Ybaf.underlying3 wc), hV', bel.frame _, fun h => by cases h⟩

end Go.Proofs.YbulkgdxsFmt
