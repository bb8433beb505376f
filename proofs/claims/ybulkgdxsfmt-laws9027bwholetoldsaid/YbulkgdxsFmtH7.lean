import Derived.Test.YbulkgdxsFmtRows
import Derived.Test.YbulkgdxsFmtH4
import Derived.Test.YbulkgdxsFmtH5
import Derived.Test.YbulkgdxsFmtH6
import Derived.ProofKit
import Derived.OpenShut
import Derived.ShutString
import Derived.SliceStrings
import Derived.ChangeOld
import Derived.Carry
import Derived.Stop.JoinedAt
import Derived.Stop.JoinedTold
namespace Go.Proofs.YbulkgdxsFmt.lawB
open Go.ChangeShapes Go.WideShapes Go.ChangeAt Go.RowKit Go.Kit
open Go.ChangeMaps (open_string shut_string)
open Go.Extern.Stop Go.Stop Go.Extern

theorem own : ownKnob Ybaf.prog.godebug = none := by kernel_rfl
theorem laidOut : laidOutB Ybaf.prog = true := by kernel_rfl

theorem index_any (b off n cap i : Nat) (hi : i < n) (w : World) : (Instr.indexAt 29 (.slice (some ⟨b, off, none⟩) n cap) (.int .i64 (i : Int))).run Ybaf.prog w = .ok (.pointer (some ⟨b, off + i, none⟩)) w := by
  have h1 : (i : Int) < (n : Int) := by omega
  go_simp

theorem short (F : Interp) (fname acct Y : ByteArray) (p : Nat) (hp : p ≤ 255) (use : Bool) (a : Option Addr) (n cap b off : Nat) (xs : List ByteArray) (w : World) (hA : F.answers w.tape) (hn : n ≤ 1048576) (hN : Nms w a n cap b off xs) :
    Calls Ybaf.prog 4 #[.string fname, .slice a n cap, .string acct, .string Y, .int .u8 (p : Int), .bool use] w fun e w' => e = .returned (.bool true) ∧ Below w.heap.size w w' := by
  cases use with
  | false => exact lawB_off F fname acct Y p a n cap b off xs w hA hn hN
  | true =>
    by_cases h0 : n = 0
    · exact lawB_none F fname acct Y p a n cap b off xs w hA hn h0 hN
    · exact lawB_pick F fname acct Y (xs.getD (p % n) ⟨#[]⟩) p a n cap b off xs w hA hn (by omega) hp rfl hN

def IsStrs (w : World) (a : Option Addr) (len cap : Nat) (ss : List ByteArray) : Prop :=
  (a = none ∧ len = 0 ∧ cap = 0 ∧ ss = []) ∨
  ∃ x, a = some x ∧ len ≤ cap ∧ cap ≤ maxLen ∧ ss.length = cap ∧ ∀ i, i < ss.length → w.cell? (x.add i) = some (.string (ss.getD i ByteArray.empty))

theorem walk (F : Interp) (fname acct Y : ByteArray) (p : Nat) (hp : p ≤ 255) (use : Bool) (a : Option Addr) (n cap : Nat) (ss : List ByteArray) (w : World) (hA : F.answers w.tape) (hs : IsStrs w a n cap ss) :
    Calls Ybaf.prog 4 #[.string fname, .slice a n cap, .string acct, .string Y, .int .u8 (p : Int), .bool use] w fun e w' => e = .returned (.bool true) ∧ Below w.heap.size w w' := by
  rcases hs with ⟨rfl, rfl, rfl, rfl⟩ | ⟨x, rfl, hl, hm, hz, hcell⟩
  · exact short F fname acct Y p hp use none 0 0 0 0 [] w hA (by omega) ⟨rfl, fun i h => absurd h (by omega), fun i h => absurd h (by omega), fun h => absurd h (by omega)⟩
  · by_cases hlong : 1048576 < n
    · exact lawB_long _ (some x) n cap _ _ _ _ w hlong (by unfold maxLen at hm; omega)
    · by_cases h0 : n = 0
      · subst h0
        exact short F fname acct Y p hp use (some x) 0 cap 0 0 [] w hA (by omega) ⟨rfl, fun i h => absurd h (by omega), fun i h => absurd h (by omega), fun h => absurd h (by omega)⟩
      · obtain ⟨b, off, spot⟩ := x
        have hc := hcell 0 (by omega)
        have hspot : spot = none := by simpa [Addr.add] using World.cell?_spot hc
        subst hspot
        have hcp : ∀ i, i < ss.length → w.cell? ⟨b, off + i, none⟩ = some (.string (ss.getD i ByteArray.empty)) := fun i hi => by rw [← add_plain]; exact hcell i hi
        refine short F fname acct Y p hp use (some ⟨b, off, none⟩) n cap b off (ss.take n) w hA (by omega) ⟨by rw [List.length_take]; omega, fun i hi w' => index_any b off n cap i hi w', fun i hi => ?_, fun _ => ?_⟩
        · rw [hcp i (by omega)]
          have e1 : i < ss.length := by omega
          simp [List.getD, List.getElem?_eq_getElem e1, hi]
        · exact World.block_lt_of_cell? w _ (hcp 0 (by omega))

set_option maxRecDepth 100000 in
theorem lifted (os : Os) (started : os.Started) (H : Type) (enc : TypeId × Value → H) :
    ReturnsInTold none {} Ybaf.checked os 4 .any Input.okWide ((OpenSpec.ofChange Rows.lawS9027BWholeSpec).preRow enc Ybaf.prog Ybaf.f4 [] false []) (fun F => ((OpenSpec.ofChange Rows.lawS9027BWholeSpec).at F).post enc Ybaf.prog Ybaf.f4 false true false false) (aloneAtReturn Ybaf.prog) nothingAlways := by
  refine returnsInTold_of_row (C := Ybaf.checked) (s := OpenSpec.ofChange Rows.lawS9027BWholeSpec) (by kernel_rfl) own started (by kernel_rfl) Ybaf.func4
    (OpenSpec.witness_stopped (enc := enc) (C := Ybaf.checked) false ⟨#[], #[.string ⟨#[]⟩, .slice none 0 0, .string ⟨#[]⟩, .string ⟨#[]⟩, .int .u8 0, .bool false], []⟩ 8 (by kernel_rfl) (by kernel_rfl) (by kernel_rfl) (by kernel_rfl)) ?_
  intro F W base args ds gs before _ hF hval0 hW _ _ _ _ _
  have hval : ∀ (j : Nat) t v, Ybaf.f4.params[j]? = some t → args[j]? = some v → Value.okWide Ybaf.prog W .any base t v := hval0
  have hW' := hW
  obtain ⟨p, q, hA0, hV, rfl, hfz, hnd⟩ := hW
  have hA : DataW.TrodAll enc Ybaf.prog W 0 (fun _ => true) true Ybaf.f4.params.toList args.toList ds p := hA0
  rw [Ybaf.params4] at hA hval
  obtain ⟨v0, vs0, d0, ds0, p0, q0, hargs, rfl, rfl, h0, r0⟩ := trodAll_cons hA
  obtain ⟨v1, vs1, d1, ds1, p1, q1, rfl, rfl, rfl, h1, r1⟩ := trodAll_cons r0
  obtain ⟨v2, vs2, d2, ds2, p2, q2, rfl, rfl, rfl, h2, r2⟩ := trodAll_cons r1
  obtain ⟨v3, vs3, d3, ds3, p3, q3, rfl, rfl, rfl, h3, r3⟩ := trodAll_cons r2
  obtain ⟨v4, vs4, d4, ds4, p4, q4, rfl, rfl, rfl, h4, r4⟩ := trodAll_cons r3
  obtain ⟨v5, vs5, d5, ds5, p5, q5, rfl, rfl, rfl, h5, r5⟩ := trodAll_cons r4
  obtain ⟨rfl, rfl, rfl⟩ := trodAll_nil r5
  obtain rfl : args = #[v0, v1, v2, v3, v4, v5] := by cases args; simp_all
  obtain ⟨rfl, rfl⟩ := trodVars_none hV
  obtain ⟨s0, rfl, rfl, rfl, w0⟩ := open_string Ybaf.underlying9 (hval 0 9 v0 rfl rfl) h0
  obtain ⟨a1, len1, cap1, rfl⟩ := okWide_slice Ybaf.underlying29 (hval 1 29 v1 rfl rfl)
  obtain ⟨s2, rfl, rfl, rfl, w2⟩ := open_string Ybaf.underlying9 (hval 2 9 v2 rfl rfl) h2
  obtain ⟨s3, rfl, rfl, rfl, w3⟩ := open_string Ybaf.underlying9 (hval 3 9 v3 rfl rfl) h3
  obtain ⟨c4, rfl, rfl, rfl, w4⟩ := open_int Ybaf.underlying5 (hval 4 5 v4 rfl rfl) h4
  obtain ⟨u5, rfl, rfl, rfl⟩ := open_bool Ybaf.underlying4 (hval 5 4 v5 rfl rfl) h5
  have k1 := h1
  have lt1 : ∀ x ∈ p1, x.block < W.heap.size := by obtain ⟨m, hm⟩ := k1; exact DataW.trod_lt m _ _ _ hm
  obtain ⟨ss, hs⟩ : ∃ ss, IsStrs W a1 len1 cap1 ss := by
    obtain ⟨fuel, hf⟩ := h1
    rcases open_strings Ybaf.underlying29 Ybaf.underlying9 (by kernel_rfl) hf with ⟨hcs, _⟩ | ⟨x, l, c, zs, hcs, _, hl, hm, hz, _, hcell, _⟩
    · simp [Value.cells] at hcs
      obtain ⟨rfl, rfl, rfl⟩ := hcs
      exact ⟨[], .inl ⟨rfl, rfl, rfl, rfl⟩⟩
    · simp [Value.cells] at hcs
      obtain ⟨rfl, rfl, rfl⟩ := hcs
      exact ⟨zs, .inr ⟨_, rfl, hl, hm, by simpa using hz, hcell⟩⟩
  clear hA0 hval0
  have hb8 := bounds_u8 w4
  obtain ⟨p, rfl⟩ : ∃ p : Nat, c4 = (p : Int) := ⟨c4.toNat, by omega⟩
  simp only [List.append_nil, List.nil_append] at hW'
  refine (walk F.told s0 s2 s3 p (by omega) u5 a1 len1 cap1 ss W hF hs).mono fun e W' ⟨he, bel⟩ => ?_
  subst he
  exact ⟨_, rfl, _, _, _, [], _, [], hW', trodAll_mk1 (shut_bool Ybaf.underlying4 _), (trodAll_cons_mk (shut_string Ybaf.underlying9 w0) (trodAll_cons_mk (Below.trod laidOut (by kernel_rfl) (of_decide_eq_true (by kernel_rfl)) k1 bel lt1) (trodAll_cons_mk (shut_string Ybaf.underlying9 w2) (trodAll_cons_mk (shut_string Ybaf.underlying9 w3) (trodAll_cons_mk (shut_int Ybaf.underlying5 w4) (trodAll_cons_mk (shut_bool Ybaf.underlying4 _) trodAll_mk0)))))), rfl, bel.frame _, fun h => by cases h⟩
end Go.Proofs.YbulkgdxsFmt.lawB
