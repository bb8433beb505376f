import Derived.Test.YbulkgdxsFmtF1
import Derived.WalkKit
import Derived.WalkSpells
namespace Go.Proofs.YbulkgdxsFmt
open Go.RowKit Go.Extern.Stop Go.Stop Go.Extern

set_option maxHeartbeats 800000 in
theorem mark_string (F : Interp) (n : Int) (w : World) (hF : F.answers w.tape) (lo : -9223372036854775808 ≤ n) (hi : n ≤ 9223372036854775807) (hn : n < 0 ∨ 2 ≤ n) :
    Calls Ybaf.prog 11 #[.int .i64 n] w fun e w' => (∃ s : ByteArray, e = .returned (.string s)) ∧ Below w.heap.size w w' := by
  have hF' := answers_open hF
  go_enter Ybaf.func11, Ybaf.ntmps11
  go_wp2
  all_goals first | (exfalso; omega) | skip
  all_goals
    go_ret
    exact ⟨⟨_, rfl⟩, ((Below.refl _ _).alloc (Nat.le_refl _) _).drew⟩

set_option maxHeartbeats 1600000 in
theorem marshal_bad (F : Interp) (n : Int) (w : World) (hF : F.answers w.tape) (lo : -9223372036854775808 ≤ n) (hi : n ≤ 9223372036854775807) (hn : n < 0 ∨ 2 ≤ n) :
    Calls Ybaf.prog 5 #[.int .i64 n] w fun e w' => (∃ p : Value, e = .returned (.tuple #[.slice none 0 0, .iface 59 p])) ∧ Below w.heap.size w w' := by
  have hF' := answers_open hF
  go_enter Ybaf.func5, Ybaf.ntmps5
  go_wp2
  all_goals try (exfalso; omega)
  all_goals
    apply rows_call Ybaf.nextTurns
    case hr =>
      go_simp
      exact ⟨⟨rfl, rfl, rfl⟩, rfl⟩
    case hi => exact Ybaf.invokeString22 _ _
    case hc =>
      refine (mark_string F n _ (by exact hF) lo hi hn).mono fun e w₃ ⟨⟨s, he⟩, hx⟩ => ?_
      subst he
      have hF3 : F.answers w₃.tape := by rw [hx.tape]; exact hF
      have hF3' := answers_open hF3
      apply rows_value Ybaf.nextReturned
      case hr =>
        go_simp
        exact ⟨rfl, rfl⟩
      case h =>
        go_wp2
        go_ret2
        refine ⟨⟨_, rfl⟩, ?_⟩
        have h0 : Below w.heap.size w (w.alloc (.cells #[.iface 22 (.int .i64 n)] 20)) := (Below.refl _ _).alloc (Nat.le_refl _) _
        have h1 : Below w.heap.size w w₃ := h0.trans (hx.mono h0.size)
        exact (h1.alloc h1.size _).drew


set_option maxHeartbeats 1600000 in
theorem marshal_good0 (s : ByteArray) (w : World) (hc : w.cell? ⟨0, 0, none⟩ = some (.string s)) :
    Calls Ybaf.prog 5 #[.int .i64 0] w fun e w' => e = .returned (.tuple #[.slice (some ⟨w.heap.size, 0, none⟩) s.size (grownCap w s.size 0 5), .nilIface]) ∧
      w' = (w.drew.alloc (.cells (bytesRow s (grownCap w s.size 0 5)) 5 ((bytesRow s (grownCap w s.size 0 5)).size, (bytesRow s (grownCap w s.size 0 5)).size + 1))) := by
  have hcv : (convert 9 23 (.string s)).run Ybaf.prog w = _ := run_bytes_of_string w 9 23 5 s Ybaf.underlying9 Ybaf.underlying23 Ybaf.underlying5
  generalize hg : grownCap w s.size 0 5 = cap at hcv ⊢
  generalize hr : bytesRow s cap = row at hcv ⊢
  go_enter Ybaf.func5, Ybaf.ntmps5
  go_wp2
  go_ret2
  exact ⟨rfl, rfl⟩

set_option maxHeartbeats 1600000 in
theorem marshal_good1 (s : ByteArray) (w : World) (hc : w.cell? ⟨0, 1, none⟩ = some (.string s)) :
    Calls Ybaf.prog 5 #[.int .i64 1] w fun e w' => e = .returned (.tuple #[.slice (some ⟨w.heap.size, 0, none⟩) s.size (grownCap w s.size 0 5), .nilIface]) ∧
      w' = (w.drew.alloc (.cells (bytesRow s (grownCap w s.size 0 5)) 5 ((bytesRow s (grownCap w s.size 0 5)).size, (bytesRow s (grownCap w s.size 0 5)).size + 1))) := by
  have hcv : (convert 9 23 (.string s)).run Ybaf.prog w = _ := run_bytes_of_string w 9 23 5 s Ybaf.underlying9 Ybaf.underlying23 Ybaf.underlying5
  generalize hg : grownCap w s.size 0 5 = cap at hcv ⊢
  generalize hr : bytesRow s cap = row at hcv ⊢
  go_enter Ybaf.func5, Ybaf.ntmps5
  go_wp2
  go_ret2
  exact ⟨rfl, rfl⟩

end Go.Proofs.YbulkgdxsFmt
