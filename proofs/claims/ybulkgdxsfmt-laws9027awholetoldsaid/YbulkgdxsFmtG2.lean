import Derived.Test.YbulkgdxsFmtG1
import Derived.Laws.Cover3
namespace Go.Proofs.YbulkgdxsFmt
open Go.RowKit Go.Extern.Stop Go.Stop Go.Extern

@[go_sem] theorem eqnil23 (w : World) (a : Option Addr) (l c : Nat) : (binOp .eql 23 (.slice a l c) (.slice none 0 0)).run Ybaf.prog w = .ok (.bool a.isNone) w := by
  simp only [binOp]
  simp [run_equal_slice_nil w 23 5 a l c Ybaf.underlying23]

def nmB : Nat → ByteArray
  | 0 => ⟨#[112, 117, 114, 99, 104, 97, 115, 101, 100]⟩
  | _ => ⟨#[114, 101, 105, 110, 118, 101, 115, 116]⟩

/-- What a call of MarshalText leaves. -/
structure Made (w : World) (s : ByteArray) (cap : Nat) (w' : World) : Prop where
  bel : Below w.heap.size w w'
  size : w'.heap.size = w.heap.size + 1
  conv : (convert 23 9 (.slice (some ⟨w.heap.size, 0, none⟩) s.size cap)).run Ybaf.prog w' = .ok (.string s) w'
  cell : 0 < s.data.size → ∃ c, w'.cell? ⟨w.heap.size, 0, none⟩ = some c
  frozen : 0 < s.data.size → w'.frozen? ⟨w.heap.size, 0, none⟩ = false

theorem made_of (w : World) (s : ByteArray) (cap : Nat) :
    Made w s cap (w.drew.alloc (.cells (bytesRow s cap) 5 ((bytesRow s cap).size, (bytesRow s cap).size + 1))) := by
  generalize hr : bytesRow s cap = row
  have hrow : ∀ j (hj : j < s.data.size), row[j]? = some (.int .u8 (s.data[j].toNat : Int)) := fun j hj => by rw [← hr]; exact bytesRow_at s cap j hj
  have hsz : s.data.size ≤ row.size := by rw [← hr]; simp [bytesRow]
  have hcell : ∀ j (hj : j < s.data.toList.length), (w.drew.alloc (.cells row 5 (row.size, row.size + 1))).cell? ((⟨w.heap.size, 0, none⟩ : Addr).add j) = some (.int .u8 (s.data.toList[j].toNat : Int)) := by
    intro j hj
    have hj' : j < s.data.size := by simpa using hj
    have h1 := hrow j hj'
    have ea : (⟨w.heap.size, 0, none⟩ : Addr).add j = ⟨w.heap.size, j, none⟩ := by
      unfold Addr.add
      split
      · simp_all
      · simp
    have h2 := World.cell?_alloc_mark w.drew row 5 (row.size, row.size + 1) j
    rw [show w.drew.heap.size = w.heap.size from rfl] at h2
    rw [ea, h2, h1]
    simp
  refine ⟨(Below.refl _ _).drew.alloc (Nat.le_refl _) _, ?_, ?_, ?_, ?_⟩
  · show (w.heap.push _).size = _
    simp
  · have := run_convert_bytes_back (P := Ybaf.prog) _ 23 9 5 ⟨w.heap.size, 0, none⟩ cap s.data.toList Ybaf.underlying23 Ybaf.underlying5 Ybaf.underlying9 hcell
    simpa using this
  · intro h
    have := hcell 0 (by simpa using h)
    exact ⟨_, by simpa [Addr.add] using this⟩
  · intro h
    have := World.frozen?_alloc_mark w.drew row 5 row.size (row.size + 1) 0
    rw [show w.drew.heap.size = w.heap.size from rfl] at this
    rw [this]
    have : ¬ row.size ≤ 0 := by omega
    simp [this]

theorem marshal0 (w : World) (hc : w.cell? ⟨0, 0, none⟩ = some (.string (nmB 0))) :
    Calls Ybaf.prog 5 #[.int .i64 0] w fun e w' => ∃ cap, e = .returned (.tuple #[.slice (some ⟨w.heap.size, 0, none⟩) 9 cap, .nilIface]) ∧ Made w (nmB 0) cap w' := by
  refine (marshal_good0 (nmB 0) w hc).mono fun e w' ⟨he, hw⟩ => ⟨grownCap w (nmB 0).size 0 5, he, ?_⟩
  rw [hw]; exact made_of _ _ _
theorem marshal1 (w : World) (hc : w.cell? ⟨0, 1, none⟩ = some (.string (nmB 1))) :
    Calls Ybaf.prog 5 #[.int .i64 1] w fun e w' => ∃ cap, e = .returned (.tuple #[.slice (some ⟨w.heap.size, 0, none⟩) 8 cap, .nilIface]) ∧ Made w (nmB 1) cap w' := by
  refine (marshal_good1 (nmB 1) w hc).mono fun e w' ⟨he, hw⟩ => ⟨grownCap w (nmB 1).size 0 5, he, ?_⟩
  rw [hw]; exact made_of _ _ _

set_option maxRecDepth 100000 in
set_option maxHeartbeats 1600000 in
theorem law_bad (F : Interp) (n : Int) (w : World) (hF : F.answers w.tape) (lo : -9223372036854775808 ≤ n) (hi : n ≤ 9223372036854775807) (hn : n < 0 ∨ 2 ≤ n) :
    Calls Ybaf.prog 3 #[.int .i64 n] w fun e w' => e = .returned (.bool true) ∧ Below w.heap.size w w' := by
  go_enter Ybaf.func3, Ybaf.ntmps3
  go_wp2_with fail
  refine (marshal_bad F n _ hF lo hi hn).mono ?_
  rintro e w1 ⟨⟨p, rfl⟩, hb⟩
  have h0 : (n == 0) = false := by simp; omega
  have h1 : (n == 1) = false := by simp; omega
  go_wp2
  go_ret
  exact ⟨rfl, hb⟩

set_option maxRecDepth 100000 in
set_option maxHeartbeats 1600000 in
theorem law_good0 (w : World) (hsz : 0 < w.heap.size) (hc : w.cell? ⟨0, 0, none⟩ = some (.string (nmB 0))) :
    Calls Ybaf.prog 3 #[.int .i64 0] w fun e w' => e = .returned (.bool true) ∧ Below w.heap.size w w' := by
  have hl : ((nmB 0).toList == [112, 117, 114, 99, 104, 97, 115, 101, 100]) = true := by kernel_rfl
  have hN : (nmB 0).size = 9 := rfl
  go_enter Ybaf.func3, Ybaf.ntmps3
  go_wp2_with fail
  refine (marshal0 _ hc).mono ?_
  rintro e w1 ⟨cap, rfl, hm⟩
  have conv1 := hm.conv
  obtain ⟨c, hcell⟩ := hm.cell (by decide)
  have hfz := hm.frozen (by decide)
  rw [hN] at conv1
  have hb1 := hm.bel
  go_wp2_with fail
  have hb2 : Below w.heap.size w (w1.setCell ⟨w.heap.size, 0, none⟩ (.int .u8 88)) := hb1.setCell (Nat.le_refl _) _
  refine (marshal0 _ ?_).mono ?_
  · rw [hb2.cell (by exact hsz)]; exact hc
  rintro e w2 ⟨cap2, rfl, hm2⟩
  have conv2 := hm2.conv
  rw [hN, show (w1.setCell ⟨w.heap.size, 0, none⟩ (.int .u8 88)).heap.size = w1.heap.size from by simp [World.setCell]] at conv2
  go_wp2
  go_ret
  exact ⟨rfl, hb2.trans (hm2.bel.mono hb2.size)⟩

set_option maxRecDepth 100000 in
set_option maxHeartbeats 1600000 in
theorem law_good1 (w : World) (hsz : 0 < w.heap.size) (hc : w.cell? ⟨0, 1, none⟩ = some (.string (nmB 1))) :
    Calls Ybaf.prog 3 #[.int .i64 1] w fun e w' => e = .returned (.bool true) ∧ Below w.heap.size w w' := by
  have hl : ((nmB 1).toList == [114, 101, 105, 110, 118, 101, 115, 116]) = true := by kernel_rfl
  have hN : (nmB 1).size = 8 := rfl
  go_enter Ybaf.func3, Ybaf.ntmps3
  go_wp2_with fail
  refine (marshal1 _ hc).mono ?_
  rintro e w1 ⟨cap, rfl, hm⟩
  have conv1 := hm.conv
  obtain ⟨c, hcell⟩ := hm.cell (by decide)
  have hfz := hm.frozen (by decide)
  rw [hN] at conv1
  have hb1 := hm.bel
  go_wp2_with fail
  have hb2 : Below w.heap.size w (w1.setCell ⟨w.heap.size, 0, none⟩ (.int .u8 88)) := hb1.setCell (Nat.le_refl _) _
  refine (marshal1 _ ?_).mono ?_
  · rw [hb2.cell (by exact hsz)]; exact hc
  rintro e w2 ⟨cap2, rfl, hm2⟩
  have conv2 := hm2.conv
  rw [hN, show (w1.setCell ⟨w.heap.size, 0, none⟩ (.int .u8 88)).heap.size = w1.heap.size from by simp [World.setCell]] at conv2
  go_wp2
  go_ret
  exact ⟨rfl, hb2.trans (hm2.bel.mono hb2.size)⟩

end Go.Proofs.YbulkgdxsFmt
