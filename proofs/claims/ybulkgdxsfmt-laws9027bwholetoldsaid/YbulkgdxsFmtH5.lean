import Derived.Test.YbulkgdxsFmtH4
import Derived.Deep.QuietTactic
import Derived.BigQuiet
namespace Go.Proofs.YbulkgdxsFmt
open Go.RowKit Go.Extern.Stop Go.Stop Go.Extern

set_option maxRecDepth 100000 in
set_option maxHeartbeats 6400000 in
theorem lawB_none (F : Interp) (fname acct : ByteArray) (X : ByteArray) (pk : Int) (a : Option Addr) (n cap b off : Nat) (xs : List ByteArray) (w : World) (hA : F.answers w.tape) (hn : n ≤ 1048576) (HZ : Hid (n = 0)) (hN : Nms w a n cap b off xs) :
    Calls Ybaf.prog 4 #[.string fname, .slice a n cap, .string acct, .string X, .int .u8 pk, .bool true] w fun e w' => e = .returned (.bool true) ∧ Below w.heap.size w w' := by
  have hnl : ¬ (1048576 : Int) < n := by omega
  have hmk := run_make_cls n hn
  have hbl : ∀ i, i < n → b < w.heap.size := fun i hi => hN.lt (by omega)
  have hz : ¬ (0 : Int) < n := by have := HZ.out; omega
  go_enter Ybaf.func4, Ybaf.ntmps4
  go_wp2_with fail
  go_loopw [14] (fun iv wr => ∃ k : Nat, k ≤ n ∧ iv = .int .i64 k ∧ Below w.heap.size w wr ∧ Hid (w.heap.size < wr.heap.size) ∧ Hid (ClsFn wr w.heap.size n (fun i => if i < k then xs.getD i ⟨#[]⟩ else ⟨#[]⟩)))
    (fun iv _ => n - (intOf iv).toNat)
  case atStart =>
    exact ⟨0, Nat.zero_le _, rfl, (Below.refl _ _).alloc (Nat.le_refl _) _, by show _ < (w.heap.push _).size; simp, World.rowIs.congr (cls_made n w) (fun i hi => by simp)⟩
  case round =>
    obtain ⟨k, hk, rfl, hbel, HS, HC⟩ := hrel
    by_cases hlt : k < n
    · exfalso; have := HZ.out; omega
    · have ekn : k = n := by omega
      subst k
      have hblk : ClsBlk wr w.heap.size xs := ClsFn.blk HC hN.len (fun i hi => by simp only [hi, if_true])
      go_wp2_with fail
      have hS : w.heap.size < wr.heap.size := HS
      have hb1 : Below wr.heap.size wr (wr.alloc (.cells #[.string fname, .int .i64 0, .pointer none, .int .i64 0, .pointer none, .pointer none, .pointer none, .slice (some ⟨w.heap.size, 0, none⟩) n n, .int .i64 0, .pointer none, .int .i64 0] 45)) := (Below.refl _ _).alloc (Nat.le_refl _) _
      refine (check_holding F xs acct X fname wr.heap.size w.heap.size _ (by show F.answers wr.tape; rw [hbel.tape]; exact hA) (by rw [hN.len]; exact hn) ⟨by go_simp, by rw [hN.len]; go_simp, hblk.below hb1 hS⟩).mono ?_
      rintro e w5 ⟨⟨ra, rc, rv, rfl, hres⟩, hb5⟩
      have hsz1 : (wr.alloc (.cells #[.string fname, .int .i64 0, .pointer none, .int .i64 0, .pointer none, .pointer none, .pointer none, .slice (some ⟨w.heap.size, 0, none⟩) n n, .int .i64 0, .pointer none, .int .i64 0] 45)).heap.size = wr.heap.size + 1 := by
        show (wr.heap.push _).size = _
        simp
      have q0 : w5.cell? ⟨wr.heap.size, 0, none⟩ = some (.string fname) := (hb5.cell (by rw [hsz1]; simp)).trans (by go_simp)
      have q7 : w5.cell? ⟨wr.heap.size, 7, none⟩ = some (.slice (some ⟨w.heap.size, 0, none⟩) n n) := (hb5.cell (by rw [hsz1]; simp)).trans (by go_simp)
      have hblk5 : ClsBlk w5 w.heap.size xs := (hblk.below hb1 hS).below hb5 (by rw [hsz1]; omega)
      have hlt5 : wr.heap.size < w5.heap.size := by have := hb5.size; rw [hsz1] at this; omega
      have hbw5 : Below w.heap.size w w5 := (hbel.trans (hb1.mono (Nat.le_of_lt hS))).trans (hb5.mono (by rw [hsz1]; omega))
      clear hb1 hb5 hsz1 hblk HC hbel HS
      generalize hfb : wr.heap.size = fb at *
      clear hfb
      have hgl5 : w.heap.size < w5.heap.size := by omega
      go_wp2_with fail
      have hst0 : St w w.heap.size fb w5.heap.size n fname xs ra rc (w5.alloc (.cells #[.string ra, .string rc] 47)) := by
        have hbb : Below w5.heap.size w5 (w5.alloc (.cells #[.string ra, .string rc] 47)) := (Below.refl _ _).alloc (Nat.le_refl _) _
        exact ⟨hbw5.alloc hbw5.size _, (hbb.cell hlt5).trans q0, (hbb.cell hlt5).trans q7, hblk5.below hbb hgl5, by go_simp, by go_simp⟩
      clear q0 q7 hblk5 hlt5 hgl5 hbw5
      generalize hhb : w5.heap.size = hb at *
      clear hhb
      go_loopw [18] (fun iv wr => ∃ j : Nat, j ≤ n ∧ iv = .int .i64 j ∧ Hid (St w w.heap.size fb hb n fname xs ra rc wr))
        (fun iv _ => n - (intOf iv).toNat)
      case atStart => exact ⟨0, Nat.zero_le _, rfl, hst0⟩
      case round =>
        obtain ⟨j, hj, rfl, HST⟩ := hrel
        have f0 := St.f0 HST
        have f7 := St.f7 HST
        by_cases hjn : j < n
        · exfalso; have := HZ.out; omega
        · have ejn : j = n := by omega
          subst j
          go_wp2_with fail
          go_loopw [19, 20] (fun fv iv wr => ∃ k : Nat, k ≤ n ∧ fv = .bool false ∧ iv = .int .i64 k ∧ Hid (St w w.heap.size fb hb n fname xs ra rc wr) ∧ Hid (∀ i, i < k → hasAt xs X i = false))
            (fun _ iv _ => n - (intOf iv).toNat)
          case atStart => exact ⟨0, Nat.zero_le _, rfl, rfl, HST, fun i hi => by omega⟩
          case round =>
            clear HST f0 f7 hst0
            obtain ⟨k, hk, rfl, rfl, HST, HNO⟩ := hrel
            have h0 := St.h0 HST
            have h1 := St.h1 HST
            by_cases hkn : k < n
            · exfalso; have := HZ.out; omega
            · have ekn : k = n := by omega
              subst k
              have HB : Hid (Below w.heap.size w wr) := St.bel HST
              rcases hres with ⟨hc, rfl, rfl, q, rfl⟩ | ⟨hac, rfl, ⟨i, hi, hati, hrc⟩, rfl⟩
              · cases hac : (acct.toList == ([] : List UInt8)) with
                | true =>
                  go_wp2
                  go_ret
                  exact ⟨rfl, HB⟩
                | false =>
                  go_wp2
                  go_ret
                  exact ⟨rfl, HB⟩
              · exfalso
                have h2 := HNO i (by rw [← hN.len]; exact hi)
                rw [hati] at h2
                cases h2

end Go.Proofs.YbulkgdxsFmt
