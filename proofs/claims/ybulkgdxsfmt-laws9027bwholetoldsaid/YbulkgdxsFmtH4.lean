import Derived.Test.YbulkgdxsFmtH3
import Derived.Deep.QuietTactic
import Derived.BigQuiet
namespace Go.Proofs.YbulkgdxsFmt
open Go.RowKit Go.Extern.Stop Go.Stop Go.Extern

structure St (w : World) (G fb hb n : Nat) (fname : ByteArray) (xs : List ByteArray) (ra rc : ByteArray) (wr : World) : Prop where
  bel : Below w.heap.size w wr
  f0 : wr.cell? ⟨fb, 0, none⟩ = some (.string fname)
  f7 : wr.cell? ⟨fb, 7, none⟩ = some (.slice (some ⟨G, 0, none⟩) n n)
  blk : ClsBlk wr G xs
  h0 : wr.cell? ⟨hb, 0, none⟩ = some (.string ra)
  h1 : wr.cell? ⟨hb, 1, none⟩ = some (.string rc)

theorem St.drewN {w : World} {G fb hb n : Nat} {fname : ByteArray} {xs : List ByteArray} {ra rc : ByteArray} {wr : World} (h : St w G fb hb n fname xs ra rc wr) (q : Nat) : St w G fb hb n fname xs ra rc (wr.drewN q) where
  bel := ⟨h.bel.os, h.bel.tape, h.bel.output, h.bel.size, h.bel.block⟩
  f0 := (World.cell?_drewN wr q _).trans h.f0
  f7 := (World.cell?_drewN wr q _).trans h.f7
  blk := World.rowIs.of_block (w := wr) h.blk (by rw [World.heap_drewN])
  h0 := (World.cell?_drewN wr q _).trans h.h0
  h1 := (World.cell?_drewN wr q _).trans h.h1

theorem clsCell0 (s : ByteArray) : clsCell s 0 = .string s := rfl
theorem clsCell1 (s : ByteArray) : clsCell s 1 = .slice none 0 0 := rfl
theorem clsCell2 (s : ByteArray) : clsCell s 2 = .slice none 0 0 := rfl
theorem clsCell3 (s : ByteArray) : clsCell s 3 = .slice none 0 0 := rfl
theorem ClsBlk.at0 {w : World} {g : Nat} {xs : List ByteArray} (h : ClsBlk w g xs) {i : Nat} (hi : i < xs.length) : w.cell? ⟨g, i * 19, none⟩ = some (.string (xs.getD i ⟨#[]⟩)) := by
  have h1 := h.cell hi (j := 0) (by omega)
  rw [Nat.add_zero, clsCell0] at h1
  exact h1
theorem ClsBlk.at1 {w : World} {g : Nat} {xs : List ByteArray} (h : ClsBlk w g xs) {i : Nat} (hi : i < xs.length) : w.cell? ⟨g, i * 19 + 1, none⟩ = some (.slice none 0 0) := by
  have h1 := h.cell hi (j := 1) (by omega)
  rw [clsCell1] at h1
  exact h1
theorem ClsBlk.at2 {w : World} {g : Nat} {xs : List ByteArray} (h : ClsBlk w g xs) {i : Nat} (hi : i < xs.length) : w.cell? ⟨g, i * 19 + 2, none⟩ = some (.slice none 0 0) := by
  have h1 := h.cell hi (j := 2) (by omega)
  rw [clsCell2] at h1
  exact h1
theorem ClsBlk.at3 {w : World} {g : Nat} {xs : List ByteArray} (h : ClsBlk w g xs) {i : Nat} (hi : i < xs.length) : w.cell? ⟨g, i * 19 + 3, none⟩ = some (.slice none 0 0) := by
  have h1 := h.cell hi (j := 3) (by omega)
  rw [clsCell3] at h1
  exact h1

set_option maxRecDepth 100000 in
set_option maxHeartbeats 1600000 in
theorem lawB_long (F0 : Value) (a : Option Addr) (n cap : Nat) (x2 x3 x4 x5 : Value) (w : World) (hn : 1048576 < n) (hm : n ≤ 9223372036854775807) :
    Calls Ybaf.prog 4 #[F0, .slice a n cap, x2, x3, x4, x5] w fun e w' => e = .returned (.bool true) ∧ Below w.heap.size w w' := by
  have h1 : (1048576 : Int) < n := by omega
  go_enter Ybaf.func4, Ybaf.ntmps4
  go_wp2
  go_ret
  exact ⟨rfl, Below.refl _ _⟩

set_option maxRecDepth 100000 in
set_option maxHeartbeats 6400000 in
theorem lawB_off (F : Interp) (fname acct : ByteArray) (X : ByteArray) (pk : Int) (a : Option Addr) (n cap b off : Nat) (xs : List ByteArray) (w : World) (hA : F.answers w.tape) (hn : n ≤ 1048576) (hN : Nms w a n cap b off xs) :
    Calls Ybaf.prog 4 #[.string fname, .slice a n cap, .string acct, .string X, .int .u8 pk, .bool false] w fun e w' => e = .returned (.bool true) ∧ Below w.heap.size w w' := by
  have hnl : ¬ (1048576 : Int) < n := by omega
  have hmk := run_make_cls n hn
  have hbl : ∀ i, i < n → b < w.heap.size := fun i hi => hN.lt (by omega)
  go_enter Ybaf.func4, Ybaf.ntmps4
  go_wp2_with fail
  go_loopw [14] (fun iv wr => ∃ k : Nat, k ≤ n ∧ iv = .int .i64 k ∧ Below w.heap.size w wr ∧ Hid (w.heap.size < wr.heap.size) ∧ Hid (ClsFn wr w.heap.size n (fun i => if i < k then xs.getD i ⟨#[]⟩ else ⟨#[]⟩)))
    (fun iv _ => n - (intOf iv).toNat)
  case atStart =>
    exact ⟨0, Nat.zero_le _, rfl, (Below.refl _ _).alloc (Nat.le_refl _) _, by show _ < (w.heap.push _).size; simp, World.rowIs.congr (cls_made n w) (fun i hi => by simp)⟩
  case round =>
    obtain ⟨k, hk, rfl, hbel, HS, HC⟩ := hrel
    by_cases hlt : k < n
    · have hki : (k : Int) < n := by omega
      have hix := hN.ix k hlt
      have hcx : wr.cell? ⟨b, off + k, none⟩ = some (.string (xs.getD k ⟨#[]⟩)) := (hbel.cell (hbl k hlt)).trans (hN.cell k hlt)
      obtain ⟨x, hx⟩ : ∃ x, xs.getD k ⟨#[]⟩ = x := ⟨_, rfl⟩
      rw [hx] at hcx
      have hcg := ClsFn.cell HC hlt
      have hfz := ClsFn.frozen HC (k * 19)
      obtain ⟨y, hy⟩ : ∃ y, (if k < k then xs.getD k ⟨#[]⟩ else (⟨#[]⟩ : ByteArray)) = y := ⟨_, rfl⟩
      rw [hy] at hcg
      go_wp2
      go_roundw
      case rel => exact ⟨k + 1, by omega, by simp, hbel.setCell (Nat.le_refl _) _, by rw [World.setCell]; simpa using HS, World.rowIs.congr (ClsFn.set HC k x) (fun i hi => by
          by_cases e : i / 19 = k
          · simp only [e, if_true, ← hx, show k < k + 1 by omega]
          · by_cases e2 : i / 19 < k
            · simp only [if_neg e, e2, if_true, show i / 19 < k + 1 by omega]
            · simp only [if_neg e, if_neg e2, if_neg (show ¬ i / 19 < k + 1 by omega)])⟩
      case measure => simp [intOf]; omega
    · have ekn : k = n := by omega
      subst k
      have hblk : ClsBlk wr w.heap.size xs := ClsFn.blk HC hN.len (fun i hi => by simp only [hi, if_true])
      go_wp2_with fail
      have hS : w.heap.size < wr.heap.size := HS
      have hb1 : Below wr.heap.size wr (wr.alloc (.cells #[.string fname, .int .i64 0, .pointer none, .int .i64 0, .pointer none, .pointer none, .pointer none, .slice (some ⟨w.heap.size, 0, none⟩) n n, .int .i64 0, .pointer none, .int .i64 0] 45)) := (Below.refl _ _).alloc (Nat.le_refl _) _
      refine (check_holding F xs acct X fname wr.heap.size w.heap.size _ (by show F.answers wr.tape; rw [hbel.tape]; exact hA) (by rw [hN.len]; exact hn) ⟨by go_simp, by rw [hN.len]; go_simp, hblk.below hb1 hS⟩).mono ?_
      rintro e w5 ⟨⟨ra, rc, rv, rfl, hres⟩, hb5⟩
      have hsz1 : (wr.alloc (.cells #[.string fname, .int .i64 0, .pointer none, .int .i64 0, .pointer none, .pointer none, .pointer none, .slice (some ⟨w.heap.size, 0, none⟩) n n, .int .i64 0, .pointer none, .int .i64 0] 45)).heap.size = wr.heap.size + 1 := by
        show (wr.heap.push _).size = _
        simp
      have q0 : w5.cell? ⟨wr.heap.size, 0, none⟩ = some (.string fname) := (hb5.cell (by rw [hsz1]; simp)).trans (by go_simp)
      have q7 : w5.cell? ⟨wr.heap.size, 7, none⟩ = some (.slice (some ⟨w.heap.size, 0, none⟩) n n) := (hb5.cell (by rw [hsz1]; simp)).trans (by go_simp)
      have hblk5 : ClsBlk w5 w.heap.size xs := (hblk.below hb1 hS).below hb5 (by rw [hsz1]; omega)
      have hlt5 : wr.heap.size < w5.heap.size := by have := hb5.size; rw [hsz1] at this; omega
      have hbw5 : Below w.heap.size w w5 := (hbel.trans (hb1.mono (Nat.le_of_lt hS))).trans (hb5.mono (by rw [hsz1]; omega))
      clear hb1 hb5 hsz1 hblk HC hbel HS
      generalize hfb : wr.heap.size = fb at *
      clear hfb
      have hgl5 : w.heap.size < w5.heap.size := by omega
      go_wp2_with fail
      have hst0 : St w w.heap.size fb w5.heap.size n fname xs ra rc (w5.alloc (.cells #[.string ra, .string rc] 47)) := by
        have hbb : Below w5.heap.size w5 (w5.alloc (.cells #[.string ra, .string rc] 47)) := (Below.refl _ _).alloc (Nat.le_refl _) _
        exact ⟨hbw5.alloc hbw5.size _, (hbb.cell hlt5).trans q0, (hbb.cell hlt5).trans q7, hblk5.below hbb hgl5, by go_simp, by go_simp⟩
      clear q0 q7 hblk5 hlt5 hgl5 hbw5
      generalize hhb : w5.heap.size = hb at *
      clear hhb
      go_loopw [18] (fun iv wr => ∃ j : Nat, j ≤ n ∧ iv = .int .i64 j ∧ Hid (St w w.heap.size fb hb n fname xs ra rc wr))
        (fun iv _ => n - (intOf iv).toNat)
      case atStart => exact ⟨0, Nat.zero_le _, rfl, hst0⟩
      case round =>
        obtain ⟨j, hj, rfl, HST⟩ := hrel
        have f0 := St.f0 HST
        have f7 := St.f7 HST
        by_cases hjn : j < n
        · have hji : (j : Int) < n := by omega
          have hjl : j < xs.length := by rw [hN.len]; exact hjn
          have hix := hN.ix j hjn
          have hcx : wr.cell? ⟨b, off + j, none⟩ = some (.string (xs.getD j ⟨#[]⟩)) := ((St.bel HST).cell (hbl j hjn)).trans (hN.cell j hjn)
          have e0 := ClsBlk.at0 (St.blk HST) hjl
          have e1 := ClsBlk.at1 (St.blk HST) hjl
          have e2 := ClsBlk.at2 (St.blk HST) hjl
          have e3 := ClsBlk.at3 (St.blk HST) hjl
          obtain ⟨x, hx⟩ : ∃ x, xs.getD j ⟨#[]⟩ = x := ⟨_, rfl⟩
          rw [hx] at hcx e0
          go_wp2_with (go_quiet (fail))
          exact ⟨⟨j + 1, by omega, by simp, St.drewN HST nq⟩, by simp [intOf]; omega⟩
        · have ejn : j = n := by omega
          subst j
          go_wp2_with fail
          go_loopw [19, 20] (fun fv iv wr => ∃ k : Nat, k ≤ n ∧ fv = .bool false ∧ iv = .int .i64 k ∧ Hid (St w w.heap.size fb hb n fname xs ra rc wr) ∧ Hid (∀ i, i < k → hasAt xs X i = false))
            (fun _ iv _ => n - (intOf iv).toNat)
          case atStart => exact ⟨0, Nat.zero_le _, rfl, rfl, HST, fun i hi => by omega⟩
          case round =>
            clear HST f0 f7 hst0
            obtain ⟨k, hk, rfl, rfl, HST, HNO⟩ := hrel
            have h0 := St.h0 HST
            have h1 := St.h1 HST
            by_cases hkn : k < n
            · have hki : (k : Int) < n := by omega
              have hix := hN.ix k hkn
              have hcx : wr.cell? ⟨b, off + k, none⟩ = some (.string (xs.getD k ⟨#[]⟩)) := ((St.bel HST).cell (hbl k hkn)).trans (hN.cell k hkn)
              obtain ⟨x, hx⟩ : ∃ x, xs.getD k ⟨#[]⟩ = x := ⟨_, rfl⟩
              rw [hx] at hcx
              have hat : hasAt xs X k = (x.toList == (X).toList) := by unfold hasAt; rw [hx]
              obtain ⟨q, hq⟩ : ∃ q, (x.toList == (X).toList) = q := ⟨_, rfl⟩
              cases q with
              | false =>
                go_wp2
                exact ⟨⟨k + 1, by omega, rfl, by simp, HST, fun i hi => by
                  by_cases e : i = k
                  · subst e; rw [hat]; exact hq
                  · exact HNO i (by omega)⟩, by simp [intOf]; omega⟩
              | true =>
                have HB : Hid (Below w.heap.size w wr) := St.bel HST
                rcases hres with ⟨hc, rfl, rfl, q, rfl⟩ | ⟨hac, rfl, ⟨i, hi, hati, hrc⟩, rfl⟩
                · have hac : (acct.toList == ([] : List UInt8)) = true := by
                    rcases hc with h | h
                    · exact h
                    · exfalso
                      have h2 := h k (by rw [hN.len]; exact hkn)
                      rw [hat, hq] at h2
                      cases h2
                  go_wp2
                  go_ret
                  exact ⟨rfl, HB⟩
                · have hrx : (rc.toList == (X).toList) = true := by rw [hrc]; exact hati
                  have hrx' : rc.toList = (X).toList := by simpa using hrx
                  clear hrc hati
                  go_wp2
                  go_ret
                  exact ⟨rfl, HB⟩
            · have ekn : k = n := by omega
              subst k
              have HB : Hid (Below w.heap.size w wr) := St.bel HST
              rcases hres with ⟨hc, rfl, rfl, q, rfl⟩ | ⟨hac, rfl, ⟨i, hi, hati, hrc⟩, rfl⟩
              · cases hac : (acct.toList == ([] : List UInt8)) with
                | true =>
                  go_wp2
                  go_ret
                  exact ⟨rfl, HB⟩
                | false =>
                  go_wp2
                  go_ret
                  exact ⟨rfl, HB⟩
              · exfalso
                have h2 := HNO i (by rw [← hN.len]; exact hi)
                rw [hati] at h2
                cases h2

end Go.Proofs.YbulkgdxsFmt
