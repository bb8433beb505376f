import Derived.Test.YbulkgdpqS6
import Derived.Deep.OwnRows
import Derived.Deep.CutRange
import Derived.Deep.DeepCutAuto
import Derived.OpenShut
namespace Go.Proofs.Ybulkgdpq
open Go.RowKit Go.Conc Go.MuLone Go.ChangeMaps


set_option maxRecDepth 100000 in
set_option maxHeartbeats 6400000 in
theorem law_any (a0 a1 a2 a3 : Option Addr) (n0 n1 n2 n3 c0 c1 c2 c3 b0 b1 b2 b3 o0 o1 o2 o3 : Nat) (ks rs : Nat → Int) (ms vs : Nat → Bool) (st0 : Int) (p : Nat) (w : World)
    (I0 : Ints w a0 n0 c0 b0 o0 ks) (I1 : Bools w a1 n1 c1 b1 o1 ms) (I2 : Ints w a2 n2 c2 b2 o2 rs) (I3 : Bools w a3 n3 c3 b3 o3 vs) (hst0 : (Lit.int .i64 st0).wf = true) (hp : p ≤ 255)
    (hn : n0 + n1 + n2 + n3 ≤ 1048576) :
    Calls Yba.prog 3 #[.slice a0 n0 c0, .slice a1 n1 c1, .slice a2 n2 c2, .slice a3 n3 c3, .int .i64 st0, .int .u8 (p : Int)] w fun e w' => e = .returned (.bool true) ∧ Below w.heap.size w w' := by
  have hnl : (n0 : Int) + n1 + n2 + n3 ≤ 1048576 := by omega
  have hn0 : (n0 : Int) ≤ 1048576 := by omega
  have hn1 : (n1 : Int) ≤ 1048576 := by omega
  have hn2 : (n2 : Int) ≤ 1048576 := by omega
  have hn3 : (n3 : Int) ≤ 1048576 := by omega
  go_enter Yba.func3, Yba.ntmps3
  go_upto_region 3 with fail
  go_cut [72] from 65 to 72 (fun v wc => v = .bool (decide (p % 2 = 0 ∧ 0 < n0)) ∧ wc = w)
  case first =>
    by_cases e1 : p % 2 = 0
    · have e1' : ((p : Int) % 2 == 0) = true := by simp; omega
      by_cases e2 : 0 < n0
      · have e2' : (0 : Int) < n0 := by omega
        have hd : decide (p % 2 = 0 ∧ 0 < n0) = true := by simp [e1, e2]
        go_wp2
        go_meet
        exact ⟨by rw [hd], rfl⟩
      · have e2' : ¬ (0 : Int) < n0 := by omega
        have hd : decide (p % 2 = 0 ∧ 0 < n0) = false := by simp [e2]
        go_wp2
        go_meet
        exact ⟨by rw [hd], rfl⟩
    · have e1' : ((p : Int) % 2 == 0) = false := by simp; omega
      have hd : decide (p % 2 = 0 ∧ 0 < n0) = false := by simp [e1]
      go_wp2
      go_meet
      exact ⟨by rw [hd], rfl⟩
  case rest =>
    obtain ⟨rfl, rfl⟩ := hcut
    go_upto_if 72 with fail
    go_cut [4] from 72 to 98 (fun sv wc' => ∃ st : Int, sv = .int .i64 st ∧ (Lit.int .i64 st).wf = true ∧ wc' = wc)
    case first =>
      by_cases e1 : p % 2 = 0 ∧ 0 < n0
      · have hd : decide (p % 2 = 0 ∧ 0 < n0) = true := by simp [e1]
        obtain ⟨m, hm⟩ : ∃ m, (p / 2) % n0 = m := ⟨_, rfl⟩
        have hrem : ((p : Int) / 2) % (n0 : Int) = (m : Int) := by rw [← hm]; rfl
        have hpm : m < n0 := by rw [← hm]; exact Nat.mod_lt _ e1.2
        have hix0 := I0.ix m hpm
        have hcx0 := I0.cell m hpm
        have hpos : (0 : Int) < n0 := by omega
        go_wp2
        go_meet
        exact ⟨ks m, rfl, I0.wf m hpm, rfl⟩
      · have hd : decide (p % 2 = 0 ∧ 0 < n0) = false := by simpa using e1
        by_cases e3 : p % 4 = 1
        · have e3' : ((p : Int) % 4 == 1) = true := by simp; omega
          by_cases e2 : 0 < n2
          · have e2' : (0 : Int) < n2 := by omega
            obtain ⟨m, hm⟩ : ∃ m, (p / 4) % n2 = m := ⟨_, rfl⟩
            have hrem : ((p : Int) / 4) % (n2 : Int) = (m : Int) := by rw [← hm]; rfl
            have hpm : m < n2 := by rw [← hm]; exact Nat.mod_lt _ e2
            have hix0 := I2.ix m hpm
            have hcx0 := I2.cell m hpm
            go_wp2
            go_meet
            exact ⟨rs m, rfl, I2.wf m hpm, rfl⟩
          · have e2' : ¬ (0 : Int) < n2 := by omega
            go_wp2
            go_meet
            exact ⟨st0, rfl, hst0, rfl⟩
        · have e3' : ((p : Int) % 4 == 1) = false := by simp; omega
          go_wp2
          go_meet
          exact ⟨st0, rfl, hst0, rfl⟩
    case rest =>
      obtain ⟨st, rfl, hst, rfl⟩ := hcut
      clear hnl hst0 hp
      have hmm24 := run_makeMap (P := Yba.prog) 24
      have hmm26 := run_makeMap (P := Yba.prog) 26
      have hmc := run_make_chan
      go_wp2_with fail
      go_loopw [102] (fun iv wr => ∃ k : Nat, iv = .int .i64 (k : Int) ∧ k ≤ n0 ∧ Hid (∃ fd sz, L1 wc wc.heap.size k ks fd sz wr)) (fun iv _ => n0 - (intOf iv).toNat)
      case atStart => exact ⟨0, rfl, Nat.zero_le _, ⟨_, _, L1.start wc ks⟩⟩
      case round =>
        obtain ⟨k, rfl, hk, HL⟩ := hrel
        by_cases hlt : k < n0
        · have hki : (k : Int) < n0 := by omega
          have hix := I0.ix k hlt
          have hcx : wr.cell? ⟨b0, o0 + k, none⟩ = some (.int .i64 (ks k)) := by obtain ⟨_, _, h⟩ := HL.out; exact I0.carry h.bel hlt
          obtain ⟨w1, hu1, H1⟩ : ∃ w', (Instr.mapUpdate 24 (.map (some wc.heap.size)) (.int .i64 (ks k)) (.chan none)).run Yba.prog wr = .ok () w' ∧ Hid (∃ fd' sz', L1 wc wc.heap.size (k + 1) ks fd' sz' w') := by
            obtain ⟨_, _, h⟩ := HL.out
            obtain ⟨w', r, h'⟩ := h.nil (by unfold maxLen; omega) (I0.wf k hlt)
            exact ⟨w', r, h'⟩
          obtain ⟨w2, hu2, H2⟩ : ∃ w', (Instr.mapUpdate 24 (.map (some wc.heap.size)) (.int .i64 (ks k)) (.chan (some wr.heap.size))).run Yba.prog (wr.alloc openCh) = .ok () w' ∧ Hid (∃ fd' sz', L1 wc wc.heap.size (k + 1) ks fd' sz' w') := by
            obtain ⟨_, _, h⟩ := HL.out
            obtain ⟨w', r, h'⟩ := h.new (by unfold maxLen; omega) (I0.wf k hlt)
            exact ⟨w', r, h'⟩
          generalize ks k = x at *
          by_cases hm : k < n1
          · have hmi : (k : Int) < n1 := by omega
            have hix1 := I1.ix k hm
            have hcx1 : wr.cell? ⟨b1, o1 + k, none⟩ = some (.bool (ms k)) := by obtain ⟨_, _, h⟩ := HL.out; exact I1.carry h.bel hm
            cases hmk : ms k with
            | false =>
              rw [hmk] at hcx1
              go_wp2
              go_roundw
              case rel => exact ⟨k + 1, by simp, hlt, H2⟩
              case measure => simp [intOf]; omega
            | true =>
              rw [hmk] at hcx1
              go_wp2
              go_roundw
              case rel => exact ⟨k + 1, by simp, hlt, H1⟩
              case measure => simp [intOf]; omega
          · have hmi : ¬ (k : Int) < n1 := by omega
            go_wp2
            go_roundw
            case rel => exact ⟨k + 1, by simp, hlt, H2⟩
            case measure => simp [intOf]; omega
        · have hki : ¬ (k : Int) < n0 := by omega
          obtain rfl : n0 = k := by omega
          clear hlt hki hk hmc hmm24
          obtain ⟨fd, szd, HL1⟩ : ∃ fd sz, Hid (L1 wc wc.heap.size n0 ks fd sz wr) := HL.out
          clear HL
          rename World => wA
          go_wp2_with fail
          go_loopw [126] (fun iv wr => ∃ k : Nat, iv = .int .i64 (k : Int) ∧ k ≤ n2 ∧ Hid (∃ fr sz, L2 wA wA.heap.size k rs fr sz wr)) (fun iv _ => n2 - (intOf iv).toNat)
          case atStart => exact ⟨0, rfl, Nat.zero_le _, ⟨_, _, L2.start wA rs⟩⟩
          case round =>
            obtain ⟨k, rfl, hk, HL⟩ := hrel
            have hbel : Below wc.heap.size wc wr := by obtain ⟨_, _, h⟩ := HL.out; exact HL1.out.bel.trans (h.bel.mono HL1.out.bel.size)
            by_cases hlt : k < n2
            · have hki : (k : Int) < n2 := by omega
              have hix := I2.ix k hlt
              have hcx : wr.cell? ⟨b2, o2 + k, none⟩ = some (.int .i64 (rs k)) := I2.carry hbel hlt
              have hup : ∀ b, ∃ w', (Instr.mapUpdate 26 (.map (some wA.heap.size)) (.int .i64 (rs k)) (.bool b)).run Yba.prog wr = .ok () w' ∧ Hid (∃ fr' sz', L2 wA wA.heap.size (k + 1) rs fr' sz' w') := by
                intro b
                obtain ⟨_, _, h⟩ := HL.out
                exact h.put (by unfold maxLen; omega) (I2.wf k hlt) b
              generalize rs k = x at *
              by_cases hm : k < n3
              · have hmi : (k : Int) < n3 := by omega
                have hix1 := I3.ix k hm
                have hcx1 : wr.cell? ⟨b3, o3 + k, none⟩ = some (.bool (vs k)) := I3.carry hbel hm
                obtain ⟨w1, hu1, H1⟩ := hup (vs k)
                clear hup HL hbel
                generalize vs k = q at *
                go_wp2
                go_roundw
                case rel => exact ⟨k + 1, by simp, hlt, H1⟩
                case measure => simp [intOf]; omega
              · have hmi : ¬ (k : Int) < n3 := by omega
                obtain ⟨w1, hu1, H1⟩ := hup true
                clear hup HL hbel
                go_wp2
                go_roundw
                case rel => exact ⟨k + 1, by simp, hlt, H1⟩
                case measure => simp [intOf]; omega
            · have hki : ¬ (k : Int) < n2 := by omega
              obtain rfl : n2 = k := by omega
              clear hlt hki hk hmm26
              obtain ⟨fr, szr, HL2⟩ : ∃ fr sz, Hid (L2 wA wA.heap.size n2 rs fr sz wr) := HL.out
              clear HL hbel
              rename World => wB
              have T2 : Hid (Two wc wc.heap.size wA.heap.size n0 n2 ks rs fd fr szd szr wB) := Two.of HL1.out HL2.out
              clear HL1 HL2 I1 I3 hn1 hn3
              have hmk27 := run_make_row' (P := Yba.prog) 27 25 (.chan none) 8 Yba.underlying27 info25 rfl .i64 .i64 n0 (by omega) (by omega)
              go_wp2_with fail
              clear hmk27
              obtain ⟨br, hbr⟩ : ∃ br, wA.heap.size = br := ⟨_, rfl⟩
              rw [hbr] at T2
              simp only [hbr]
              clear hbr
              go_loopw [148] (fun iv wr => ∃ k : Nat, iv = .int .i64 (k : Int) ∧ k ≤ n0 ∧ Hid (Below wB.heap.size wB wr ∧ wr.rowIs wB.heap.size 25 n0 (preF fd (.chan none) ks k))) (fun iv _ => n0 - (intOf iv).toNat)
              case atStart => exact ⟨0, rfl, Nat.zero_le _, (Below.refl _ _).alloc (Nat.le_refl _) _, pre_made wB _ 25 n0 fd (.chan none) ks rfl⟩
              case round =>
                obtain ⟨k, rfl, hk, HR⟩ := hrel
                by_cases hlt : k < n0
                · have hki : (k : Int) < n0 := by omega
                  have T3 := T2.out.of_below HR.out.1
                  have hix := I0.ix k hlt
                  have hcx : wr.cell? ⟨b0, o0 + k, none⟩ = some (.int .i64 (ks k)) := I0.carry T3.bel hlt
                  have hlk := T3.md.look Yba.underlying24 (zero25 _) (I0.wf k hlt)
                  obtain ⟨v, hv⟩ := T3.chan (ks k)
                  rw [hv] at hlk
                  have hpc := HR.out.2.cell hlt
                  have hpz := HR.out.2.frozen k
                  have hnew : Hid (Below wB.heap.size wB (wr.setCell ⟨wB.heap.size, k, none⟩ (.chan v)) ∧ (wr.setCell ⟨wB.heap.size, k, none⟩ (.chan v)).rowIs wB.heap.size 25 n0 (preF fd (.chan none) ks (k + 1))) :=
                    ⟨HR.out.1.setCell (Nat.le_refl _) _, pre_set HR.out.2 hv⟩
                  clear T3 HR hv T2
                  generalize wB.heap.size = pb at *
                  generalize ks k = x at *
                  generalize preF fd (.chan none) ks k k = y at *
                  go_wp2
                  go_roundw
                  case rel => exact ⟨k + 1, by simp, hlt, hnew⟩
                  case measure => simp [intOf]; omega
                · have hki : ¬ (k : Int) < n0 := by omega
                  obtain rfl : n0 = k := by omega
                  clear hlt hki hk
                  have T3 : Hid (Two wc wc.heap.size br n0 n2 ks rs fd fr szd szr wr) := T2.out.of_below HR.out.1
                  have P3 : Hid (wr.rowIs wB.heap.size 25 n0 (preF fd (.chan none) ks n0)) := HR.out.2
                  have hlp : br < wB.heap.size := T2.out.mr.lt
                  clear T2 HR
                  obtain ⟨pb, hpb⟩ : ∃ pb, wB.heap.size = pb := ⟨_, rfl⟩
                  rw [hpb] at P3 hlp
                  rename World => wC
                  have hmk23 := run_make_row' (P := Yba.prog) 23 4 (.bool false) 1 Yba.underlying23 info4 rfl .i64 .i64 n2 (by omega) (by omega)
                  go_wp2_with fail
                  clear hmk23
                  simp only [hpb]
                  clear hpb
                  go_loopw [165] (fun iv wr => ∃ k : Nat, iv = .int .i64 (k : Int) ∧ k ≤ n2 ∧ Hid (Below wC.heap.size wC wr ∧ wr.rowIs wC.heap.size 4 n2 (preF fr (.bool false) rs k))) (fun iv _ => n2 - (intOf iv).toNat)
                  case atStart => exact ⟨0, rfl, Nat.zero_le _, (Below.refl _ _).alloc (Nat.le_refl _) _, pre_made wC _ 4 n2 fr (.bool false) rs rfl⟩
                  case round =>
                    obtain ⟨k, rfl, hk, HR⟩ := hrel
                    by_cases hlt : k < n2
                    · have hki : (k : Int) < n2 := by omega
                      have T4 := T3.out.of_below HR.out.1
                      have hix := I2.ix k hlt
                      have hcx : wr.cell? ⟨b2, o2 + k, none⟩ = some (.int .i64 (rs k)) := I2.carry T4.bel hlt
                      have hlk := T4.mr.look Yba.underlying26 (zero4 _) (I2.wf k hlt)
                      obtain ⟨v, hv⟩ := T4.bool (rs k)
                      rw [hv] at hlk
                      have hpc := HR.out.2.cell hlt
                      have hpz := HR.out.2.frozen k
                      have hnew : Hid (Below wC.heap.size wC (wr.setCell ⟨wC.heap.size, k, none⟩ (.bool v)) ∧ (wr.setCell ⟨wC.heap.size, k, none⟩ (.bool v)).rowIs wC.heap.size 4 n2 (preF fr (.bool false) rs (k + 1))) :=
                        ⟨HR.out.1.setCell (Nat.le_refl _) _, pre_set HR.out.2 hv⟩
                      clear T4 HR hv T3 P3
                      generalize wC.heap.size = qb at *
                      generalize rs k = x at *
                      generalize preF fr (.bool false) rs k k = y at *
                      go_wp2
                      go_roundw
                      case rel => exact ⟨k + 1, by simp, hlt, hnew⟩
                      case measure => simp [intOf]; omega
                    · have hki : ¬ (k : Int) < n2 := by omega
                      obtain rfl : n2 = k := by omega
                      clear hlt hki hk
                      have M4 : Hid (Mid wc wc.heap.size br pb wC.heap.size n0 n2 ks rs fd fr szd szr wr) :=
                        ⟨T3.out.of_below HR.out.1, hlp, T3.out.mr.lt, P3.out.of_block (HR.out.1.block _ P3.out.lt), HR.out.2⟩
                      clear T3 HR P3 hlp
                      obtain ⟨qb, hqb⟩ : ∃ qb, wC.heap.size = qb := ⟨_, rfl⟩
                      rw [hqb] at M4
                      rename World => wD
                      go_upto_region 36 with fail
                      simp only [hqb]
                      clear hqb
                      have hl24 := fun ty => M4.out.two.md.len Yba.underlying24 ty
                      have hl26 := fun ty => M4.out.two.mr.len Yba.underlying26 ty
                      have hk24 := M4.out.two.md.look_ok Yba.underlying24 (zero25 _) hst
                      have hk26 := M4.out.two.mr.look_ok Yba.underlying26 (zero4 _) hst
                      obtain ⟨sa, hsa⟩ : ∃ a, Hid ((fd st).getD (.chan none) = .chan a) := M4.out.two.chan st
                      obtain ⟨sb, hsb⟩ : ∃ a, Hid ((fr st).getD (.bool false) = .bool a) := M4.out.two.bool st
                      obtain ⟨din, hdin⟩ : ∃ a, Hid ((fd st).isSome = a) := ⟨_, rfl⟩
                      obtain ⟨rin, hrin⟩ : ∃ a, Hid ((fr st).isSome = a) := ⟨_, rfl⟩
                      obtain ⟨rm, hrm⟩ : ∃ a, Hid (remOf fd st = a) := ⟨_, rfl⟩
                      rw [hsa.out, hdin.out] at hk24
                      rw [hsb.out, hrin.out] at hk26
                      go_upto_region 40 with fail
                      go_cut [32] from 193 to 197 (fun v wx => v = .bool rm ∧ wx = wD)
                      case first =>
                        have hre := remOf_eq hdin.out hsa.out
                        rw [hrm.out] at hre
                        clear hk24 hk26 hl24 hl26
                        cases din with
                        | false =>
                          obtain rfl : rm = false := hre
                          go_wp2
                          go_meet
                          exact ⟨rfl, rfl⟩
                        | true =>
                          cases sa with
                          | none =>
                            obtain rfl : rm = false := hre
                            go_wp2
                            go_meet
                            exact ⟨rfl, rfl⟩
                          | some c =>
                            obtain rfl : rm = true := hre
                            go_wp2
                            go_meet
                            exact ⟨rfl, rfl⟩
                      case rest =>
                        obtain ⟨rfl, hwx⟩ := hcut
                        rename World => wE
                        subst hwx
                        clear hl24 hl26 hk24 hk26 hsb
                        go_wp2_with fail
                        refine (end_any M4.out rfl rfl rfl hst).mono ?_
                        rintro e wF ⟨rfl, hF⟩
                        have HF : Hid (Fin wc wc.heap.size br pb qb n0 n2 ks rs fd fr szd szr st wF) := hF
                        clear hF
                        have hszd : Hid (∀ k, (fd k).isSome = true → 0 < szd) := fun k h => M4.out.two.md.pos h
                        have hszr : Hid (∀ k, (fr k).isSome = true → 0 < szr) := fun k h => M4.out.two.mr.pos h
                        have hled : (szd : Int) ≤ 1048576 := by have := M4.out.two.md.le; omega
                        have hler : (szr : Int) ≤ 1048576 := by have := M4.out.two.mr.le; omega
                        clear M4
                        go_upto_if 205 with fail
                        go_cut [34, 35, 36, 37, 38, 39, 40, 41, 42, 43, 44] from 206 to 267 (fun _ _ _ _ _ _ _ _ _ _ _ wx => Hid (Fin wc wc.heap.size br pb qb n0 n2 ks rs fd fr szd szr st wx))
                        case first =>
                          cases rm with
                          | true =>
                            obtain ⟨c, hc⟩ := remOf_true hrm.out
                            obtain rfl : true = din := by have := hdin.out; rw [hc] at this; exact this
                            obtain rfl : some c = sa := by have := hsa.out; rw [hc] at this; injection this
                            have hp1 := hszd.out st (by rw [hc]; rfl)
                            have hsh := HF.out.shut c hc
                            have hmd := HF.out.md
                            have hmr := HF.out.mr
                            simp only [hrm.out, if_true] at hmd hmr
                            have hl24 := fun ty => hmd.len Yba.underlying24 ty
                            have hl26 := fun ty => hmr.len Yba.underlying26 ty
                            have hk24 := hmd.look_ok Yba.underlying24 (zero25 _) hst
                            have hk26 := hmr.look_ok Yba.underlying26 (zero4 _) hst
                            have ed : delKey fd st st = none := by simp [delKey]
                            have er : delKey fr st st = none := by simp [delKey]
                            rw [ed] at hk24
                            rw [er] at hk26
                            simp only [Option.getD_none, Option.isSome_none] at hk24 hk26
                            have ec : ((szd - 1 : Nat) : Int) = (szd : Int) - 1 := by omega
                            have hp1' : (1 : Int) ≤ szd := by omega
                            rw [ec] at hl24
                            rw [hrin.out] at hl26
                            clear ec ed er hmd hmr hc hsa hdin hp1
                            cases rin with
                            | true =>
                              have hp2 := hszr.out st hrin.out
                              have ec2 : ((szr - 1 : Nat) : Int) = (szr : Int) - 1 := by omega
                              have hp2' : (1 : Int) ≤ szr := by omega
                              simp only [if_true] at hl26
                              rw [ec2] at hl26
                              clear ec2 hp2 hrin hszr hszd
                              go_upto_region 58 with fail
                              refine wp_region_select_shut rfl (exec_select (.tmp 233) rfl c rfl) hsh ?_
                              go_wp2
                              go_meet
                              exact HF.out.of_below ((Below.refl _ _).alloc (Nat.le_refl _) _)
                            | false =>
                              simp only [Bool.false_eq_true, if_false] at hl26
                              clear hrin hszr hszd
                              go_upto_region 58 with fail
                              refine wp_region_select_shut rfl (exec_select (.tmp 233) rfl c rfl) hsh ?_
                              go_wp2
                              go_meet
                              exact HF.out.of_below ((Below.refl _ _).alloc (Nat.le_refl _) _)
                          | false =>
                            have hmd := HF.out.md
                            have hmr := HF.out.mr
                            simp only [hrm.out, Bool.false_eq_true, if_false] at hmd hmr
                            have hl24 := fun ty => hmd.len Yba.underlying24 ty
                            have hl26 := fun ty => hmr.len Yba.underlying26 ty
                            have hk24 := hmd.look_ok Yba.underlying24 (zero25 _) hst
                            have hk26 := hmr.look_ok Yba.underlying26 (zero4 _) hst
                            rw [hdin.out] at hk24
                            rw [hrin.out] at hk26
                            generalize (fd st).getD (.chan none) = x1 at hk24
                            generalize (fr st).getD (.bool false) = x2 at hk26
                            clear hmd hmr hszr hszd hsa hdin hrin
                            go_wp2
                            go_meet
                            exact HF
                        case rest =>
                          rename World => wG
                          clear HF hszd hszr hled hler hsa hdin hrin
                          go_wp2_with fail
                          go_loopw [270] (fun iv wr => ∃ k : Nat, iv = .int .i64 (k : Int) ∧ k ≤ n0 ∧ Hid (Fin wc wc.heap.size br pb qb n0 n2 ks rs fd fr szd szr st wr)) (fun iv _ => n0 - (intOf iv).toNat)
                          case atStart => exact ⟨0, rfl, Nat.zero_le _, hcut⟩
                          case round =>
                            clear hcut
                            obtain ⟨k, rfl, hk, HF⟩ := hrel
                            by_cases hlt : k < n0
                            · have hki : (k : Int) < n0 := by omega
                              have hix := I0.ix k hlt
                              have hcx : wr.cell? ⟨b0, o0 + k, none⟩ = some (.int .i64 (ks k)) := I0.carry HF.out.bel hlt
                              have h5 := fun hs => HF.out.at5 hlt (I0.wf k hlt) hs
                              rw [hrm.out] at h5
                              clear hrm
                              generalize ks k = x at *
                              cases rm with
                              | false =>
                                obtain ⟨a, hlk, hpc, hop⟩ := h5 (by simp)
                                clear h5
                                cases a with
                                | none =>
                                  clear hop
                                  go_wp2
                                  go_roundw
                                  case rel => exact ⟨k + 1, by simp, hlt, HF⟩
                                  case measure => simp [intOf]; omega
                                | some c =>
                                  have hoc := hop c rfl
                                  clear hop
                                  go_upto_region 80 with fail
                                  refine wp_region_select_open rfl (exec_select (.tmp 299) rfl c rfl) hoc ?_
                                  go_wp2
                                  go_roundw
                                  case rel => exact ⟨k + 1, by simp, hlt, HF⟩
                                  case measure => simp [intOf]; omega
                              | true =>
                                by_cases he : x = st
                                · have he' : (x == st) = true := by simp [he]
                                  clear h5
                                  go_wp2
                                  exact ⟨⟨k + 1, by simp, hlt, HF⟩, by simp [intOf]; omega⟩
                                · have he' : (x == st) = false := by simp [he]
                                  obtain ⟨a, hlk, hpc, hop⟩ := h5 (fun h => he h.2)
                                  clear h5
                                  cases a with
                                  | none =>
                                    clear hop
                                    go_wp2
                                    go_roundw
                                    case rel => exact ⟨k + 1, by simp, hlt, HF⟩
                                    case measure => simp [intOf]; omega
                                  | some c =>
                                    have hoc := hop c rfl
                                    clear hop
                                    go_upto_region 80 with fail
                                    refine wp_region_select_open rfl (exec_select (.tmp 299) rfl c rfl) hoc ?_
                                    go_wp2
                                    go_roundw
                                    case rel => exact ⟨k + 1, by simp, hlt, HF⟩
                                    case measure => simp [intOf]; omega
                            · have hki : ¬ (k : Int) < n0 := by omega
                              obtain rfl : n0 = k := by omega
                              clear hlt hki hk
                              rename World => wH
                              go_wp2_with fail
                              go_loopw [306] (fun iv wr => ∃ k : Nat, iv = .int .i64 (k : Int) ∧ k ≤ n2 ∧ Hid (Fin wc wc.heap.size br pb qb n0 n2 ks rs fd fr szd szr st wr)) (fun iv _ => n2 - (intOf iv).toNat)
                              case atStart => exact ⟨0, rfl, Nat.zero_le _, HF⟩
                              case round =>
                                clear HF
                                obtain ⟨k, rfl, hk, HF⟩ := hrel
                                by_cases hlt : k < n2
                                · have hki : (k : Int) < n2 := by omega
                                  have hix := I2.ix k hlt
                                  have hcx : wr.cell? ⟨b2, o2 + k, none⟩ = some (.int .i64 (rs k)) := I2.carry HF.out.bel hlt
                                  have h6 := fun hs => HF.out.at6 hlt (I2.wf k hlt) hs
                                  rw [hrm.out] at h6
                                  clear hrm
                                  generalize rs k = x at *
                                  cases rm with
                                  | false =>
                                    obtain ⟨q, hlk, hpc⟩ := h6 (by simp)
                                    clear h6
                                    go_wp2
                                    go_roundw
                                    case rel => exact ⟨k + 1, by simp, hlt, HF⟩
                                    case measure => simp [intOf]; omega
                                  | true =>
                                    by_cases he : x = st
                                    · have he' : (x == st) = true := by simp [he]
                                      clear h6
                                      go_wp2
                                      go_roundw
                                      case rel => exact ⟨k + 1, by simp, hlt, HF⟩
                                      case measure => simp [intOf]; omega
                                    · have he' : (x == st) = false := by simp [he]
                                      obtain ⟨q, hlk, hpc⟩ := h6 (fun h => he h.2)
                                      clear h6
                                      go_wp2
                                      go_roundw
                                      case rel => exact ⟨k + 1, by simp, hlt, HF⟩
                                      case measure => simp [intOf]; omega
                                · have hki : ¬ (k : Int) < n2 := by omega
                                  go_wp2
                                  go_ret
                                  exact ⟨rfl, HF.out.bel⟩
end Go.Proofs.Ybulkgdpq
