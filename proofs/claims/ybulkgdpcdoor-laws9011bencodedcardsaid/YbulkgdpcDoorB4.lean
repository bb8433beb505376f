import Derived.Test.YbulkgdpcDoorB3
namespace Go.Proofs.YbulkgdpcDoor.lawB
open Go.ChangeShapes Go.WideShapes Go.ChangeAt Go.RowKit
set_option linter.unusedVariables false

/-- where the loop of zzs9011bdecode stands -/
structure Out (B : Nat) (w wr : World) (v : Value) (acc : List ByteArray) : Prop where
  own : wr.ownsRow B 9 1 v acc.length (acc.map Value.string)
  bel : Below B w wr
  nil : acc = [] → v = .slice none 0 0
  size : B ≤ wr.heap.size

theorem Out.append {B : Nat} {w wr w1 : World} {v v' : Value} {acc : List ByteArray} {x : ByteArray} {o : Obj} (h : Out B w wr v acc)
    (hown : w1.ownsRow B 9 1 v' (acc.length + 1) (acc.map Value.string ++ [.string x])) (hg : (wr.alloc o).grownBy w1 v.ownBlock) : Out B w w1 v' (acc ++ [x]) := by
  have hk : ∀ k, v.ownBlock = some k → B ≤ k := fun k hv => (h.own.lt k hv).1
  refine ⟨by simpa using hown, ?_, by simp, ?_⟩
  · exact (h.bel.alloc h.size o).grown hg (by have := h.size; simp; omega) hk
  · have := hg.size
    have := h.size
    simp at *
    omega

def decStep (s : ByteArray) (f : Nat) (acc : List ByteArray) : Option (Int × Nat) → Option (List ByteArray)
  | none => none
  | some (x, q) => if 65536 < x ∨ ((s.size - q : Nat) : Int) < x then none else dec s f (q + x.toNat) (acc ++ [s.extract q (q + x.toNat)])
theorem dec_succ (s : ByteArray) (f pos : Nat) (acc : List ByteArray) : dec s (f + 1) pos acc = if pos < s.size then decStep s f acc (uv s pos 10 0 0) else some acc := by
  rw [dec]
  cases uv s pos 10 0 0 with
  | none => rfl
  | some r => rfl

theorem index_any (s : ByteArray) (i : Nat) (h : i < s.size) (w : World) : (Instr.index 9 (.string s) (.int .i64 (i : Int))).run Ybad.prog w = .ok (.int .u8 (byteAt s i)) w := by
  have e : byteAt s i = (s[i].toNat : Int) := by unfold byteAt; rw [dif_pos h]
  rw [e]
  go_simp

set_option maxRecDepth 100000 in
set_option maxHeartbeats 1000000 in
theorem decode_any (s : ByteArray) (w : World) (hs : s.size ≤ 2000000) :
    Calls Ybad.prog 6 #[.string s] w (DecPost w.heap.size (dec s (s.size + 1) 0 []) w) := by
  generalize hD : dec s (s.size + 1) 0 [] = D
  have HD : Hid (dec s (s.size + 1) 0 [] = D) := hD
  clear hD
  obtain ⟨i0, hi, hz0, hz1, hz2⟩ := info_parts info9
  go_enter Ybad.func6, Ybad.ntmps6
  go_wp2_with fail
  go_loopw [4, 5] (fun v i wr => ∃ (pos f : Nat) (acc : List ByteArray), pos ≤ s.size ∧ s.size < f + pos ∧ acc.length ≤ pos ∧ i = .int .i64 pos ∧ Out w.heap.size w wr v acc ∧ Hid (dec s f pos acc = D)) (fun _ i _ => s.size - (intOf i).toNat)
  case atStart => exact ⟨0, s.size + 1, [], by omega, by omega, by simp, rfl, ⟨World.ownsRow_nil _ _ _ _, Below.refl _ _, fun _ => rfl, Nat.le_refl _⟩, HD⟩
  case round =>
    obtain ⟨pos, f, acc, hpos, hf, hal, rfl, hinv, HV⟩ := hrel
    obtain ⟨f', rfl⟩ : ∃ f', f = f' + 1 := ⟨f - 1, by omega⟩
    have hV := HV.out
    rw [dec_succ] at hV
    clear HV HD
    by_cases hlt : pos < s.size
    · rw [if_pos hlt] at hV
      have hlti : (pos : Int) < (s.size : Int) := by omega
      generalize hU : uv s pos 10 0 0 = U at hV
      have HU : Hid (uv s pos 10 0 0 = U) := hU
      have HV : Hid (decStep s f' acc U = D) := hV
      clear hV hU
      have hbel := hinv.bel
      go_wp2_with fail
      go_loop [5, 7, 8, 9, 10] (fun p x sh dn k => (∃ (kk ps : Nat) (X : Int), kk ≤ 10 ∧ Hid (ps = pos + kk) ∧ p = .int .i64 (ps : Int) ∧ x = .int .u64 X ∧ sh = .int .u64 (7 * (kk : Int)) ∧ dn = .bool false ∧ k = .int .i64 kk ∧ Hid (uv s pos (10 - kk) kk X = U)) ∨
        (∃ (kk : Nat) (X : Int) (q : Nat), kk ≤ 10 ∧ p = .int .i64 q ∧ x = .int .u64 X ∧ dn = .bool true ∧ k = .int .i64 kk ∧ Hid (U = some (X, q)))) (fun _ _ _ _ k => 10 - (intOf k).toNat)
      case atStart => exact .inl ⟨0, pos, 0, by omega, Eq.refl pos, rfl, rfl, rfl, rfl, rfl, HU⟩
      case round =>
        rcases hrel with ⟨kk, ps, X, hkk, Hps, rfl, rfl, rfl, rfl, rfl, HW⟩ | ⟨kk, X, q, hkk, rfl, rfl, rfl, rfl, HW⟩
        · by_cases hk10 : kk < 10
          · have hk10i : (kk : Int) < 10 := by omega
            obtain ⟨n, hn⟩ : ∃ n, 10 - kk = n + 1 := ⟨9 - kk, by omega⟩
            have hW := HW.out
            rw [hn, uv, ← Hps.out] at hW
            by_cases hp : ps < s.size
            · rw [if_pos hp] at hW
              have hidx := index_any s (ps) hp
              have hpi : (ps : Int) < (s.size : Int) := by omega
              have hcb := byteAt_bd s (ps)
              generalize byteAt s (ps) = c at *
              by_cases hb : c < 128
              · rw [if_pos hb] at hW
                by_cases h9 : kk = 9 ∧ 1 < c
                · rw [if_pos h9] at hW
                  subst hW
                  obtain ⟨h9a, h9b⟩ := h9
                  have h9' : ((kk : Int) == 9) = true := by simp; omega
                  clear HW HU hn h9a
                  have hVV : none = D := HV.out
                  subst hVV
                  go_wp2_with fail
                  go_ret2
                  exact ⟨hbel, rfl⟩
                · rw [if_neg h9] at hW
                  by_cases hk9 : kk = 9
                  · have h9' : ((kk : Int) == 9) = true := by simp; omega
                    have hc1 : ¬ 1 < c := by omega
                    have HW2 : Hid (some (orL X c kk, ps + 1) = U) := hW
                    clear HW HU hn hk9 h9 hW
                    go_wp2_with fail
                    go_round
                    case rel => exact .inr ⟨kk + 1, orL X c kk, ps + 1, by omega, by go_num, rfl, rfl, by go_num, HW2.out.symm⟩
                    case measure => simp [intOf]; omega
                  · have h9' : ((kk : Int) == 9) = false := by simp; omega
                    have HW2 : Hid (some (orL X c kk, ps + 1) = U) := hW
                    clear HW HU hn hk9 h9 hW
                    go_wp2_with fail
                    go_round
                    case rel => exact .inr ⟨kk + 1, orL X c kk, ps + 1, by omega, by go_num, rfl, rfl, by go_num, HW2.out.symm⟩
                    case measure => simp [intOf]; omega
              · rw [if_neg hb] at hW
                have HW2 : Hid (uv s pos n (kk + 1) (orM X c kk) = U) := hW
                have Hn : Hid (10 - kk = n + 1) := hn
                clear HW HU hn hW
                go_wp2_with fail
                go_round
                case rel =>
                  refine .inl ⟨kk + 1, ps + 1, orM X c kk, by omega, by have := Hps.out; show ps + 1 = pos + (kk + 1); omega, by go_num, rfl, by go_num, rfl, by go_num, ?_⟩
                  have := Hn.out
                  rw [show 10 - (kk + 1) = n by omega]
                  exact HW2
                case measure => simp [intOf]; omega
            · rw [if_neg hp] at hW
              subst hW
              have hVV : none = D := HV.out
              subst hVV
              have hpi : (s.size : Int) ≤ (ps : Int) := by omega
              clear HW HU hn
              go_wp2_with fail
              go_ret2
              exact ⟨hbel, rfl⟩
          · have hW := HW.out
            rw [show 10 - kk = 0 by omega, uv] at hW
            subst hW
            have hVV : none = D := HV.out
            subst hVV
            have hk10i : ¬ (kk : Int) < 10 := by omega
            have hk10d : decide ((kk : Int) < 10) = false := decide_eq_false hk10i
            clear HW HU
            go_wp2_with fail
            go_ret2
            exact ⟨hbel, rfl⟩
        · have hW := HW.out
          subst hW
          have hV := HV.out
          rw [decStep] at hV
          have hbd := uv_bd s pos 10 0 0 X q HU.out
          clear HW HU HV
          obtain ⟨Y, rfl⟩ : ∃ Y : Nat, X = (Y : Int) := ⟨X.toNat, by omega⟩
          have hbq : q ≤ s.size := hbd.2.2.2
          have hpq : pos < q := by omega
          simp only [Int.toNat_natCast] at hV
          clear hbd
          have hown := hinv.own
          by_cases hbig : 65536 < Y
          · rw [if_pos (Or.inl (by omega))] at hV
            subst hV
            have hb1 : (65536 : Int) < (Y : Int) := by omega
            by_cases hk10 : (kk : Int) < 10
            all_goals
              go_wp2_with fail
              go_ret2
              exact ⟨hbel, rfl⟩
          · have hb1 : ¬ (65536 : Int) < (Y : Int) := by omega
            have hb2 : decide ((65536 : Int) < (Y : Int)) = false := decide_eq_false hb1
            by_cases hbig2 : s.size - q < Y
            · rw [if_pos (Or.inr (by omega))] at hV
              subst hV
              have hb3 : (s.size : Int) - (q : Int) < (Y : Int) := by omega
              by_cases hk10 : (kk : Int) < 10
              all_goals
                go_wp2_with fail
                go_ret2
                exact ⟨hbel, rfl⟩
            · rw [if_neg (by omega)] at hV
              have HV : Hid (dec s f' (q + Y) (acc ++ [s.extract q (q + Y)]) = D) := hV
              clear hV
              have hb3 : ¬ (s.size : Int) - (q : Int) < (Y : Int) := by omega
              have hb4 : decide ((s.size : Int) - (q : Int) < (Y : Int)) = false := decide_eq_false hb3
              have hq1 : q + Y ≤ s.size := by omega
              have hk10d : ∃ b, decide ((kk : Int) < 10) = b := ⟨_, rfl⟩
              by_cases hk10 : (kk : Int) < 10
              all_goals
                go_wp2_with (at_builtin; refine wpList_append_own _ rfl (.tmp 68) (.tmp 76) 38 rfl w.heap.size 9 i0 (.string ByteArray.empty) 1 16 Ybad.underlying38 hi hz0 hz1 hz2 rfl (by decide) _ _ _ rfl (hown.alloc _) ⟨wr.heap.size, 0, none⟩ 1 1 [.string (s.extract q (q + Y))] rfl rfl (cell_one_new _ _ _) (by intro u hu; simp at hu; subst hu; rfl) (by unfold maxLen; omega) (by omega) (by have := hinv.size; simp; omega) ?_)
                intro v' w5 hown' hgrow _
                have hinv5 := hinv.append hown' hgrow
                clear hown' hgrow
                go_wp2_with fail
                go_roundw
                case rel => exact ⟨q + Y, f', acc ++ [s.extract q (q + Y)], hq1, by omega, by simp; omega, by go_num, hinv5, HV⟩
                case measure => simp [intOf]; omega
    · rw [if_neg hlt] at hV
      subst hV
      have hgt : ¬ (pos : Int) < (s.size : Int) := by omega
      have hgd : decide ((pos : Int) < (s.size : Int)) = false := decide_eq_false hgt
      have hown := hinv.own
      have hbl := hinv.bel
      have Hnil : Hid (acc = [] → u4 = .slice none 0 0) := hinv.nil
      clear hinv
      rcases hown.2 with ⟨rfl, hlen⟩ | ⟨g, cap, cur, rfl, hb, hg, hnc, hcm, hcs, htake⟩
      · have hacc : acc = [] := List.length_eq_zero_iff.1 hlen
        subst hacc
        clear hown
        go_wp2_with fail
        go_ret2
        exact ⟨hbl, _, rfl, World.ownsRow_nil _ _ _ _, fun _ => rfl⟩
      · cases hacc : acc with
        | nil => exact absurd (Hnil.out hacc) (by simp)
        | cons a r =>
          have hpl : (0 : Int) < ((acc.length : Nat) : Int) := by rw [hacc]; simp
          have hpd : decide ((0 : Int) < ((acc.length : Nat) : Int)) = true := decide_eq_true hpl
          have Hacc : Hid (acc = a :: r) := hacc
          have Hown : Hid (wr.ownsRow w.heap.size 9 1 (.slice (some ⟨g, 0, none⟩) acc.length cap) acc.length (acc.map Value.string)) := hown
          rw [← hacc]
          clear hacc hown hg hcs htake
          go_wp2_with fail
          go_ret2
          refine ⟨hbl, _, ?_, Hown.out, fun h => ?_⟩
          · have := Hacc.out
            subst this
            rfl
          · have := Hacc.out
            rw [this] at h
            simp at h
end Go.Proofs.YbulkgdpcDoor.lawB
