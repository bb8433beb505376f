import Derived.Test.YbulkgdpcDoorB1
import Derived.LaidEql
namespace Go.Proofs.YbulkgdpcDoor.lawB
open Go.ChangeShapes Go.WideShapes Go.ChangeAt Go.RowKit
set_option linter.unusedVariables false

/-! ### The plain reading of one varint -/
def orL (X c : Int) (k : Nat) : Int := bits BinOp.or IntKind.u64 X (IntKind.u64.wrap (c * 2 ^ (7 * k)))
def orM (X c : Int) (k : Nat) : Int := bits BinOp.or IntKind.u64 X (IntKind.u64.wrap (IntKind.u64.wrap (bits BinOp.and IntKind.u8 c 127) * 2 ^ (7 * k)))
def byteAt (s : ByteArray) (i : Nat) : Int := if h : i < s.size then (s[i].toNat : Int) else 0
theorem byteAt_bd (s : ByteArray) (i : Nat) : 0 ≤ byteAt s i ∧ byteAt s i ≤ 255 := by
  unfold byteAt
  split
  · rename_i h
    have := s[i].toNat_lt
    omega
  · omega
/-- n bytes more may be read, k have been -/
def uv (s : ByteArray) (pos : Nat) : Nat → Nat → Int → Option (Int × Nat)
  | 0, _, _ => none
  | n + 1, k, X =>
    if pos + k < s.size then
      if byteAt s (pos + k) < 128 then
        if k = 9 ∧ 1 < byteAt s (pos + k) then none else some (orL X (byteAt s (pos + k)) k, pos + k + 1)
      else uv s pos n (k + 1) (orM X (byteAt s (pos + k)) k)
    else none

theorem meth (a : Addr) (w : World) : (method 196 47 (.pointer (some a)) "ReadByte").run Ybad.prog w = .ok (35, .pointer (some a)) w := by kernel_rfl

theorem rb_more' (R : Nat) (s : ByteArray) (i : Nat) (p : Int) (w : World) (hr : w.rowIs R 57 3 (rc s i p)) (hi : i < s.size) (hs : s.size ≤ 2000000) (c : Int) (hc : Hid (c = byteAt s i)) :
    Calls Ybad.prog 35 #[.pointer (some ⟨R, 0, none⟩)] w fun e w' => e = .returned (.tuple #[.int .u8 c, .nilIface]) ∧ w'.rowIs R 57 3 (rc s (i + 1) (-1)) ∧ Only R w w' := by
  have h := hc.out
  unfold byteAt at h
  rw [dif_pos hi] at h
  subst h
  exact rb_more R s i p w hr hi hs

/-- the three sentinels lie in their variables -/
structure Errs (w : World) : Prop where
  e0 : ∃ a, w.cell? ⟨0, 0, none⟩ = some (.iface 63 (.pointer (some a)))
  e1 : ∃ a, w.cell? ⟨1, 0, none⟩ = some (.iface 63 (.pointer (some a)))
  e2 : ∃ a, w.cell? ⟨2, 0, none⟩ = some (.iface 63 (.pointer (some a)))

theorem comp63 : (Ybad.prog.info? 63).map (·.comparable) = some true := by kernel_rfl
theorem size65 : (Ybad.prog.info? 65).map (·.size) = some 1 := by kernel_rfl

/-- what ReadUvarint leaves -/
def UvPost (R : Nat) (s : ByteArray) (U : Option (Int × Nat)) (w : World) (e : Ending) (w' : World) : Prop :=
  Only R w w' ∧ match U with
    | some (x, q) => e = .returned (.tuple #[.int .u64 x, .nilIface]) ∧ w'.rowIs R 57 3 (rc s q (-1))
    | none => ∃ x t v, e = .returned (.tuple #[.int .u64 x, .iface t v])

set_option maxRecDepth 100000 in
set_option maxHeartbeats 1000000 in
theorem ruv_any (R : Nat) (s : ByteArray) (pos : Nat) (p : Int) (w : World) (hr : w.rowIs R 57 3 (rc s pos p)) (hs : s.size ≤ 2000000) (hpos : pos ≤ s.size) (hR : 3 ≤ R) (hE : Errs w) :
    Calls Ybad.prog 11 #[.iface 47 (.pointer (some ⟨R, 0, none⟩))] w (UvPost R s (uv s pos 10 0 0) w) := by
  obtain ⟨⟨a0, hE0⟩, ⟨a1, hE1⟩, ⟨a2, hE2⟩⟩ := hE
  generalize hU : uv s pos 10 0 0 = U
  have HU : Hid (uv s pos 10 0 0 = U) := hU
  clear hU
  have hme := meth
  go_enter Ybad.func11, Ybad.ntmps11
  go_wp2_with fail
  go_loopw [4, 5, 6] (fun x sh i wr => ∃ (k : Nat) (X p' : Int), k ≤ 10 ∧ i = .int .i64 k ∧ x = .int .u64 X ∧ sh = .int .u64 (7 * (k : Int)) ∧ wr.rowIs R 57 3 (rc s (pos + k) p') ∧ Only R w wr ∧ Hid (uv s pos (10 - k) k X = U)) (fun _ _ i _ => 10 - (intOf i).toNat)
  case atStart => exact ⟨0, 0, p, by omega, rfl, rfl, rfl, hr, Only.refl _ _, HU⟩
  case round =>
    obtain ⟨k, X, p', hk, rfl, rfl, rfl, hrd, hon, HV⟩ := hrel
    have g0 : wr.cell? ⟨0, 0, none⟩ = some (.iface 63 (.pointer (some a0))) := (hon.cell (by show 0 ≠ R; omega)).trans hE0
    have g1 : wr.cell? ⟨1, 0, none⟩ = some (.iface 63 (.pointer (some a1))) := (hon.cell (by show 1 ≠ R; omega)).trans hE1
    have g2 : wr.cell? ⟨2, 0, none⟩ = some (.iface 63 (.pointer (some a2))) := (hon.cell (by show 2 ≠ R; omega)).trans hE2
    by_cases hlt : k < 10
    · obtain ⟨n, hn⟩ : ∃ n, 10 - k = n + 1 := ⟨9 - k, by omega⟩
      have hV := HV.out
      rw [hn, uv] at hV
      by_cases hp : pos + k < s.size
      · rw [if_pos hp] at hV
        obtain ⟨c, hc0, hc1, Hc⟩ : ∃ c : Int, 0 ≤ c ∧ c ≤ 255 ∧ Hid (c = byteAt s (pos + k)) := ⟨_, (byteAt_bd _ _).1, (byteAt_bd _ _).2, Eq.refl (byteAt s (pos + k))⟩
        rw [← Hc.out] at hV
        by_cases hb : c < 128
        · rw [if_pos hb] at hV
          by_cases h9 : k = 9 ∧ 1 < c
          · rw [if_pos h9] at hV
            subst hV
            obtain ⟨h9, hc2⟩ := h9
            have h9' : ((k : Int) == 9) = true := by simp; omega
            clear HV HU
            go_wp2_with (go_at_call 35; refine (rb_more' _ _ _ _ _ hrd hp hs c Hc).mono ?_; rintro e w' ⟨rfl, hrd2, hon2⟩; have k2 : w'.cell? ⟨2, 0, none⟩ = some (.iface 63 (.pointer (some a2))) := (hon2.cell (by show 2 ≠ R; omega)).trans g2)
            go_quiet (fail)
            go_wp2
            go_ret2
            exact ⟨(hon.trans hon2).drewN _, _, _, _, rfl⟩
          · rw [if_neg h9] at hV
            subst hV
            have hd : ∀ b : Bool, ((k : Int) == 9) = b → b = true → decide ((1 : Int) < c) = false := fun b hb1 hb2 => by
              subst hb2; simp at hb1; exact decide_eq_false (by omega)
            clear HV HU
            by_cases hk9 : k = 9
            · have h9' : ((k : Int) == 9) = true := by simp; omega
              have hc2 : ¬ 1 < c := by omega
              have Hk9 : Hid (k = 9) := hk9
              clear hd hk9 h9 hn
              go_wp2_with (go_at_call 35; refine (rb_more' _ _ _ _ _ hrd hp hs c Hc).mono ?_; rintro e w' ⟨rfl, hrd2, hon2⟩)
              go_ret2
              exact ⟨hon.trans hon2, rfl, hrd2⟩
            · have h9' : ((k : Int) == 9) = false := by simp; omega
              clear hd
              go_wp2_with (go_at_call 35; refine (rb_more' _ _ _ _ _ hrd hp hs c Hc).mono ?_; rintro e w' ⟨rfl, hrd2, hon2⟩)
              go_ret2
              exact ⟨hon.trans hon2, rfl, hrd2⟩
        · rw [if_neg hb] at hV
          have HV2 : Hid (uv s pos n (k + 1) (orM X c k) = U) := hV
          clear hV HV HU
          go_wp2_with (go_at_call 35; refine (rb_more' _ _ _ _ _ hrd hp hs c Hc).mono ?_; rintro e w' ⟨rfl, hrd2, hon2⟩)
          go_roundw
          case rel =>
            refine ⟨k + 1, orM X c k, -1, by omega, by go_num, rfl, by go_num, by rw [← Nat.add_assoc]; exact hrd2, hon.trans hon2, ?_⟩
            have := HV2.out
            rw [show 10 - (k + 1) = n by omega]
            exact HV2
          case measure => simp [intOf]; omega
      · rw [if_neg hp] at hV
        subst hV
        clear HV HU
        have hge : s.size ≤ pos + k := by omega
        by_cases hk0 : k = 0
        · have hd : decide ((0 : Int) < (k : Int)) = false := decide_eq_false (by omega)
          have hle : (k : Int) ≤ 0 := by omega
          clear hk0 hn hp
          go_wp2_with (go_at_call 35; refine (rb_end _ _ _ _ _ hrd hge hs _ (by omega) g0).mono ?_; rintro e w' ⟨rfl, hrd2, hon2⟩)
          go_ret2
          exact ⟨hon.trans hon2, _, _, _, rfl⟩
        · have hkp : (0 : Int) < (k : Int) := by omega
          obtain ⟨i63, hi63, hc63⟩ := Option.map_eq_some_iff.1 comp63
          obtain ⟨i65, hi65, hs65⟩ := Option.map_eq_some_iff.1 size65
          have heq := fun w => run_eql_iface_ptr_same (P := Ybad.prog) w a0 Ybad.underlying51 Ybad.underlying63 hi63 hc63 hi65
          clear hk0 hn hp
          go_wp2_with (go_at_call 35; refine (rb_end _ _ _ _ _ hrd hge hs _ (by omega) g0).mono ?_; rintro e w' ⟨rfl, hrd2, hon2⟩; have k0 : w'.cell? ⟨0, 0, none⟩ = some (.iface 63 (.pointer (some a0))) := (hon2.cell (by show 0 ≠ R; omega)).trans g0; have k1 : w'.cell? ⟨1, 0, none⟩ = some (.iface 63 (.pointer (some a1))) := (hon2.cell (by show 1 ≠ R; omega)).trans g1)
          go_ret2
          exact ⟨hon.trans hon2, _, _, _, rfl⟩
    · have hV := HV.out
      rw [show 10 - k = 0 by omega, uv] at hV
      subst hV
      clear HV HU
      go_wp2_with fail
      go_quiet (fail)
      go_wp2
      go_ret2
      exact ⟨hon.drewN _, _, _, _, rfl⟩
end Go.Proofs.YbulkgdpcDoor.lawB
