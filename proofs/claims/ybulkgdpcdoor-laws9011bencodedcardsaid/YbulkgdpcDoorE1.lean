import Derived.Test.YbulkgdpcDoorB4
namespace Go.Proofs.YbulkgdpcDoor.lawB
open Go.ChangeShapes Go.WideShapes Go.ChangeAt Go.RowKit
set_option linter.unusedVariables false

/-! ### The plain encoding -/
def vint : Nat → Nat → List UInt8
  | 0, x => [UInt8.ofNat x]
  | f + 1, x => if x < 128 then [UInt8.ofNat x] else UInt8.ofNat (x % 128 + 128) :: vint f (x / 128)

def encAll (l : List ByteArray) : List UInt8 := l.flatMap (fun s => vint 10 s.size ++ s.data.toList)

theorem and127 : ∀ n : Fin 256, bits BinOp.and IntKind.u8 ((n : Nat) : Int) 127 = (((n : Nat) % 128 : Nat) : Int) := by decide +kernel
theorem or128 : ∀ n : Fin 256, bits BinOp.or IntKind.u8 ((n : Nat) : Int) 128 = (((n : Nat) % 128 + 128 : Nat) : Int) := by decide +kernel

theorem byte_or (X : Nat) : bits BinOp.or IntKind.u8 (IntKind.u8.wrap (X : Int)) 128 = ((UInt8.ofNat (X % 128 + 128)).toNat : Int) := by
  have hw : IntKind.u8.wrap (X : Int) = ((X % 256 : Nat) : Int) := by simp [IntKind.wrap, IntKind.bits, IntKind.signed]
  rw [hw, or128 ⟨X % 256, by omega⟩]
  simp
  omega

theorem wrap_nat (a : Nat) (ha : a < 18446744073709551616) : IntKind.u64.wrap (a : Int) = (a : Int) := by
  rw [IntKind.wrap_u64]; omega

theorem or_shift (a b k : Nat) (ha : a < 2 ^ k) : a ||| b * 2 ^ k = a + b * 2 ^ k := by
  have := Nat.two_pow_add_eq_or_of_lt ha b
  rw [Nat.or_comm, Nat.mul_comm b, ← this, Nat.add_comm]

/-- the last byte of a varint, bytes k bits in -/
theorem orL_nat (a c k : Nat) (ha : a < 2 ^ (7 * k)) (hc : c * 2 ^ (7 * k) < 18446744073709551616) (ha2 : a < 18446744073709551616) : orL (a : Int) (c : Int) k = ((a + c * 2 ^ (7 * k) : Nat) : Int) := by
  unfold orL
  have e : (c : Int) * 2 ^ (7 * k) = ((c * 2 ^ (7 * k) : Nat) : Int) := by simp
  rw [e, wrap_nat _ hc, bits_or_u64_nat _ _ ha2 hc, or_shift _ _ _ ha]

theorem orM_nat (a c k : Nat) (hc : c < 256) (ha : a < 2 ^ (7 * k)) (hk : (c % 128) * 2 ^ (7 * k) < 18446744073709551616) (ha2 : a < 18446744073709551616) : orM (a : Int) (c : Int) k = ((a + (c % 128) * 2 ^ (7 * k) : Nat) : Int) := by
  unfold orM
  rw [and127 ⟨c, hc⟩, wrap_nat _ (by have : c % 128 < 128 := Nat.mod_lt _ (by omega); simp; omega)]
  have e : (((⟨c, hc⟩ : Fin 256) : Nat) % 128 : Nat) = c % 128 := rfl
  have e2 : ((c % 128 : Nat) : Int) * 2 ^ (7 * k) = ((c % 128 * 2 ^ (7 * k) : Nat) : Int) := by simp
  rw [e2, wrap_nat _ hk, bits_or_u64_nat _ _ ha2 hk, or_shift _ _ _ ha]

theorem byteAt_mk (L : List UInt8) (i : Nat) (b : UInt8) (h : L[i]? = some b) : i < (ByteArray.mk L.toArray).size ∧ byteAt ⟨L.toArray⟩ i = (b.toNat : Int) := by
  obtain ⟨hi, hb⟩ := List.getElem?_eq_some_iff.1 h
  have hs : (ByteArray.mk L.toArray).size = L.length := by simp [ByteArray.size]
  refine ⟨by rw [hs]; exact hi, ?_⟩
  unfold byteAt
  rw [dif_pos (by rw [hs]; exact hi)]
  have : (ByteArray.mk L.toArray)[i]'(by rw [hs]; exact hi) = L[i] := by
    show (L.toArray)[i] = L[i]
    simp
  rw [this, hb]

theorem vint1 (x : Nat) (h : x < 128) : vint 10 x = [UInt8.ofNat x] := by simp [vint, h]
theorem vint2 (x : Nat) (h : ¬ x < 128) (h2 : x < 16384) : vint 10 x = [UInt8.ofNat (x % 128 + 128), UInt8.ofNat (x / 128)] := by
  simp [vint, h, show x / 128 < 128 by omega]
theorem vint3 (x : Nat) (h : ¬ x < 16384) (h2 : x < 2097152) : vint 10 x = [UInt8.ofNat (x % 128 + 128), UInt8.ofNat (x / 128 % 128 + 128), UInt8.ofNat (x / 128 / 128)] := by
  simp [vint, show ¬ x < 128 by omega, show ¬ x / 128 < 128 by omega, show x / 128 / 128 < 128 by omega]

theorem ofNat_toNat (n : Nat) (h : n < 256) : (UInt8.ofNat n).toNat = n := by simp; omega

theorem uv_step_last (s : ByteArray) (pos n k : Nat) (X : Int) (c : Nat) (h1 : pos + k < s.size) (h2 : byteAt s (pos + k) = (c : Int)) (hc : c < 128) (hk : k ≠ 9) : uv s pos (n + 1) k X = some (orL X (c : Int) k, pos + k + 1) := by
  rw [uv, if_pos h1, h2, if_pos (by omega), if_neg (by omega)]
theorem uv_step_more (s : ByteArray) (pos n k : Nat) (X : Int) (c : Nat) (h1 : pos + k < s.size) (h2 : byteAt s (pos + k) = (c : Int)) (hc : 128 ≤ c) : uv s pos (n + 1) k X = uv s pos n (k + 1) (orM X (c : Int) k) := by
  rw [uv, if_pos h1, h2, if_neg (by omega)]

theorem uv_vint (L : List UInt8) (pos x : Nat) (hx : x < 2097152) (h : ∀ j b, (vint 10 x)[j]? = some b → L[pos + j]? = some b) : uv ⟨L.toArray⟩ pos 10 0 0 = some ((x : Int), pos + (vint 10 x).length) := by
  by_cases h1 : x < 128
  · rw [vint1 x h1] at h ⊢
    obtain ⟨g1, g2⟩ := byteAt_mk L (pos + 0) _ (h 0 _ rfl)
    rw [ofNat_toNat x (by omega)] at g2
    rw [uv_step_last _ pos 9 0 0 x g1 g2 h1 (by omega)]
    have e := orL_nat 0 x 0 (by simp) (by simp; omega) (by omega)
    simp at e
    simp [e]
  · by_cases h2 : x < 16384
    · rw [vint2 x h1 h2] at h ⊢
      obtain ⟨g1, g2⟩ := byteAt_mk L (pos + 0) _ (h 0 _ rfl)
      obtain ⟨g3, g4⟩ := byteAt_mk L (pos + 1) _ (h 1 _ rfl)
      rw [ofNat_toNat _ (by omega)] at g2 g4
      rw [uv_step_more _ pos 9 0 0 _ g1 g2 (by omega), uv_step_last _ pos 8 1 _ _ g3 g4 (by omega) (by omega)]
      have e := orM_nat 0 (x % 128 + 128) 0 (by omega) (by simp) (by omega) (by omega)
      have e' : orM 0 ((x % 128 + 128 : Nat) : Int) 0 = ((x % 128 : Nat) : Int) := by
        refine e.trans ?_
        congr 1
        simp
      rw [e', orL_nat (x % 128) (x / 128) 1 (by have : x % 128 < 128 := Nat.mod_lt _ (by omega); simpa using this) (by simp; omega) (by omega)]
      simp
      omega
    · rw [vint3 x h2 hx] at h ⊢
      obtain ⟨g1, g2⟩ := byteAt_mk L (pos + 0) _ (h 0 _ rfl)
      obtain ⟨g3, g4⟩ := byteAt_mk L (pos + 1) _ (h 1 _ rfl)
      obtain ⟨g5, g6⟩ := byteAt_mk L (pos + 2) _ (h 2 _ rfl)
      rw [ofNat_toNat _ (by omega)] at g2 g4 g6
      rw [uv_step_more _ pos 9 0 0 _ g1 g2 (by omega), uv_step_more _ pos 8 1 _ _ g3 g4 (by omega), uv_step_last _ pos 7 2 _ _ g5 g6 (by omega) (by omega)]
      have e := orM_nat 0 (x % 128 + 128) 0 (by omega) (by simp) (by omega) (by omega)
      have e' : orM 0 ((x % 128 + 128 : Nat) : Int) 0 = ((x % 128 : Nat) : Int) := by
        refine e.trans ?_
        congr 1
        simp
      have e2 := orM_nat (x % 128) (x / 128 % 128 + 128) 1 (by omega) (by have : x % 128 < 128 := Nat.mod_lt _ (by omega); simpa using this) (by omega) (by omega)
      have e2' : orM ((x % 128 : Nat) : Int) ((x / 128 % 128 + 128 : Nat) : Int) 1 = ((x % 16384 : Nat) : Int) := by
        refine e2.trans ?_
        congr 1
        simp
        omega
      rw [e', e2', orL_nat (x % 16384) (x / 128 / 128) 2 (by have : x % 16384 < 16384 := Nat.mod_lt _ (by omega); simpa using this) (by simp; omega) (by omega)]
      simp
      omega

theorem vint_pos (x : Nat) : 0 < (vint 10 x).length := by
  rw [vint]; split <;> simp
theorem vint_le (x : Nat) (hx : x < 2097152) : (vint 10 x).length ≤ 3 := by
  by_cases h1 : x < 128
  · rw [vint1 x h1]; simp
  · by_cases h2 : x < 16384
    · rw [vint2 x h1 h2]; simp
    · rw [vint3 x h2 hx]; simp

theorem size_mk (L : List UInt8) : (ByteArray.mk L.toArray).size = L.length := by simp [ByteArray.size]

theorem extract_mid (A B C : List UInt8) : (ByteArray.mk (A ++ (B ++ C)).toArray).extract A.length (A.length + B.length) = ⟨B.toArray⟩ := by
  apply ByteArray.ext
  apply Array.ext'
  simp

theorem dec_enc : ∀ (vs : List ByteArray) (P : List UInt8) (acc : List ByteArray) (f : Nat), (∀ v ∈ vs, v.size < 2097152) → (P ++ encAll vs).length < f + P.length →
    dec ⟨(P ++ encAll vs).toArray⟩ f P.length acc = if vs.all (fun v => decide (v.size ≤ 65536)) = true then some (acc ++ vs) else none
  | [], P, acc, f, _, hf => by
    obtain ⟨f', rfl⟩ : ∃ f', f = f' + 1 := ⟨f - 1, by simp [encAll] at hf; omega⟩
    rw [dec_succ, if_neg (by rw [size_mk]; simp [encAll])]
    simp
  | v :: vs, P, acc, f, hv, hf => by
    have hx : v.size < 2097152 := hv v (by simp)
    have hvs : v.data.toList.length = v.size := Array.length_toList
    have hL : P ++ encAll (v :: vs) = P ++ (vint 10 v.size ++ (v.data.toList ++ encAll vs)) := by simp only [encAll, List.flatMap_cons, List.append_assoc]
    have hp := vint_pos v.size
    rw [hL] at hf ⊢
    have hlen : (P ++ (vint 10 v.size ++ (v.data.toList ++ encAll vs))).length = P.length + (vint 10 v.size).length + v.size + (encAll vs).length := by
      simp only [List.length_append, hvs]; omega
    have hsz : (ByteArray.mk (P ++ (vint 10 v.size ++ (v.data.toList ++ encAll vs))).toArray).size = P.length + (vint 10 v.size).length + v.size + (encAll vs).length := (size_mk _).trans hlen
    rw [hlen] at hf
    obtain ⟨f', rfl⟩ : ∃ f', f = f' + 1 := ⟨f - 1, by omega⟩
    rw [dec_succ, if_pos (by rw [hsz]; omega)]
    have hu := uv_vint (P ++ (vint 10 v.size ++ (v.data.toList ++ encAll vs))) P.length v.size hx (fun j b hb => by
      have hj := (List.getElem?_eq_some_iff.1 hb).1
      rw [List.getElem?_append_right (by omega), show P.length + j - P.length = j by omega, List.getElem?_append_left hj]
      exact hb)
    rw [hu, decStep]
    by_cases hbig : v.size ≤ 65536
    · rw [if_neg (by rw [hsz]; omega)]
      have e1 : (ByteArray.mk (P ++ (vint 10 v.size ++ (v.data.toList ++ encAll vs))).toArray).extract (P.length + (vint 10 v.size).length) (P.length + (vint 10 v.size).length + v.size) = v := by
        have := extract_mid (P ++ vint 10 v.size) v.data.toList (encAll vs)
        rw [List.length_append, hvs, List.append_assoc] at this
        rw [this]
      rw [Int.toNat_natCast, e1]
      have ih := dec_enc vs (P ++ vint 10 v.size ++ v.data.toList) (acc ++ [v]) f' (fun u hu => hv u (by simp [hu])) (by
        simp only [List.length_append, hvs] at *
        omega)
      have e2 : P ++ vint 10 v.size ++ v.data.toList ++ encAll vs = P ++ (vint 10 v.size ++ (v.data.toList ++ encAll vs)) := by simp
      have e3 : (P ++ vint 10 v.size ++ v.data.toList).length = P.length + (vint 10 v.size).length + v.size := by simp only [List.length_append, hvs]
      rw [e2, e3] at ih
      rw [ih]
      simp [hbig]
    · rw [if_pos (Or.inl (by omega))]
      simp [hbig]
end Go.Proofs.YbulkgdpcDoor.lawB
