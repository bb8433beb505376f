import Derived.Test.YbulkgdpcDoorB4
namespace Go.Proofs.YbulkgdpcDoor.lawB
open Go.ChangeShapes Go.WideShapes Go.ChangeAt Go.RowKit
set_option linter.unusedVariables false

theorem same_none (v : Value) (w : World) :
    Calls Ybad.prog 7 #[.slice none 0 0, .bool false, v, .bool false] w fun e w' => e = .returned (.bool true) ∧ w' = w := by
  have hsn := fun w a n c => Lib.run_eql_slice_nil (P := Ybad.prog) w 38 9 a n c 0 0 Ybad.underlying38
  go_enter Ybad.func7, Ybad.ntmps7
  go_wp2
  go_ret
  exact ⟨rfl, rfl⟩

theorem same_list (l : List ByteArray) (b1 o1 c1 b2 o2 c2 : Nat) (w : World) (hl : l.length ≤ 9223372036854775807)
    (h1 : ∀ i (h : i < l.length), w.cell? ⟨b1, o1 + i, none⟩ = some (.string l[i])) (h2 : ∀ i (h : i < l.length), w.cell? ⟨b2, o2 + i, none⟩ = some (.string l[i])) :
    Calls Ybad.prog 7 #[.slice (some ⟨b1, o1, none⟩) l.length c1, .bool true, .slice (some ⟨b2, o2, none⟩) l.length c2, .bool true] w fun e w' => e = .returned (.bool true) ∧ ∃ n, w' = w.drewN n := by
  have Hlen : ∃ n, Hid (l.length = n) := ⟨_, Eq.refl l.length⟩
  obtain ⟨n, Hn⟩ := Hlen
  have e := Hn.out
  rw [e] at hl ⊢
  clear e
  go_enter Ybad.func7, Ybad.ntmps7
  go_wp2_with fail
  go_loopw [9] (fun i wr => ∃ k : Nat, k ≤ n ∧ i = .int .i64 k ∧ ∃ m, wr = w.drewN m) (fun i _ => n - (intOf i).toNat)
  case atStart => exact ⟨0, Nat.zero_le _, rfl, 0, rfl⟩
  case round =>
    obtain ⟨k, hk, rfl, m, rfl⟩ := hrel
    by_cases hlt : k < n
    · have hkl : k < l.length := by rw [Hn.out]; exact hlt
      have g1 := h1 k hkl
      have g2 := h2 k hkl
      generalize l[k] = x at g1 g2
      have hki : (k : Int) < (n : Int) := by omega
      clear h1 h2
      go_wp2_with fail
      go_quiet (fail)
      go_wp2
      go_roundw
      case rel => exact ⟨k + 1, by omega, by go_num, _, rfl⟩
      case measure => simp [intOf]; omega
    · obtain rfl : k = n := by omega
      clear h1 h2
      go_wp2
      go_ret
      exact ⟨rfl, m, rfl⟩


theorem ownsRow_base {w : World} {b b' : Nat} {e : TypeId} {size : Nat} {v : Value} {n : Nat} {xs : List Value} (h : w.ownsRow b e size v n xs) (hb : b' ≤ b) : w.ownsRow b' e size v n xs := by
  refine ⟨h.1, ?_⟩
  rcases h.2 with h | ⟨g, cap, cur, h1, h2, h3⟩
  · exact .inl h
  · exact .inr ⟨g, cap, cur, h1, by omega, h3⟩

/-- the message that both laws hand to Values -/
def msg (part sub ser bat kind : Int) (v : ByteArray) (ep : Int) : Array Value :=
  #[.int .u8 part, .int .i64 sub, .int .u64 ser, .int .i64 bat, .int .u8 kind, .string v, .int .i64 ep, .int .u8 0, .int .i64 0, .int .u8 0, .string { data := #[] }, .int .i64 0, .int .u8 0, .int .i64 0, .int .i64 0, .int .i64 0, .int .u8 0]

theorem values_other (part sub ser bat kind : Int) (v : ByteArray) (ep : Int) (w : World) (h : ¬ (part = 1 ∧ kind = 1)) :
    Calls Ybad.prog 5 #[.agg (msg part sub ser bat kind v ep)] w fun e w' => e = .returned (.tuple #[.slice none 0 0, .bool false]) ∧ Below w.heap.size w w' := by
  unfold msg
  by_cases hp : part = 1
  · have hk : ¬ kind = 1 := fun e => h ⟨hp, e⟩
    have hk' : (kind != 1) = true := by simpa using hk
    subst hp
    clear h hk
    go_enter Ybad.func5, Ybad.ntmps5
    go_wp2_with fail
    go_ret2
    exact ⟨rfl, (Below.refl _ _).alloc (Nat.le_refl _) _⟩
  · have hp' : (part != 1) = true := by simpa using hp
    clear h hp
    go_enter Ybad.func5, Ybad.ntmps5
    go_wp2_with fail
    go_ret2
    exact ⟨rfl, (Below.refl _ _).alloc (Nat.le_refl _) _⟩

theorem values_batch (sub ser bat : Int) (v : ByteArray) (ep : Int) (w : World) (hs : v.size ≤ 2000000) (hB : 3 ≤ w.heap.size) (hE : Errs w) :
    Calls Ybad.prog 5 #[.agg (msg 1 sub ser bat 1 v ep)] w (DecPost w.heap.size (dec v (v.size + 1) 0 []) w) := by
  unfold msg
  have hb1 : ∀ o, Below w.heap.size w (w.alloc o) := fun o => (Below.refl _ _).alloc (Nat.le_refl _) o
  have hc := fun W (h1 : 3 ≤ W.heap.size) (h2 : Errs W) => decodeBatch_any v W hs h1 h2
  generalize dec v (v.size + 1) 0 [] = D at hc ⊢
  have Hc : Hid (∀ W (h1 : 3 ≤ W.heap.size) (h2 : Errs W), Calls Ybad.prog 8 #[.string v] W (DecPost W.heap.size D W)) := hc
  clear hc
  go_enter Ybad.func5, Ybad.ntmps5
  go_wp2_with fail
  refine (Hc.out _ (by simp; omega) (hE.below (hb1 _) hB)).mono ?_
  rintro e w1 ⟨hbl, hm⟩
  have hbl2 : Below w.heap.size w w1 := (hb1 _).trans (hbl.mono (by simp))
  cases D with
  | none =>
    subst hm
    clear hbl
    go_wp2_with fail
    go_ret2
    exact ⟨hbl2, rfl⟩
  | some acc =>
    obtain ⟨x, rfl, hown, hnil⟩ := hm
    have hown2 := ownsRow_base hown (b' := w.heap.size) (by simp)
    have Hnil : Hid (acc = [] → x = .slice none 0 0) := hnil
    clear hbl hown hnil
    go_wp2_with fail
    go_ret2
    exact ⟨hbl2, x, rfl, hown2, Hnil.out⟩
end Go.Proofs.YbulkgdpcDoor.lawB
