import Derived.Test.YbulkgdpcDoorB2
import Derived.OpenShut
namespace Go.Proofs.YbulkgdpcDoor.lawB
open Go.ChangeShapes Go.WideShapes Go.ChangeAt Go.RowKit
set_option linter.unusedVariables false

/-! ### The plain decoding of a batch -/
def dec (s : ByteArray) : Nat → Nat → List ByteArray → Option (List ByteArray)
  | 0, _, _ => none
  | f + 1, pos, acc =>
    if pos < s.size then
      match uv s pos 10 0 0 with
      | none => none
      | some (x, q) => if 65536 < x ∨ ((s.size - q : Nat) : Int) < x then none else dec s f (q + x.toNat) (acc ++ [s.extract q (q + x.toNat)])
    else some acc

theorem or_bd (a b : Int) : 0 ≤ bits BinOp.or IntKind.u64 a b ∧ bits BinOp.or IntKind.u64 a b ≤ 18446744073709551615 := bounds_u64 (wf_bits .or .u64 a b)

theorem uv_bd (s : ByteArray) (pos : Nat) : ∀ (n k : Nat) (X : Int) (x : Int) (q : Nat), uv s pos n k X = some (x, q) → 0 ≤ x ∧ x ≤ 18446744073709551615 ∧ pos + k < q ∧ q ≤ s.size
  | 0, k, X, x, q, h => by simp [uv] at h
  | n + 1, k, X, x, q, h => by
    rw [uv] at h
    split at h
    · split at h
      · split at h
        · simp at h
        · simp only [Option.some.injEq, Prod.mk.injEq] at h
          obtain ⟨h1, h2⟩ := h
          have := or_bd X (IntKind.u64.wrap (byteAt s (pos + k) * 2 ^ (7 * k)))
          unfold orL at h1
          omega
      · have := uv_bd s pos n (k + 1) _ x q h
        omega
    · simp at h

/-- where the loop of decodeBatch stands -/
structure Inv (B : Nat) (w : World) (s : ByteArray) (wr : World) (v : Value) (pos : Nat) (acc : List ByteArray) : Prop where
  rd : ∃ p, wr.rowIs B 57 3 (rc s pos p)
  own : wr.ownsRow (B + 1) 9 1 v acc.length (acc.map Value.string)
  bel : Below B w wr
  nil : acc = [] → v = .slice none 0 0
  size : B + 1 ≤ wr.heap.size

theorem Only.grownBy {R : Nat} {w w' : World} (h : Only R w w') : w.grownBy w' (some R) := ⟨h.os, h.tape, h.output, by rw [h.size]; exact Nat.le_refl _, fun k _ hk => h.block k (fun e => hk (by rw [e]))⟩
theorem Only.below {R B : Nat} {a w w' : World} (hb : Below B a w) (h : Only R w w') (hR : B ≤ R) : Below B a w' :=
  hb.trans ⟨h.os, h.tape, h.output, by rw [h.size]; exact Nat.le_refl _, fun k hk => h.block k (by omega)⟩

theorem Inv.only {B : Nat} {w : World} {s : ByteArray} {wr w' : World} {v : Value} {pos q : Nat} {acc : List ByteArray} {p : Int} (h : Inv B w s wr v pos acc) (ho : Only B wr w') (hr : w'.rowIs B 57 3 (rc s q p)) : Inv B w s w' v q acc :=
  ⟨⟨p, hr⟩, h.own.kept ho.grownBy (by
      cases hv : v.ownBlock with
      | none => exact .inl rfl
      | some k =>
        have := (h.own.lt k hv).1
        exact .inr (by intro e; cases e; omega)), Only.below h.bel ho (Nat.le_refl _), h.nil, by rw [ho.size]; exact h.size⟩
theorem Inv.drewN {B : Nat} {w : World} {s : ByteArray} {wr : World} {v : Value} {pos : Nat} {acc : List ByteArray} (h : Inv B w s wr v pos acc) (n : Nat) : Inv B w s (wr.drewN n) v pos acc :=
  ⟨h.rd, h.own, ⟨h.bel.os, h.bel.tape, h.bel.output, h.bel.size, h.bel.block⟩, h.nil, h.size⟩

theorem Below.dN {B : Nat} {a w : World} (h : Below B a w) (n : Nat) : Below B a (w.drewN n) := ⟨h.os, h.tape, h.output, h.size, h.block⟩

theorem Errs.below {B : Nat} {w w' : World} (h : Errs w) (hb : Below B w w') (hB : 3 ≤ B) : Errs w' := by
  obtain ⟨⟨a0, h0⟩, ⟨a1, h1⟩, ⟨a2, h2⟩⟩ := h
  exact ⟨⟨a0, (hb.cell (by show 0 < B; omega)).trans h0⟩, ⟨a1, (hb.cell (by show 1 < B; omega)).trans h1⟩, ⟨a2, (hb.cell (by show 2 < B; omega)).trans h2⟩⟩

def posOf (w : World) (B : Nat) : Nat := match w.cell? ⟨B, 1, none⟩ with | some (.int _ i) => i.toNat | _ => 0
theorem posOf_rd {w : World} {B : Nat} {s : ByteArray} {i : Nat} {p : Int} (h : w.rowIs B 57 3 (rc s i p)) : posOf w B = i := by
  have c1 : w.cell? ⟨B, 1, none⟩ = some (.int .i64 i) := h.cell (i := 1) (by omega)
  unfold posOf
  rw [c1]
  simp

theorem info9 : (Ybad.prog.info? 9).map (fun i => (i.zero, i.size, i.bytes)) = some (some (.string ByteArray.empty), 1, 16) := by kernel_rfl

/-- behind the append: the new list is owned -/
theorem Inv.append {B : Nat} {w : World} {s : ByteArray} {wr w1 : World} {v v' : Value} {pos : Nat} {acc : List ByteArray} {x : ByteArray} {o : Obj} (h : Inv B w s wr v pos acc)
    (hown : w1.ownsRow (B + 1) 9 1 v' (acc.length + 1) (acc.map Value.string ++ [.string x])) (hg : (wr.alloc o).grownBy w1 v.ownBlock) : Inv B w s w1 v' pos (acc ++ [x]) := by
  obtain ⟨p, hp⟩ := h.rd
  have hk : ∀ k, v.ownBlock = some k → B + 1 ≤ k := fun k hv => (h.own.lt k hv).1
  refine ⟨⟨p, ?_⟩, ?_, ?_, ?_, ?_⟩
  · exact (hp.alloc o).of_block (hg.block B (by simp; have := hp.lt; omega) (fun e => by have := hk B e.symm; omega))
  · simpa using hown
  · exact (h.bel.alloc (by have := h.size; omega) o).grown hg (by have := h.size; simp; omega) (fun k e => by have := hk k e; omega)
  · simp
  · have := hg.size
    have := h.size
    simp at *
    omega

/-- what a decoding leaves: nothing and false, or the list, owned, and whether it holds anything -/
def DecPost (B : Nat) (D : Option (List ByteArray)) (w : World) (e : Ending) (w' : World) : Prop :=
  Below B w w' ∧ match D with
    | none => e = .returned (.tuple #[.slice none 0 0, .bool false])
    | some acc => ∃ v, e = .returned (.tuple #[v, .bool (!acc.isEmpty)]) ∧ w'.ownsRow B 9 1 v acc.length (acc.map Value.string) ∧ (acc = [] → v = .slice none 0 0)

set_option maxRecDepth 100000 in
set_option maxHeartbeats 1000000 in
theorem decodeBatch_any (s : ByteArray) (w : World) (hs : s.size ≤ 2000000) (hB : 3 ≤ w.heap.size) (hE : Errs w) :
    Calls Ybad.prog 8 #[.string s] w (DecPost w.heap.size (dec s (s.size + 1) 0 []) w) := by
  generalize hD : dec s (s.size + 1) 0 [] = D
  have HD : Hid (dec s (s.size + 1) 0 [] = D) := hD
  clear hD
  obtain ⟨i0, hi, hz0, hz1, hz2⟩ := info_parts info9
  go_enter Ybad.func8, Ybad.ntmps8
  go_wp2_with (go_at_call 9; refine (newReader_any _ _).mono ?_; rintro e w' ⟨rfl, rfl⟩)
  go_loopw [2] (fun v wr => ∃ (pos f : Nat) (acc : List ByteArray), pos ≤ s.size ∧ s.size < f + pos ∧ acc.length ≤ pos ∧ Inv w.heap.size w s wr v pos acc ∧ Hid (dec s f pos acc = D)) (fun _ wr => s.size - posOf wr w.heap.size)
  case atStart =>
    refine ⟨0, s.size + 1, [], by omega, by omega, by simp, ⟨⟨-1, ?_⟩, World.ownsRow_nil _ _ _ _, (Below.refl _ _).alloc (Nat.le_refl _) _, fun _ => rfl, by simp⟩, HD⟩
    exact World.rowIs_alloc w #[.string s, .int .i64 0, .int .i64 (-1)] 57 (rc s 0 (-1)) (fun i hi => by
      match i, hi with
      | 0, _ => rfl
      | 1, _ => rfl
      | 2, _ => rfl)
  case round =>
    obtain ⟨pos, f, acc, hpos, hf, hal, hinv, HV⟩ := hrel
    obtain ⟨p, hrd⟩ := hinv.rd
    obtain ⟨f', rfl⟩ : ∃ f', f = f' + 1 := ⟨f - 1, by omega⟩
    have hV := HV.out
    rw [dec] at hV
    have hEr := hE.below hinv.bel hB
    clear HV HD
    by_cases hlt : pos < s.size
    · rw [if_pos hlt] at hV
      have hgt : (0 : Int) < ((s.size - pos : Nat) : Int) := by omega
      go_wp2_with fail
      refine (len_any w.heap.size s pos p wr hrd hpos hs).mono ?_
      rintro e w1 ⟨rfl, n1, rfl⟩
      go_wp2_with fail
      refine (ruv_any w.heap.size s pos p (wr.drewN n1) hrd hs hpos hB ⟨hEr.e0, hEr.e1, hEr.e2⟩).mono ?_
      rintro e w2 ⟨hon, hm⟩
      cases hu : uv s pos 10 0 0 with
      | none =>
        rw [hu] at hV hm
        subst hV
        obtain ⟨x, t, v, rfl⟩ := hm
        clear hu
        go_wp2_with fail
        go_ret2
        exact ⟨Only.below hinv.bel ((Only.refl _ _).trans ⟨hon.os, hon.tape, hon.output, hon.size, hon.block⟩) (Nat.le_refl _), rfl⟩
      | some r =>
        obtain ⟨x, q⟩ := r
        rw [hu] at hV hm
        obtain ⟨rfl, hrd2⟩ := hm
        have hbd := uv_bd s pos 10 0 0 x q hu
        clear hu
        obtain ⟨X, rfl⟩ : ∃ X : Nat, x = (X : Int) := ⟨x.toNat, by omega⟩
        have hinv2 : Inv w.heap.size w s w2 u2 q acc := (hinv.drewN n1).only hon hrd2
        simp only [Int.toNat_natCast] at hV
        by_cases hbig : 65536 < X
        · rw [if_pos (Or.inl (by omega))] at hV
          subst hV
          have hb1 : (65536 : Int) < (X : Int) := by omega
          go_wp2_with fail
          go_ret2
          exact ⟨hinv2.bel, rfl⟩
        · have hb1 : ¬ (65536 : Int) < (X : Int) := by omega
          have hbq : q ≤ s.size := hbd.2.2.2
          have hb2 : decide ((65536 : Int) < (X : Int)) = false := decide_eq_false hb1
          go_wp2_with fail
          refine (len_any w.heap.size s q (-1) w2 hrd2 hbq hs).mono ?_
          rintro e w3 ⟨rfl, n3, rfl⟩
          by_cases hbig2 : s.size - q < X
          · rw [if_pos (Or.inr (by omega))] at hV
            subst hV
            have hb3 : ((s.size - q : Nat) : Int) < (X : Int) := by omega
            go_wp2_with fail
            go_ret2
            exact ⟨(hinv2.drewN n3).bel, rfl⟩
          · rw [if_neg (by omega)] at hV
            have HV : Hid (dec s f' (q + X) (acc ++ [s.extract q (q + X)]) = D) := hV
            clear hV
            have hb3 : ¬ ((s.size - q : Nat) : Int) < (X : Int) := by omega
            have hb4 : decide (((s.size - q : Nat) : Int) < (X : Int)) = false := decide_eq_false hb3
            have hqq : (s.size : Int) - ((s.size - q : Nat) : Int) = (q : Int) := by omega
            go_wp2_with fail
            refine (len_any w.heap.size s q (-1) (w2.drewN n3) hrd2 hbq hs).mono ?_
            rintro e w4 ⟨rfl, n4, rfl⟩
            have hq1 : q + X ≤ s.size := by omega
            have hown : (w2.drewN (n3 + n4)).ownsRow (w.heap.size + 1) 9 1 u2 acc.length (acc.map Value.string) := hinv2.own
            go_wp2_with (at_builtin; refine wpList_append_own _ rfl (.tmp 37) (.tmp 45) 38 rfl (w.heap.size + 1) 9 i0 (.string ByteArray.empty) 1 16 Ybad.underlying38 hi hz0 hz1 hz2 rfl (by decide) _ _ _ rfl (hown.alloc _) ⟨w2.heap.size, 0, none⟩ 1 1 [.string (s.extract q (q + X))] rfl rfl ?c1 ?c2 ?c3 ?c4 ?c5 ?_)
            case c1 => exact cell_one_new _ _ _
            case c2 => intro u hu; simp at hu; subst hu; rfl
            case c3 => unfold maxLen; omega
            case c4 => omega
            case c5 => have := hinv2.size; simp; omega
            intro v' w5 hown' hgrow _
            have hinv5 := (hinv2.drewN (n3 + n4)).append hown' hgrow
            obtain ⟨p5, hrd5⟩ := hinv5.rd
            go_wp2_with fail
            refine (seek_any w.heap.size s q p5 X w5 hrd5 hq1 hs).mono ?_
            rintro e w6 ⟨rfl, hrd6, hon6⟩
            have hinv6 := hinv5.only hon6 hrd6
            clear hown hown' hgrow hqq
            go_wp2
            go_roundw
            case rel => exact ⟨q + X, f', acc ++ [s.extract q (q + X)], hq1, by omega, by simp; omega, hinv6, HV⟩
            case measure =>
              rw [posOf_rd hrd6, posOf_rd hrd]
              omega
    · rw [if_neg hlt] at hV
      subst hV
      have hgt : ¬ (0 : Int) < ((s.size - pos : Nat) : Int) := by omega
      have hgd : decide ((0 : Int) < ((s.size - pos : Nat) : Int)) = false := decide_eq_false hgt
      have hown := hinv.own
      have hnil := hinv.nil
      have hbl := hinv.bel
      have hown2 : wr.ownsRow w.heap.size 9 1 u2 acc.length (acc.map Value.string) := by
        refine ⟨hown.1, ?_⟩
        rcases hown.2 with h | ⟨g, cap, cur, h1, h2, h3⟩
        · exact .inl h
        · exact .inr ⟨g, cap, cur, h1, by omega, h3⟩
      have Hnil : Hid (acc = [] → u2 = .slice none 0 0) := hnil
      clear hinv hnil hown
      rcases hown2.2 with ⟨rfl, hlen⟩ | ⟨g, cap, cur, rfl, hb, hg, hnc, hcm, hcs, htake⟩
      · have hacc : acc = [] := List.length_eq_zero_iff.1 hlen
        subst hacc
        clear hown2
        go_wp2_with fail
        refine (len_any w.heap.size s pos p wr hrd hpos hs).mono ?_
        rintro e w1 ⟨rfl, n1, rfl⟩
        go_wp2_with fail
        go_ret2
        exact ⟨Below.dN hbl _, _, rfl, World.ownsRow_nil _ _ _ _, fun _ => rfl⟩
      · cases hacc : acc with
        | nil => exact absurd (Hnil.out hacc) (by simp)
        | cons a r =>
          have hpl : (0 : Int) < ((acc.length : Nat) : Int) := by rw [hacc]; simp
          have hpd : decide ((0 : Int) < ((acc.length : Nat) : Int)) = true := decide_eq_true hpl
          have Hacc : Hid (acc = a :: r) := hacc
          have Hown : Hid (wr.ownsRow w.heap.size 9 1 (.slice (some ⟨g, 0, none⟩) acc.length cap) acc.length (acc.map Value.string)) := hown2
          rw [← hacc]
          clear hacc hown2 hg hcs htake
          go_wp2_with fail
          refine (len_any w.heap.size s pos p wr hrd hpos hs).mono ?_
          rintro e w1 ⟨rfl, n1, rfl⟩
          go_wp2_with fail
          go_ret2
          refine ⟨Below.dN hbl _, _, ?_, Hown.out, fun h => ?_⟩
          · have := Hacc.out
            subst this
            rfl
          · have := Hacc.out
            rw [this] at h
            simp at h
end Go.Proofs.YbulkgdpcDoor.lawB
