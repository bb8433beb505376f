import Derived.Test.YbulkgdpqRows
import Derived.WalkKit
import Derived.WalkSpells
import Derived.Conc.LoneCalls
import Derived.Conc.LoneSelect
namespace Go.Proofs.Ybulkgdpq
open Go.RowKit Go.Conc

/-- A select of one receive with a default, first of its region, whatever the machine of one then answers. -/
theorem wp_region_select {P : Program} {id : Nat} {o : Oper} {l : List Oper} {Q : Exit → Act → World → Prop} {a : Act} {w : World} {c : Nat} {z v : Value}
    (hg : o.guard = none) (hx : (execOp a.eval o).run P w = .ok (.comm #[rcase c z] false .select) w)
    (hs : ∀ fr cs es, stepG P true (G fr cs) w = .comm (G fr cs) #[rcase c z] false .select w es → step P (solo (G fr cs) w) = .next (solo (G (fr.finish v) cs) w))
    (h : wpList P (o :: l).toArray Q l (a.put o.dst v) w) : (Code.region id (o :: l).toArray false).wp P Q a w := by
  intro b k cs
  have hl : List.range (o :: l).toArray.size = 0 :: List.range' 1 l.length := by
    rw [List.range_eq_range']; simp [List.range'_succ]
  have hops : wpOps P (o :: l).toArray Q (List.range' 1 l.length) = wpList P (o :: l).toArray Q l := wpOps_eq_wpList l 1 (fun j => by simp [Nat.add_comm 1 j])
  obtain ⟨e, a', w', hq, harr⟩ := wp_ops (List.range' 1 l.length) _ w (by rw [hops]; exact h) b k cs
  have hw : Region.wanted o (yielded (o :: l).toArray a.tmps) = true := by simp [Region.wanted, hg]
  have ho : (o :: l).toArray[0]? = some o := rfl
  have hgs := stepG_op (P := P) (b := b) (k := k) (cs := cs) (w := w) (rest := List.range' 1 l.length) ho hw
  have hst : ∃ es, stepG P true (G (b.at a (.inRegion (o :: l).toArray (0 :: List.range' 1 l.length) :: k)) cs) w = .comm (G (b.at a (.inRegion (o :: l).toArray (0 :: List.range' 1 l.length) :: k)) cs) #[rcase c z] false .select w es := by
    have e1 : stepG P true (G (b.at a (.inRegion (o :: l).toArray (0 :: List.range' 1 l.length) :: k)) cs) w = _ := hgs
    rw [e1]
    simp [stepG.apply, Sem.runT_eq, hx, G]
    exact ⟨_, rfl⟩
  obtain ⟨es, hst⟩ := hst
  have h2 := hs _ _ _ hst
  refine ⟨e, a', w', hq, .of_steps (.one step_region) ?_⟩
  rw [hl]
  refine .of_steps (.one h2) ?_
  rw [Frame.finish_at b a (o :: l).toArray 0 (List.range' 1 l.length) k v]
  exact harr

/-- .. the channel is open and empty: the default. -/
theorem wp_region_select_open {P : Program} {id : Nat} {o : Oper} {l : List Oper} {Q : Exit → Act → World → Prop} {a : Act} {w : World} {c cap s r : Nat} {z : Value} {tm : Bool}
    (hg : o.guard = none) (hx : (execOp a.eval o).run P w = .ok (.comm #[rcase c z] false .select) w) (hc : w.heap[c]? = some (.chan cap #[] false s r tm))
    (h : wpList P (o :: l).toArray Q l (a.put o.dst (.tuple #[goInt (-1), .bool false, z])) w) : (Code.region id (o :: l).toArray false).wp P Q a w :=
  wp_region_select hg hx (fun _ _ _ hst => step_lone_select_default hst hc) h

/-- .. the channel is closed and empty: the zero value, not ok. -/
theorem wp_region_select_shut {P : Program} {id : Nat} {o : Oper} {l : List Oper} {Q : Exit → Act → World → Prop} {a : Act} {w : World} {c cap s r : Nat} {z : Value} {tm : Bool}
    (hg : o.guard = none) (hx : (execOp a.eval o).run P w = .ok (.comm #[rcase c z] false .select) w) (hc : w.heap[c]? = some (.chan cap #[] true s r tm))
    (h : wpList P (o :: l).toArray Q l (a.put o.dst (.tuple #[goInt 0, .bool false, z])) w) : (Code.region id (o :: l).toArray false).wp P Q a w :=
  wp_region_select hg hx (fun _ _ _ hst => step_lone_select_recv_shut hst hc) h

theorem exec_select {a : Act} {w : World} {o : Oper} (x : Operand) (ho : o.op = .select #[{ chan := x, send := none, elem := 42 }] false) (c : Nat) (hx : a.eval x = .chan (some c)) :
    (execOp a.eval o).run Yba.prog w = .ok (.comm #[rcase c (.agg #[])] false .select) w := by
  simp [execOp, ho, hx, rcase]
end Go.Proofs.Ybulkgdpq
