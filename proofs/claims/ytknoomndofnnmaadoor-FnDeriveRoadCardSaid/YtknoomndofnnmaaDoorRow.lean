/- Whole rows read and written, where the block is known whole. -/
import Derived.Test.YtknoomndofnnmaaDoorCopy
import Derived.Deep.MidRow
namespace Go.Proofs.YtknoomndofnnmaaDoor
open Go Go.RowKit

theorem size_at {t : TypeId} {n : Nat} (h : (Tryd.prog.info? t).map (·.size) = some n) {L : List Value} (hl : L.length = n) : (Tryd.prog.info? t).map (·.size) = some L.toArray.size := by
  rw [h]; simp [hl]
theorem brow_one (xs : Bs) : ∀ v ∈ brow xs, v.oneCell' = true := by
  intro v hv
  simp only [brow, List.mem_map] at hv
  obtain ⟨x, _, rfl⟩ := hv
  rfl
section
variable {ops : Array Oper} {rest : List Oper} {o : Oper} {a : Act} {w : World} {Q : Exit → Act → World → Prop}
theorem load_row (hgd : o.guard = none) (ty : TypeId) (x : Operand) (ho : o.op = .load ty x) (g : Nat) (hx : a.eval x = .pointer (some ⟨g, 0, none⟩)) {t : TypeId} {L : List Value} {d : TypeDesc} (hg : w.heap[g]? = some (.cells L.toArray t (0, 0)))
    (hu : Tryd.prog.underlying ty = some d) (hd : d.isRow = true) {n : Nat} (hi : (Tryd.prog.info? ty).map (·.size) = some n) (hl : L.length = n)
    (h : wpList Tryd.prog ops Q rest (a.put o.dst (.agg L.toArray)) w) : wpList Tryd.prog ops Q (o :: rest) a w :=
  wpList_load_mid hgd ty x ho g 0 hx L d (fun j v hv => by rw [Nat.zero_add, blk_cell hg]; simpa using hv) hu hd (by rw [hi, hl]) h
theorem store_row (hgd : o.guard = none) (ty : TypeId) (x y : Operand) (ho : o.op = .store ty x y) (g : Nat) (hx : a.eval x = .pointer (some ⟨g, 0, none⟩)) {cs : List Value} (hy : a.eval y = .agg cs.toArray) {t : TypeId} {L : List Value} (hg : w.heap[g]? = some (.cells L.toArray t (0, 0)))
    {n : Nat} (hi : (Tryd.prog.info? ty).map (·.size) = some n) (hl : cs.length = n) (hL : L.length = n) (h1 : ∀ v ∈ cs, v.oneCell' = true)
    (h : ∀ w', w'.heap[g]? = some (.cells cs.toArray t (0, 0)) → Chg [g] w w' → wpList Tryd.prog ops Q rest (a.put o.dst undef) w') : wpList Tryd.prog ops Q (o :: rest) a w := by
  refine wpList_store_mid hgd ty x y ho g 0 cs.toArray hx hy ?_ (size_at hi hl) (all_oneCell_toArray h1) ?_
  · intro j hj
    have hj' : j < L.length := by simp at hj; omega
    rw [Nat.zero_add]
    refine ⟨?_, blk_frozen hg j⟩
    rw [blk_cell hg]
    simp [hj']
  · obtain ⟨q1, q2⟩ := setCells_any g t cs 0 w L hg (by omega)
    refine h _ ?_ q2
    have e : L.take 0 ++ cs ++ L.drop (0 + cs.length) = cs := by rw [List.drop_of_length_le (by omega)]; simp
    rw [e] at q1
    exact q1
end
end Go.Proofs.YtknoomndofnnmaaDoor
