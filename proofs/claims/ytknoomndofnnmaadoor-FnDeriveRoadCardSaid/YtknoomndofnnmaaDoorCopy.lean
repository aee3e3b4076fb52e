/- Bytes copied into a row. -/
import Derived.Test.YtknoomndofnnmaaDoorMem
import Derived.Laws.IdiomCopy
namespace Go.Proofs.YtknoomndofnnmaaDoor
open Go Go.RowKit

theorem sizeU8 : (Tryd.prog.info? 5).map (·.size) = some 1 := by kernel_rfl

theorem setCells_any (g : Nat) (ty : TypeId) (l : List Value) (off : Nat) (W : World) (L : List Value) (hW : W.heap[g]? = some (.cells L.toArray ty (0, 0))) (h : off + l.length ≤ L.length) :
    (W.setCells g off l).heap[g]? = some (.cells (L.take off ++ l ++ L.drop (off + l.length)).toArray ty (0, 0)) ∧ Chg [g] W (W.setCells g off l) := setCells_row g ty l off W L hW h

theorem run_copy_bytes {w : World} {g off dLen dCap : Nat} {L : List Value} {t ty : TypeId} (hg : w.heap[g]? = some (.cells L.toArray t (0, 0))) (hfit : off + dLen ≤ L.length) {u : Value} {ys : Bs} {S : List Nat} (hu : BS S w u ys) :
    ∃ w', (Builtin.copy_ #[24, 24] ty #[.slice (some ⟨g, off, none⟩) dLen dCap, u]).run Tryd.prog w = .ok (.int .i64 ((min ys.length dLen : Nat) : Int)) w' ∧
      w'.heap[g]? = some (.cells (L.take off ++ brow (ys.take (min ys.length dLen)) ++ L.drop (off + min ys.length dLen)).toArray t (0, 0)) ∧ Chg [g] w w' := by
  obtain ⟨a, c, rfl, h1, h2, h3, h⟩ := hu
  rcases Nat.eq_zero_or_pos (min ys.length dLen) with h0 | h0
  · refine ⟨w, ?_, ?_, Chg.refl _ _⟩
    · rw [h0]
      exact run_copy_none w 24 24 ty 5 _ _ _ _ _ _ Tryd.underlying24 sizeU8 h0
    · rw [h0]
      simpa [brow] using hg
  · rcases h with rfl | ⟨b, o, rfl, _, hc⟩
    · simp at h0
    · have hl : (brow (ys.take (min ys.length dLen))).length = min ys.length dLen := by rw [brow_length, List.length_take]; omega
      have hr := run_copy_cells (P := Tryd.prog) w 24 24 ty 5 g off dLen dCap ⟨b, o, none⟩ ys.length c (brow (ys.take (min ys.length dLen))) Tryd.underlying24 sizeU8 hl
        (fun j v hv => by
          have hj : j < min ys.length dLen := by rw [← hl]; exact (List.getElem?_eq_some_iff.1 hv).1
          rw [brow_get _ _ (by rw [List.length_take]; omega), gt_take _ _ _ hj] at hv
          cases hv
          have : (⟨b, o, none⟩ : Addr).add j = ⟨b, o + j, none⟩ := by unfold Addr.add; split <;> simp_all
          rw [this]
          exact hc j (by omega))
        (fun j hj => by
          rw [hl] at hj
          rw [blk_cell hg]
          simp
          omega)
        (fun j _ => blk_frozen hg _)
        (fun v hv => by
          simp only [brow, List.mem_map] at hv
          obtain ⟨x, _, rfl⟩ := hv
          rfl)
      obtain ⟨q1, q2⟩ := setCells_any g t (brow (ys.take (min ys.length dLen))) off w L hg (by rw [hl]; omega)
      rw [hl] at hr q1
      exact ⟨_, hr, q1, q2⟩

/-- At the operation. -/
theorem copy_bytes {ops : Array Oper} {rest : List Oper} {o : Oper} {a : Act} {w : World} {Q : Exit → Act → World → Prop} (hgd : o.guard = none) (d x : Operand)
    (ho : o.op = .call { callee := .builtin .copy, args := #[d, x], argTypes := #[24, 24] }) {g off dLen dCap : Nat} (hd : a.eval d = .slice (some ⟨g, off, none⟩) dLen dCap) {u : Value} (hx : a.eval x = u)
    {L : List Value} {t : TypeId} (hg : w.heap[g]? = some (.cells L.toArray t (0, 0))) (hfit : off + dLen ≤ L.length) {ys : Bs} {S : List Nat} (hu : BS S w u ys)
    (h : ∀ w', w'.heap[g]? = some (.cells (L.take off ++ brow (ys.take (min ys.length dLen)) ++ L.drop (off + min ys.length dLen)).toArray t (0, 0)) → Chg [g] w w' → wpList Tryd.prog ops Q rest (a.put o.dst (.int .i64 ((min ys.length dLen : Nat) : Int))) w') :
    wpList Tryd.prog ops Q (o :: rest) a w := by
  refine wpList_plain hgd fun K hK => ?_
  obtain ⟨w', hr, h1, h2⟩ := run_copy_bytes (ty := o.type) (dCap := dCap) hg hfit hu
  unfold Oper.wp execOp
  simp only [ho, resolve, invoke, builtin, Sem.run_bind, Sem.run_pure, Result.andThen_ok, List.map_toArray, List.map_cons, List.map_nil, hd, hx, hr]
  exact hK _ _ (h w' h1 h2)
end Go.Proofs.YtknoomndofnnmaaDoor
