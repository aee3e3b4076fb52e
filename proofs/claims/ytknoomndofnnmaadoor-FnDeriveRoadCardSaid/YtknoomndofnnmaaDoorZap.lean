/- append(b, make([]byte, 64)...). -/
import Derived.Test.YtknoomndofnnmaaDoorCopy
namespace Go.Proofs.YtknoomndofnnmaaDoor
open Go Go.RowKit

/-- 64 noughts. -/
def z64 : Bs := List.replicate 64 0
theorem z64_length : z64.length = 64 := rfl
theorem zc64 : Builtin.zeroCells (Value.int .u8 0).cells 64 = (brow z64).toArray := by kernel_rfl
theorem run_append_zeros {w : World} {v : Value} {xs : Bs} (hv : Own w v xs) (ty : TypeId) (hb : xs.length ≤ 1000000) :
    ∃ v' w', (Builtin.append_ #[24, 3] ty #[v, .int .i64 64]).run Tryd.prog w = .ok v' w' ∧ Own w' v' (xs ++ z64) ∧ Chg v.ownBlock.toList w w' ∧ (∀ k, v'.ownBlock = some k → v.ownBlock = some k ∨ w.heap.size ≤ k) := by
  obtain ⟨i, hi, hz0, hz1, hz2⟩ := info_parts infoU8
  have ht := Tryd.underlying24
  have hk := Tryd.underlying3
  have hw : IntKind.i64.wrap 64 = 64 := by decide
  have hll : (xs ++ z64).length = xs.length + 64 := by simp [z64_length]
  have hbr : (brow z64).length = 64 := by rw [brow_length, z64_length]
  have grown : ∀ (base : Option Addr) (c : Nat), c < xs.length + 64 → v = .slice base xs.length c → (∀ w' : World, w'.heap = w.heap → (Builtin.firstCells i.size xs.length (.slice base xs.length c)).run Tryd.prog w' = .ok (brow xs).toArray w') →
      ∃ v' w', (Builtin.append_ #[24, 3] ty #[v, .int .i64 64]).run Tryd.prog w = .ok v' w' ∧ Own w' v' (xs ++ z64) ∧ Chg v.ownBlock.toList w w' ∧ (∀ k, v'.ownBlock = some k → v.ownBlock = some k ∨ w.heap.size ≤ k) := by
    intro base c hc hve hold
    subst hve
    have hfit := growslice_fits hc (by rw [hz2]; omega : (xs.length + 64) * i.bytes ≤ 140737488355328)
    have hr : (Builtin.append_ #[24, 3] ty #[.slice base xs.length c, .int .i64 64]).run Tryd.prog w =
        .ok (.slice (some ⟨w.heap.size, 0, none⟩) (xs.length + 64) (grownCap w (xs.length + 64) c 5))
          (w.drew.alloc (.cells ((brow xs ++ brow z64).toArray ++ Builtin.zeroCells (Value.int .u8 0).cells (grownCap w (xs.length + 64) c 5 - (xs.length + 64))) 5)) := by
      have hn : ¬ (xs.length + 64 ≤ c) := by omega
      have h63' : ¬ (9223372036854775807 < ((xs.length : Int) + max 64 0)) := by omega
      have h48' : ¬ (281474976710656 < Builtin.nextslicecap (xs.length + 64) c) := by rw [hz2] at hfit; omega
      have hold1 := hold w.drew rfl
      rw [hz1] at hold1
      simp [Builtin.append_, run_underlying ht, run_underlying hk, sizeOf, typeInfo, zeroValue, hi, hz0, hz1, hz2, asInt, asIntOf, hw, hn, h63', h48', Question.forced, newRow, grownCap, hold1, zc64]
      rw [← List.append_toArray, Array.append_assoc]
    have hge := grownCap_ge w (xs.length + 64) c 5
    have hcm := grownCap_le_maxLen w (xs.length + 64) c 5 (by unfold maxLen; omega)
    refine ⟨_, _, hr, .inr ⟨w.heap.size, _, _, by rw [hll], heap_alloc_new w.drew _, by rw [hll]; exact hge, hcm, ?_, ?_⟩, (Chg.refl _ w).drew.alloc _, fun k hk => ?_⟩
    · simp only [Array.size_append, List.size_toArray, size_zeroCells, Value.cells, List.length_append, brow_length, z64_length]
      have : ([Value.int .u8 0] : List Value).length = 1 := rfl
      rw [this]
      omega
    · simp only [Array.toList_append]
      have e : (brow (xs ++ z64)).length = (xs ++ z64).length := by simp [brow]
      have e' : brow (xs ++ z64) = brow xs ++ brow z64 := by simp [brow]
      rw [← e, e', List.take_append_of_le_length (by simp [brow])]
      exact List.take_length
    · simp [Value.ownBlock] at hk
      exact .inr (by omega)
  rcases id hv with ⟨rfl, rfl⟩ | ⟨g, cap, cur, rfl, hg, hnc, hcm, hcs, htake⟩
  · exact grown none 0 (by simp) rfl (fun w' _ => run_firstCells_none w' i.size 0 0 0)
  · by_cases hroom : xs.length + 64 ≤ cap
    · have hr : (Builtin.append_ #[24, 3] ty #[.slice (some ⟨g, 0, none⟩) xs.length cap, .int .i64 64]).run Tryd.prog w = .ok (.slice (some ⟨g, 0, none⟩) (xs.length + 64) cap) (w.setCells g xs.length (brow z64)) := by
        have hst := run_storeCells_cells (P := Tryd.prog) g xs.length (brow z64) 0 w
          (fun j hj => by
            rw [hbr] at hj
            rw [blk_cell hg, Array.getElem?_eq_getElem (by omega)]; rfl)
          (fun j _ => blk_frozen hg _) (fun v hv => by
            simp only [brow, List.mem_map] at hv
            obtain ⟨x, _, rfl⟩ := hv
            rfl)
        simp only [Nat.add_zero] at hst
        simp [Builtin.append_, run_underlying ht, run_underlying hk, sizeOf, typeInfo, zeroValue, hi, hz0, hz1, hz2, asInt, asIntOf, hw, hroom, zc64, Addr.add_lit, hst]
      obtain ⟨h1, h2⟩ := setCells_row g 5 (brow z64) xs.length w cur.toList (by simpa using hg) (by rw [hbr]; simp; omega)
      refine ⟨_, _, hr, .inr ⟨g, cap, _, by rw [hll], h1, by rw [hll]; exact hroom, hcm, ?_, ?_⟩, h2, fun k hk => .inl (by simpa [Value.ownBlock] using hk)⟩
      · simp [brow, z64_length]; omega
      · have e : (brow (xs ++ z64)).length = (xs ++ z64).length := by simp [brow]
        have e' : brow (xs ++ z64) = brow xs ++ brow z64 := by simp [brow]
        rw [← e, htake, e', List.append_assoc, ← List.append_assoc]
        exact List.take_left
    · refine grown _ cap (by omega) rfl (fun w' hw' => run_firstCells_some w' i.size xs.length _ xs.length cap (brow xs) (by simp [brow, hz1]) ?_)
      intro j u hu
      have hj : j < xs.length := by
        have := (List.getElem?_eq_some_iff.1 hu).1
        simpa [brow] using this
      rw [brow_get xs j hj] at hu
      cases hu
      have : (⟨g, 0, none⟩ : Addr).add j = ⟨g, j, none⟩ := by unfold Addr.add; split <;> simp_all
      rw [this]
      have hg' : w'.heap[g]? = some (.cells cur 5 (0, 0)) := (by rw [hw']; exact hg)
      have hv' : Own w' (.slice (some ⟨g, 0, none⟩) xs.length cap) xs := .inr ⟨g, cap, cur, rfl, hg', hnc, hcm, hcs, htake⟩
      exact hv'.cells rfl j hj
/-- At the operation. -/
theorem append_zap {ops : Array Oper} {rest : List Oper} {o : Oper} {a : Act} {w : World} {Q : Exit → Act → World → Prop} (hgd : o.guard = none) (s x : Operand)
    (ho : o.op = .call { callee := .builtin .append, args := #[s, x], argTypes := #[24, 3] }) {v : Value} {xs : Bs} (hs : a.eval s = v) (hv : Own w v xs) (hx : a.eval x = .int .i64 64) (hb : xs.length ≤ 1000000)
    (h : ∀ v' w', Own w' v' (xs ++ z64) → Chg v.ownBlock.toList w w' → (∀ k, v'.ownBlock = some k → v.ownBlock = some k ∨ w.heap.size ≤ k) → wpList Tryd.prog ops Q rest (a.put o.dst v') w') :
    wpList Tryd.prog ops Q (o :: rest) a w := by
  refine wpList_plain hgd fun K hK => ?_
  obtain ⟨v', w', hr, h1, h2, h3⟩ := run_append_zeros hv o.type hb
  unfold Oper.wp execOp
  simp only [ho, resolve, invoke, builtin, Sem.run_bind, Sem.run_pure, Result.andThen_ok, List.map_toArray, List.map_cons, List.map_nil, hs, hx, hr]
  exact hK _ _ (h v' w' h1 h2 h3)
end Go.Proofs.YtknoomndofnnmaaDoor
