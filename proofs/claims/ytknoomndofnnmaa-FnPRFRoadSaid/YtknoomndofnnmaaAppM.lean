/- An append to the bytes of a string. -/
import Derived.Test.YtknoomndofnnmaaConvB
namespace Go.Proofs.Ytknoomndofnnmaa
open Go Go.RowKit

theorem blk_setF {w : World} {b i : Nat} {cs : Array Value} {t : TypeId} {fr : Nat × Nat} (h : w.heap[b]? = some (.cells cs t fr)) (v : Value) : (w.setCell ⟨b, i, none⟩ v).heap[b]? = some (.cells (cs.setIfInBounds i v) t fr) := by
  simp only [World.setCell, Array.getElem?_modify, if_true, h, Option.map_some]
  rfl
theorem setCells_rowF (g : Nat) (ty : TypeId) (fr : Nat × Nat) : ∀ (l : List Value) (off : Nat) (W : World) (L : List Value), W.heap[g]? = some (.cells L.toArray ty fr) → off + l.length ≤ L.length →
    (W.setCells g off l).heap[g]? = some (.cells (L.take off ++ l ++ L.drop (off + l.length)).toArray ty fr) ∧ Chg [g] W (W.setCells g off l)
  | [], off, W, L, hW, _ => ⟨by simpa [World.setCells] using hW, Chg.refl _ _⟩
  | u :: l, off, W, L, hW, hle => by
    simp only [List.length_cons] at hle
    have h1 := blk_setF (i := off) hW u
    rw [List.setIfInBounds_toArray] at h1
    obtain ⟨h2, h3⟩ := setCells_rowF g ty fr l (off + 1) _ _ h1 (by simp; omega)
    refine ⟨?_, ((Chg.refl [g] W).setCell (.inl (by simp)) _).trans h3⟩
    show ((W.setCell ⟨g, off, none⟩ u).setCells g (off + 1) l).heap[g]? = _
    rw [h2]
    have e1 : (L.set off u).take (off + 1) = L.take off ++ [u] := by
      rw [List.set_eq_take_append_cons_drop, if_pos (by omega), List.take_append]
      simp [Nat.min_eq_left (show off ≤ L.length by omega)]
      rw [List.take_of_length_le (by simp; omega)]
    have e2 : (L.set off u).drop (off + 1 + l.length) = L.drop (off + (l.length + 1)) := by
      rw [List.drop_set_of_lt (by omega)]; congr 1; omega
    rw [e1, e2]
    simp
theorem run_append_marked {w : World} {g c m : Nat} {cur : Array Value} {xs : Bs} (hv : BS [] w (.slice (some ⟨g, 0, none⟩) xs.length c) xs) (hg : w.heap[g]? = some (.cells cur 5 (m, m + 1))) (hcur : cur.size = m) (hm : m = c) {tx : TypeId} (ty : TypeId) {x : Value} {ys : Bs}
    (hs : Src Try.prog 1 tx x ys.length (brow ys) w) (hb : xs.length + ys.length ≤ 1099511627776) (hc : c ≤ maxLen) :
    ∃ v' w', (Builtin.append_ #[24, tx] ty #[.slice (some ⟨g, 0, none⟩) xs.length c, x]).run Try.prog w = .ok v' w' ∧ BS [] w' v' (xs ++ ys) ∧ Chg [g] w w' := by
  obtain ⟨i, hi, hz0, hz1, hz2⟩ := info_parts infoU8
  have hml : ∀ n : Nat, n ≤ 1099511627776 → n ≤ maxLen := fun n hn => by unfold maxLen; omega
  rw [← hz1] at hs
  have hcells : ∀ j, j < xs.length → w.cell? ⟨g, j, none⟩ = some (.int .u8 ((gt xs j).toNat : Int)) := by
    obtain ⟨a', c', he, _, _, _, h | ⟨b, off, ha, _, hcell⟩⟩ := hv
    · intro j hj; rw [h] at hj; simp at hj
    · cases he
      cases ha
      intro j hj
      have := hcell j hj
      rwa [Nat.zero_add] at this
  have hxc : xs.length ≤ c := by obtain ⟨a', c', he, hle, _⟩ := hv; cases he; exact hle
  by_cases hroom : xs.length + ys.length ≤ c
  · have hr := run_append_room_src (P := Try.prog) w 24 tx ty 5 i Try.underlying24 hi g 0 xs.length c x ys.length (brow ys) hs hroom
      (fun j hj => by
        rw [brow_length] at hj
        rw [blk_cell hg, hz1, Array.getElem?_eq_getElem (by omega)]; rfl)
      (fun j hj => by
        rw [brow_length] at hj
        rw [hz1]
        simp only [World.frozen?, hg]
        simp
        omega)
    rw [hz1] at hr
    obtain ⟨h1, h2⟩ := setCells_rowF g 5 (m, m + 1) (brow ys) (0 + xs.length * 1) w cur.toList (by simpa using hg) (by rw [brow_length]; simp; omega)
    refine ⟨_, _, hr, ⟨_, c, by rw [List.length_append], by rw [List.length_append]; exact hroom, hc, (fun h => by cases h), .inr ⟨g, 0, rfl, by simp, fun j hj => ?_⟩⟩, h2⟩
    rw [List.length_append] at hj
    rw [blk_cell h1]
    have hcc : cur.toList.length = c := by rw [Array.length_toList, hcur, hm]
    have htl : (cur.toList.take xs.length).length = xs.length := by rw [List.length_take, hcc]; exact Nat.min_eq_left hxc
    simp only [Nat.zero_add, Nat.mul_one, List.getElem?_toArray]
    by_cases h : j < xs.length
    · rw [List.append_assoc, List.getElem?_append_left (by omega), List.getElem?_take, if_pos h]
      have := hcells j h
      rw [blk_cell hg] at this
      rw [Array.getElem?_toList, this]
      unfold gt
      rw [List.getD_eq_getElem?_getD, List.getD_eq_getElem?_getD, List.getElem?_append_left h]
    · have hjx : j - xs.length < ys.length := by omega
      have hbl : j - xs.length < (brow ys).length := by rw [brow_length]; exact hjx
      rw [List.append_assoc, List.getElem?_append_right (by rw [htl]; omega), htl, List.getElem?_append_left hbl, brow_get ys (j - xs.length) hjx]
      unfold gt
      rw [List.getD_eq_getElem?_getD, List.getD_eq_getElem?_getD, List.getElem?_append_right (by omega)]
  · have hold : (Builtin.firstCells i.size xs.length (.slice (some ⟨g, 0, none⟩) xs.length c)).run Try.prog w.drew = .ok (brow xs).toArray w.drew := by
      refine run_firstCells_some w.drew i.size xs.length _ xs.length c (brow xs) (by simp [brow, hz1]) ?_
      intro j u hu
      have hj : j < xs.length := by
        have := (List.getElem?_eq_some_iff.1 hu).1
        simpa [brow] using this
      rw [brow_get xs j hj] at hu
      cases hu
      have : (⟨g, 0, none⟩ : Addr).add j = ⟨g, j, none⟩ := by unfold Addr.add; split <;> simp_all
      rw [this]
      exact hcells j hj
    have hr := run_append_grow_src (P := Try.prog) w 24 tx ty 5 i _ Try.underlying24 hi hz0 (some ⟨g, 0, none⟩) xs.length c (brow xs) hold x ys.length (brow ys) hs (by omega) (by omega) (growslice_fits (by omega) (by rw [hz2]; omega))
    have hge := grownCap_ge w (xs.length + ys.length) c 5
    have hcm := grownCap_le_maxLen w (xs.length + ys.length) c 5 (hml _ hb)
    refine ⟨_, _, hr, Own.bs (.inr ⟨w.heap.size, _, _, by rw [List.length_append], heap_alloc_new w.drew _, by simpa using hge, hcm, ?_, ?_⟩) (by simp), (Chg.refl _ w).drew.alloc _⟩
    · simp only [Array.size_append, List.size_toArray, size_zeroCells, Value.cells, List.length_append, brow_length]
      have : ([Value.int .u8 0] : List Value).length = 1 := rfl
      rw [this]
      omega
    · simp only [Array.toList_append]
      rw [List.take_append_of_le_length (by simp [brow])]
      have e : (brow (xs ++ ys)).length = (xs ++ ys).length := by simp [brow]
      rw [← e]
      have e' : brow (xs ++ ys) = brow xs ++ brow ys := by simp [brow]
      rw [e']
      exact List.take_length
/-- At the operation, its guard open. -/
theorem append_run {ops : Array Oper} {rest : List Oper} {o : Oper} {a : Act} {w : World} {Q : Exit → Act → World → Prop} (hw : Region.wanted o (yielded ops a.tmps) = true) (s x : Operand) {ats : Array TypeId}
    (ho : o.op = .call { callee := .builtin .append, args := #[s, x], argTypes := ats }) {vs vx : Value} (hs : a.eval s = vs) (hx : a.eval x = vx) {v : Value} {w' : World} (hr : (Builtin.append_ ats o.type #[vs, vx]).run Try.prog w = .ok v w')
    (h : wpList Try.prog ops Q rest (a.put o.dst v) w') : wpList Try.prog ops Q (o :: rest) a w := by
  unfold wpList
  rw [if_pos hw]
  refine .inl ?_
  unfold Oper.wp execOp
  simp only [ho, resolve, invoke, builtin, Sem.run_bind, Sem.run_pure, Result.andThen_ok, List.map_toArray, List.map_cons, List.map_nil, hs, hx, hr]
  exact h
end Go.Proofs.Ytknoomndofnnmaa
