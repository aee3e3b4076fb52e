/- Bytes in memory: slices that are read (BS), rows that the program owns (Own); append, make, copy, conversions over them. Bytes copied into a row. Whole rows read and written, where the block is known whole. append(b, make([]byte, 64)...). -/
import Derived.Test.YtknoomndofnnmaaDoorYStill
import Derived.Deep.AppendSrc
import Derived.Laws.CopyOwn
import Derived.Laws.AppendOwnNone
import Derived.Laws.IdiomCopy
import Derived.Deep.MidRow
namespace Go.Proofs.YtknoomndofnnmaaDoor
open Go Go.RowKit

theorem infoU8 : (Tryd.prog.info? 5).map (fun i => (i.zero, i.size, i.bytes)) = some (some (.int .u8 0), 1, 1) := by kernel_rfl

/-- The value v is a slice that reads as xs; its cells lie in no block of S. -/
def BS (S : List Nat) (w : World) (v : Value) (xs : Bs) : Prop :=
  ∃ a c, v = .slice a xs.length c ∧ xs.length ≤ c ∧ c ≤ maxLen ∧ (a = none → c = 0) ∧ (xs = [] ∨ ∃ b off, a = some ⟨b, off, none⟩ ∧ b ∉ S ∧ ∀ j, j < xs.length → w.cell? ⟨b, off + j, none⟩ = some (.int .u8 ((gt xs j).toNat : Int)))

/-- The value v is a slice at the head of a row that reads as xs (nil: nothing). -/
def Own (w : World) (v : Value) (xs : Bs) : Prop :=
  (v = .slice none 0 0 ∧ xs = []) ∨ ∃ g cap cur, v = .slice (some ⟨g, 0, none⟩) xs.length cap ∧ w.heap[g]? = some (.cells cur 5 (0, 0)) ∧ xs.length ≤ cap ∧ cap ≤ maxLen ∧ cur.size = cap ∧ cur.toList.take xs.length = brow xs

theorem Own.nil (w : World) : Own w (.slice none 0 0) [] := .inl ⟨rfl, rfl⟩

theorem Own.cells {w : World} {v : Value} {xs : Bs} (h : Own w v xs) {g : Nat} (hg : v.ownBlock = some g) : ∀ j, j < xs.length → w.cell? ⟨g, j, none⟩ = some (.int .u8 ((gt xs j).toNat : Int)) := by
  intro j hj
  rcases h with ⟨rfl, _⟩ | ⟨g', cap, cur, rfl, hgg, _, _, _, ht⟩
  · simp [Value.ownBlock] at hg
  · simp [Value.ownBlock] at hg
    subst hg
    rw [blk_cell hgg]
    have h1 := brow_get xs j hj
    rw [← ht, List.getElem?_take, if_pos hj] at h1
    simpa using h1

theorem Own.bs {w : World} {v : Value} {xs : Bs} (h : Own w v xs) {S : List Nat} (hS : ∀ g, v.ownBlock = some g → g ∉ S) : BS S w v xs := by
  rcases id h with ⟨rfl, rfl⟩ | ⟨g, cap, cur, rfl, hgg, hc, hm, _, _⟩
  · exact ⟨none, 0, rfl, Nat.le_refl _, Nat.zero_le _, fun _ => rfl, .inl rfl⟩
  · exact ⟨_, cap, rfl, hc, hm, fun h => (by cases h), .inr ⟨g, 0, rfl, hS g rfl, fun j hj => by rw [Nat.zero_add]; exact h.cells rfl j hj⟩⟩

theorem Own.chg {w w' : World} {v : Value} {xs : Bs} {S : List Nat} (h : Own w v xs) (hc : Chg S w w') (hS : ∀ g, v.ownBlock = some g → g ∉ S) : Own w' v xs := by
  rcases h with h | ⟨g, cap, cur, rfl, hgg, r⟩
  · exact .inl h
  · exact .inr ⟨g, cap, cur, rfl, hc.row hgg (hS g rfl), r⟩
theorem Own.lt {w : World} {v : Value} {xs : Bs} (h : Own w v xs) : ∀ g, v.ownBlock = some g → g < w.heap.size := by
  intro g hg
  rcases h with ⟨rfl, _⟩ | ⟨g', cap, cur, rfl, hgg, _⟩
  · simp [Value.ownBlock] at hg
  · simp [Value.ownBlock] at hg; subst hg; exact blk_lt hgg

theorem BS.chg {w w' : World} {v : Value} {xs : Bs} {S S' : List Nat} (h : BS S w v xs) (hc : Chg S' w w') (hS : ∀ k ∈ S', k ∈ S) : BS S w' v xs := by
  obtain ⟨a, c, hv, h1, h2, h3, h | ⟨b, off, ha, hb, hcell⟩⟩ := h
  · exact ⟨a, c, hv, h1, h2, h3, .inl h⟩
  · exact ⟨a, c, hv, h1, h2, h3, .inr ⟨b, off, ha, hb, fun j hj => hc.cell (hcell j hj) (fun hm => hb (hS _ hm))⟩⟩
/-- It lies in no block that came later. -/
theorem BS.old {w : World} {v : Value} {xs : Bs} {S S' : List Nat} (h : BS S w v xs) (hS : ∀ k ∈ S', k ∈ S ∨ w.heap.size ≤ k) : BS S' w v xs := by
  obtain ⟨a, c, hv, h1, h2, h3, h | ⟨b, off, ha, hb, hcell⟩⟩ := h
  · exact ⟨a, c, hv, h1, h2, h3, .inl h⟩
  · rcases Nat.eq_zero_or_pos xs.length with h0 | h0
    · exact ⟨a, c, hv, h1, h2, h3, .inl (List.eq_nil_of_length_eq_zero h0)⟩
    · have hlt := World.block_lt_of_cell? w _ (hcell 0 h0)
      dsimp only at hlt
      exact ⟨a, c, hv, h1, h2, h3, .inr ⟨b, off, ha, fun hm => by rcases hS b hm with h | h; exact hb h; omega, hcell⟩⟩
theorem BS.any {w : World} {v : Value} {xs : Bs} {S : List Nat} (h : BS S w v xs) : BS [] w v xs := h.old (by simp)
theorem BS.nil (S : List Nat) (w : World) : BS S w (.slice none 0 0) [] := ⟨none, 0, rfl, Nat.le_refl _, Nat.zero_le _, fun _ => rfl, .inl rfl⟩

/-- What an append of such a slice yields. -/
theorem BS.src {S : List Nat} {w : World} {v : Value} {xs : Bs} (h : BS S w v xs) : Src Tryd.prog 1 24 v xs.length (brow xs) w := by
  obtain ⟨a, c, rfl, h1, h2, h3, h⟩ := h
  cases a with
  | none =>
    have hx : xs = [] := by
      have := h3 rfl
      exact List.eq_nil_of_length_eq_zero (by omega)
    subst hx
    exact Src.ofNil w Tryd.underlying24 c
  | some ad =>
    refine Src.ofSlice w Tryd.underlying24 ad xs.length c (brow xs) (by simp [brow]) ?_ ?_
    · intro j u hu
      rcases h with rfl | ⟨b, off, ha, hb, hcell⟩
      · simp [brow] at hu
      · cases ha
        have hj : j < xs.length := by
          have := (List.getElem?_eq_some_iff.1 hu).1
          simpa [brow] using this
        rw [brow_get xs j hj] at hu
        cases hu
        have : (⟨b, off, none⟩ : Addr).add j = ⟨b, off + j, none⟩ := by unfold Addr.add; split <;> simp_all
        rw [this]
        exact hcell j hj
    · intro u hu
      obtain ⟨x, _, rfl⟩ := List.mem_map.1 hu
      rfl
theorem strSrc (w : World) (s : ByteArray) : Src Tryd.prog 1 9 (.string s) s.data.toList.length (brow s.data.toList) w := by
  have := Src.ofString (P := Tryd.prog) w Tryd.underlying9 s
  have e : s.size = s.data.toList.length := by rw [Array.length_toList]; rfl
  rw [← e]
  exact this

theorem setCells_row (g : Nat) (ty : TypeId) : ∀ (l : List Value) (off : Nat) (W : World) (L : List Value), W.heap[g]? = some (.cells L.toArray ty (0, 0)) → off + l.length ≤ L.length →
    (W.setCells g off l).heap[g]? = some (.cells (L.take off ++ l ++ L.drop (off + l.length)).toArray ty (0, 0)) ∧ Chg [g] W (W.setCells g off l)
  | [], off, W, L, hW, _ => ⟨by simpa [World.setCells] using hW, Chg.refl _ _⟩
  | u :: l, off, W, L, hW, hle => by
    simp only [List.length_cons] at hle
    have h1 := blk_set (i := off) hW u
    rw [List.setIfInBounds_toArray] at h1
    obtain ⟨h2, h3⟩ := setCells_row g ty l (off + 1) _ _ h1 (by simp; omega)
    refine ⟨?_, ((Chg.refl [g] W).setCell (.inl (by simp)) _).trans h3⟩
    show ((W.setCell ⟨g, off, none⟩ u).setCells g (off + 1) l).heap[g]? = _
    rw [h2]
    have e1 : (L.set off u).take (off + 1) = L.take off ++ [u] := by
      rw [List.set_eq_take_append_cons_drop, if_pos (by omega), List.take_append]
      simp [Nat.min_eq_left (show off ≤ L.length by omega)]
      rw [List.take_of_length_le (by simp; omega)]
    have e2 : (L.set off u).drop (off + 1 + l.length) = L.drop (off + (l.length + 1)) := by
      rw [List.drop_set_of_lt (by omega)]; congr 1; omega
    rw [e1, e2]
    simp

/-- append: the row it was, or a new one. -/
theorem run_append_bytes {w : World} {v : Value} {xs : Bs} (hv : Own w v xs) {tx : TypeId} (ty : TypeId) {x : Value} {ys : Bs} (hs : Src Tryd.prog 1 tx x ys.length (brow ys) w) (hb : xs.length + ys.length ≤ 1099511627776) :
    ∃ v' w', (Builtin.append_ #[24, tx] ty #[v, x]).run Tryd.prog w = .ok v' w' ∧ Own w' v' (xs ++ ys) ∧ Chg v.ownBlock.toList w w' ∧ (∀ k, v'.ownBlock = some k → v.ownBlock = some k ∨ w.heap.size ≤ k) ∧ (v' = .slice none 0 0 ↔ v = .slice none 0 0 ∧ ys = []) := by
  obtain ⟨i, hi, hz0, hz1, hz2⟩ := info_parts infoU8
  have hml : ∀ n : Nat, n ≤ 1099511627776 → n ≤ maxLen := fun n hn => by unfold maxLen; omega
  rw [← hz1] at hs
  have grown : ∀ (base : Option Addr) (c : Nat), c < xs.length + ys.length → v = .slice base xs.length c → (Builtin.firstCells i.size xs.length (.slice base xs.length c)).run Tryd.prog w.drew = .ok (brow xs).toArray w.drew →
      ∃ v' w', (Builtin.append_ #[24, tx] ty #[v, x]).run Tryd.prog w = .ok v' w' ∧ Own w' v' (xs ++ ys) ∧ Chg v.ownBlock.toList w w' ∧ (∀ k, v'.ownBlock = some k → v.ownBlock = some k ∨ w.heap.size ≤ k) ∧ (v' = .slice none 0 0 ↔ v = .slice none 0 0 ∧ ys = []) := by
    intro base c hc hve hold
    subst hve
    have hr := run_append_grow_src (P := Tryd.prog) w 24 tx ty 5 i _ Tryd.underlying24 hi hz0 base xs.length c (brow xs) hold x ys.length (brow ys) hs hc (by omega) (growslice_fits hc (by rw [hz2]; omega))
    have hge := grownCap_ge w (xs.length + ys.length) c 5
    have hcm := grownCap_le_maxLen w (xs.length + ys.length) c 5 (hml _ hb)
    refine ⟨_, _, hr, .inr ⟨w.heap.size, _, _, by rw [List.length_append], heap_alloc_new w.drew _, by simpa using hge, hcm, ?_, ?_⟩, (Chg.refl _ w).drew.alloc _, fun k hk => ?_, ?_⟩
    · simp only [Array.size_append, List.size_toArray, size_zeroCells, Value.cells, List.length_append, brow_length]
      have : ([Value.int .u8 0] : List Value).length = 1 := rfl
      rw [this]
      omega
    · simp only [Array.toList_append]
      rw [List.take_append_of_le_length (by simp [brow])]
      have e : (brow (xs ++ ys)).length = (xs ++ ys).length := by simp [brow]
      rw [← e]
      have e' : brow (xs ++ ys) = brow xs ++ brow ys := by simp [brow]
      rw [e']
      exact List.take_length
    · simp [Value.ownBlock] at hk
      exact .inr (by omega)
    · constructor
      · intro h; cases h
      · rintro ⟨h1, h2⟩
        simp only [Value.slice.injEq] at h1
        rw [h1.2.1, h2] at hc
        simp at hc
  rcases id hv with ⟨rfl, rfl⟩ | ⟨g, cap, cur, rfl, hg, hnc, hcm, hcs, htake⟩
  · rcases Nat.eq_zero_or_pos ys.length with h0 | h0
    · obtain rfl : ys = [] := List.eq_nil_of_length_eq_zero h0
      refine ⟨.slice none 0 0, w, ?_, .inl ⟨rfl, rfl⟩, Chg.refl _ _, fun k hk => .inl hk, by simp⟩
      have hn0 := hs.len
      have hc0 := hs.cells
      simp only [List.length_nil] at hc0
      rcases hs.kind with ⟨e', hk⟩ | hk <;> simp [Builtin.append_, run_underlying Tryd.underlying24, run_underlying hk, sizeOf, typeInfo, hi, hn0, hc0, brow]
    · exact grown none 0 (by simpa using h0) rfl (run_firstCells_none w.drew i.size 0 0 0)
  · by_cases hroom : xs.length + ys.length ≤ cap
    · have hr := run_append_room_src (P := Tryd.prog) w 24 tx ty 5 i Tryd.underlying24 hi g 0 xs.length cap x ys.length (brow ys) hs hroom
        (fun j hj => by
          rw [brow_length] at hj
          rw [blk_cell hg, hz1, Array.getElem?_eq_getElem (by omega)]; rfl)
        (fun j _ => blk_frozen hg _)
      rw [hz1] at hr
      obtain ⟨h1, h2⟩ := setCells_row g 5 (brow ys) (0 + xs.length * 1) w cur.toList (by simpa using hg) (by rw [brow_length]; simp; omega)
      refine ⟨_, _, hr, .inr ⟨g, cap, _, by rw [List.length_append], h1, by simpa using hroom, hcm, ?_, ?_⟩, h2, fun k hk => .inl (by simpa [Value.ownBlock] using hk), by simp⟩
      · simp [brow]; omega
      · have e : (brow (xs ++ ys)).length = (xs ++ ys).length := by simp [brow]
        rw [← e, show 0 + xs.length * 1 = xs.length by omega, htake]
        rw [List.append_assoc]
        have : brow (xs ++ ys) = brow xs ++ brow ys := by simp [brow]
        rw [this, ← List.append_assoc]
        exact List.take_left
    · refine grown _ cap (by omega) rfl (run_firstCells_some w.drew i.size xs.length _ xs.length cap (brow xs) (by simp [brow, hz1]) ?_)
      intro j u hu
      have hj : j < xs.length := by
        have := (List.getElem?_eq_some_iff.1 hu).1
        simpa [brow] using this
      rw [brow_get xs j hj] at hu
      cases hu
      have : (⟨g, 0, none⟩ : Addr).add j = ⟨g, j, none⟩ := by unfold Addr.add; split <;> simp_all
      rw [this]
      exact hv.cells rfl j hj

/-- At the operation. -/
theorem append_bytes {ops : Array Oper} {rest : List Oper} {o : Oper} {a : Act} {w : World} {Q : Exit → Act → World → Prop} (hgd : o.guard = none) (s x : Operand) {tx : TypeId}
    (ho : o.op = .call { callee := .builtin .append, args := #[s, x], argTypes := #[24, tx] }) {v : Value} {xs : Bs} (hs : a.eval s = v) (hv : Own w v xs)
    {u : Value} {ys : Bs} (hx : a.eval x = u) (hsrc : Src Tryd.prog 1 tx u ys.length (brow ys) w) (hb : xs.length + ys.length ≤ 1099511627776)
    (h : ∀ v' w', Own w' v' (xs ++ ys) → Chg v.ownBlock.toList w w' → (∀ k, v'.ownBlock = some k → v.ownBlock = some k ∨ w.heap.size ≤ k) → (v' = .slice none 0 0 ↔ v = .slice none 0 0 ∧ ys = []) → wpList Tryd.prog ops Q rest (a.put o.dst v') w') :
    wpList Tryd.prog ops Q (o :: rest) a w := by
  refine wpList_plain hgd fun K hK => ?_
  obtain ⟨v', w', hr, h1, h2, h3, h4⟩ := run_append_bytes hv o.type hsrc hb
  unfold Oper.wp execOp
  simp only [ho, resolve, invoke, builtin, Sem.run_bind, Sem.run_pure, Result.andThen_ok, List.map_toArray, List.map_cons, List.map_nil, hs, hx, hr]
  exact hK _ _ (h v' w' h1 h2 h3 h4)


/-- One byte, in a new block of its own. -/
theorem one_bs (w : World) (x : UInt8) (y : Int) (hy : y = (x.toNat : Int)) (S : List Nat) (hS : ∀ k ∈ S, k < w.heap.size) : BS S (w.alloc (.cells #[.int .u8 y] 5)) (.slice (some ⟨w.heap.size, 0, none⟩) 1 1) [x] := by
  subst hy
  refine ⟨_, 1, rfl, Nat.le_refl _, by unfold maxLen; omega, fun h => (by cases h), .inr ⟨_, 0, rfl, fun hm => by have := hS _ hm; omega, fun j hj => ?_⟩⟩
  obtain rfl : j = 0 := by simpa using hj
  exact blk_cell (heap_alloc_new w _) 0
theorem one_src (w : World) (x : UInt8) (y : Int) (hy : y = (x.toNat : Int)) : Src Tryd.prog 1 24 (.slice (some ⟨w.heap.size, 0, none⟩) 1 1) 1 (brow [x]) (w.alloc (.cells #[.int .u8 y] 5)) :=
  (one_bs w x y hy [] (by simp)).src


/-- make([]byte, n). -/
theorem mk_bytes (n : Nat) (hn : n ≤ 1099511627776) (W : World) : (Instr.makeSlice 24 (.int .i64 (n : Int)) (.int .i64 (n : Int))).run Tryd.prog W = .ok (.slice (some ⟨W.heap.size, 0, none⟩) n n) (W.alloc (.cells (brow (List.replicate n 0)).toArray 5)) := by
  obtain ⟨i, hi, hz0, hz1, hz2⟩ := info_parts infoU8
  have hr := run_make (P := Tryd.prog) W 24 5 i (.int .u8 0) Tryd.underlying24 hi hz0 .i64 .i64 n n (by omega) (by omega) (by rw [hz2]; omega) (by omega)
  have e : madeCells (Value.int .u8 0).cells (n * i.size) = (brow (List.replicate n 0)).toArray := by
    apply Array.ext'
    rw [hz1, Nat.mul_one, show (Value.int .u8 0).cells = #[.int .u8 0] from rfl, toList_madeCells_one]
    simp [brow, bv]
  simp only [Int.toNat_natCast, e] at hr
  exact hr

end Go.Proofs.YtknoomndofnnmaaDoor

namespace Go.Proofs.YtknoomndofnnmaaDoor
open Go Go.RowKit

theorem sizeU8 : (Tryd.prog.info? 5).map (·.size) = some 1 := by kernel_rfl

theorem setCells_any (g : Nat) (ty : TypeId) (l : List Value) (off : Nat) (W : World) (L : List Value) (hW : W.heap[g]? = some (.cells L.toArray ty (0, 0))) (h : off + l.length ≤ L.length) :
    (W.setCells g off l).heap[g]? = some (.cells (L.take off ++ l ++ L.drop (off + l.length)).toArray ty (0, 0)) ∧ Chg [g] W (W.setCells g off l) := setCells_row g ty l off W L hW h

theorem run_copy_bytes {w : World} {g off dLen dCap : Nat} {L : List Value} {t ty : TypeId} (hg : w.heap[g]? = some (.cells L.toArray t (0, 0))) (hfit : off + dLen ≤ L.length) {u : Value} {ys : Bs} {S : List Nat} (hu : BS S w u ys) :
    ∃ w', (Builtin.copy_ #[24, 24] ty #[.slice (some ⟨g, off, none⟩) dLen dCap, u]).run Tryd.prog w = .ok (.int .i64 ((min ys.length dLen : Nat) : Int)) w' ∧
      w'.heap[g]? = some (.cells (L.take off ++ brow (ys.take (min ys.length dLen)) ++ L.drop (off + min ys.length dLen)).toArray t (0, 0)) ∧ Chg [g] w w' := by
  obtain ⟨a, c, rfl, h1, h2, h3, h⟩ := hu
  rcases Nat.eq_zero_or_pos (min ys.length dLen) with h0 | h0
  · refine ⟨w, ?_, ?_, Chg.refl _ _⟩
    · rw [h0]
      exact run_copy_none w 24 24 ty 5 _ _ _ _ _ _ Tryd.underlying24 sizeU8 h0
    · rw [h0]
      simpa [brow] using hg
  · rcases h with rfl | ⟨b, o, rfl, _, hc⟩
    · simp at h0
    · have hl : (brow (ys.take (min ys.length dLen))).length = min ys.length dLen := by rw [brow_length, List.length_take]; omega
      have hr := run_copy_cells (P := Tryd.prog) w 24 24 ty 5 g off dLen dCap ⟨b, o, none⟩ ys.length c (brow (ys.take (min ys.length dLen))) Tryd.underlying24 sizeU8 hl
        (fun j v hv => by
          have hj : j < min ys.length dLen := by rw [← hl]; exact (List.getElem?_eq_some_iff.1 hv).1
          rw [brow_get _ _ (by rw [List.length_take]; omega), gt_take _ _ _ hj] at hv
          cases hv
          have : (⟨b, o, none⟩ : Addr).add j = ⟨b, o + j, none⟩ := by unfold Addr.add; split <;> simp_all
          rw [this]
          exact hc j (by omega))
        (fun j hj => by
          rw [hl] at hj
          rw [blk_cell hg]
          simp
          omega)
        (fun j _ => blk_frozen hg _)
        (fun v hv => by
          simp only [brow, List.mem_map] at hv
          obtain ⟨x, _, rfl⟩ := hv
          rfl)
      obtain ⟨q1, q2⟩ := setCells_any g t (brow (ys.take (min ys.length dLen))) off w L hg (by rw [hl]; omega)
      rw [hl] at hr q1
      exact ⟨_, hr, q1, q2⟩

/-- At the operation. -/
theorem copy_bytes {ops : Array Oper} {rest : List Oper} {o : Oper} {a : Act} {w : World} {Q : Exit → Act → World → Prop} (hgd : o.guard = none) (d x : Operand)
    (ho : o.op = .call { callee := .builtin .copy, args := #[d, x], argTypes := #[24, 24] }) {g off dLen dCap : Nat} (hd : a.eval d = .slice (some ⟨g, off, none⟩) dLen dCap) {u : Value} (hx : a.eval x = u)
    {L : List Value} {t : TypeId} (hg : w.heap[g]? = some (.cells L.toArray t (0, 0))) (hfit : off + dLen ≤ L.length) {ys : Bs} {S : List Nat} (hu : BS S w u ys)
    (h : ∀ w', w'.heap[g]? = some (.cells (L.take off ++ brow (ys.take (min ys.length dLen)) ++ L.drop (off + min ys.length dLen)).toArray t (0, 0)) → Chg [g] w w' → wpList Tryd.prog ops Q rest (a.put o.dst (.int .i64 ((min ys.length dLen : Nat) : Int))) w') :
    wpList Tryd.prog ops Q (o :: rest) a w := by
  refine wpList_plain hgd fun K hK => ?_
  obtain ⟨w', hr, h1, h2⟩ := run_copy_bytes (ty := o.type) (dCap := dCap) hg hfit hu
  unfold Oper.wp execOp
  simp only [ho, resolve, invoke, builtin, Sem.run_bind, Sem.run_pure, Result.andThen_ok, List.map_toArray, List.map_cons, List.map_nil, hd, hx, hr]
  exact hK _ _ (h w' h1 h2)
end Go.Proofs.YtknoomndofnnmaaDoor

namespace Go.Proofs.YtknoomndofnnmaaDoor
open Go Go.RowKit

theorem size_at {t : TypeId} {n : Nat} (h : (Tryd.prog.info? t).map (·.size) = some n) {L : List Value} (hl : L.length = n) : (Tryd.prog.info? t).map (·.size) = some L.toArray.size := by
  rw [h]; simp [hl]
theorem brow_one (xs : Bs) : ∀ v ∈ brow xs, v.oneCell' = true := by
  intro v hv
  simp only [brow, List.mem_map] at hv
  obtain ⟨x, _, rfl⟩ := hv
  rfl
section
variable {ops : Array Oper} {rest : List Oper} {o : Oper} {a : Act} {w : World} {Q : Exit → Act → World → Prop}
theorem load_row (hgd : o.guard = none) (ty : TypeId) (x : Operand) (ho : o.op = .load ty x) (g : Nat) (hx : a.eval x = .pointer (some ⟨g, 0, none⟩)) {t : TypeId} {L : List Value} {d : TypeDesc} (hg : w.heap[g]? = some (.cells L.toArray t (0, 0)))
    (hu : Tryd.prog.underlying ty = some d) (hd : d.isRow = true) {n : Nat} (hi : (Tryd.prog.info? ty).map (·.size) = some n) (hl : L.length = n)
    (h : wpList Tryd.prog ops Q rest (a.put o.dst (.agg L.toArray)) w) : wpList Tryd.prog ops Q (o :: rest) a w :=
  wpList_load_mid hgd ty x ho g 0 hx L d (fun j v hv => by rw [Nat.zero_add, blk_cell hg]; simpa using hv) hu hd (by rw [hi, hl]) h
theorem store_row (hgd : o.guard = none) (ty : TypeId) (x y : Operand) (ho : o.op = .store ty x y) (g : Nat) (hx : a.eval x = .pointer (some ⟨g, 0, none⟩)) {cs : List Value} (hy : a.eval y = .agg cs.toArray) {t : TypeId} {L : List Value} (hg : w.heap[g]? = some (.cells L.toArray t (0, 0)))
    {n : Nat} (hi : (Tryd.prog.info? ty).map (·.size) = some n) (hl : cs.length = n) (hL : L.length = n) (h1 : ∀ v ∈ cs, v.oneCell' = true)
    (h : ∀ w', w'.heap[g]? = some (.cells cs.toArray t (0, 0)) → Chg [g] w w' → wpList Tryd.prog ops Q rest (a.put o.dst undef) w') : wpList Tryd.prog ops Q (o :: rest) a w := by
  refine wpList_store_mid hgd ty x y ho g 0 cs.toArray hx hy ?_ (size_at hi hl) (all_oneCell_toArray h1) ?_
  · intro j hj
    have hj' : j < L.length := by simp at hj; omega
    rw [Nat.zero_add]
    refine ⟨?_, blk_frozen hg j⟩
    rw [blk_cell hg]
    simp [hj']
  · obtain ⟨q1, q2⟩ := setCells_any g t cs 0 w L hg (by omega)
    refine h _ ?_ q2
    have e : L.take 0 ++ cs ++ L.drop (0 + cs.length) = cs := by rw [List.drop_of_length_le (by omega)]; simp
    rw [e] at q1
    exact q1
end
end Go.Proofs.YtknoomndofnnmaaDoor

namespace Go.Proofs.YtknoomndofnnmaaDoor
open Go Go.RowKit

/-- 64 noughts. -/
def z64 : Bs := List.replicate 64 0
theorem z64_length : z64.length = 64 := rfl
theorem zc64 : Builtin.zeroCells (Value.int .u8 0).cells 64 = (brow z64).toArray := by kernel_rfl
theorem run_append_zeros {w : World} {v : Value} {xs : Bs} (hv : Own w v xs) (ty : TypeId) (hb : xs.length ≤ 1000000) :
    ∃ v' w', (Builtin.append_ #[24, 3] ty #[v, .int .i64 64]).run Tryd.prog w = .ok v' w' ∧ Own w' v' (xs ++ z64) ∧ Chg v.ownBlock.toList w w' ∧ (∀ k, v'.ownBlock = some k → v.ownBlock = some k ∨ w.heap.size ≤ k) := by
  obtain ⟨i, hi, hz0, hz1, hz2⟩ := info_parts infoU8
  have ht := Tryd.underlying24
  have hk := Tryd.underlying3
  have hw : IntKind.i64.wrap 64 = 64 := by decide
  have hll : (xs ++ z64).length = xs.length + 64 := by simp [z64_length]
  have hbr : (brow z64).length = 64 := by rw [brow_length, z64_length]
  have grown : ∀ (base : Option Addr) (c : Nat), c < xs.length + 64 → v = .slice base xs.length c → (∀ w' : World, w'.heap = w.heap → (Builtin.firstCells i.size xs.length (.slice base xs.length c)).run Tryd.prog w' = .ok (brow xs).toArray w') →
      ∃ v' w', (Builtin.append_ #[24, 3] ty #[v, .int .i64 64]).run Tryd.prog w = .ok v' w' ∧ Own w' v' (xs ++ z64) ∧ Chg v.ownBlock.toList w w' ∧ (∀ k, v'.ownBlock = some k → v.ownBlock = some k ∨ w.heap.size ≤ k) := by
    intro base c hc hve hold
    subst hve
    have hfit := growslice_fits hc (by rw [hz2]; omega : (xs.length + 64) * i.bytes ≤ 140737488355328)
    have hr : (Builtin.append_ #[24, 3] ty #[.slice base xs.length c, .int .i64 64]).run Tryd.prog w =
        .ok (.slice (some ⟨w.heap.size, 0, none⟩) (xs.length + 64) (grownCap w (xs.length + 64) c 5))
          (w.drew.alloc (.cells ((brow xs ++ brow z64).toArray ++ Builtin.zeroCells (Value.int .u8 0).cells (grownCap w (xs.length + 64) c 5 - (xs.length + 64))) 5)) := by
      have hn : ¬ (xs.length + 64 ≤ c) := by omega
      have h63' : ¬ (9223372036854775807 < ((xs.length : Int) + max 64 0)) := by omega
      have h48' : ¬ (281474976710656 < Builtin.nextslicecap (xs.length + 64) c) := by rw [hz2] at hfit; omega
      have hold1 := hold w.drew rfl
      rw [hz1] at hold1
      simp [Builtin.append_, run_underlying ht, run_underlying hk, sizeOf, typeInfo, zeroValue, hi, hz0, hz1, hz2, asInt, asIntOf, hw, hn, h63', h48', Question.forced, newRow, grownCap, hold1, zc64]
      rw [← List.append_toArray, Array.append_assoc]
    have hge := grownCap_ge w (xs.length + 64) c 5
    have hcm := grownCap_le_maxLen w (xs.length + 64) c 5 (by unfold maxLen; omega)
    refine ⟨_, _, hr, .inr ⟨w.heap.size, _, _, by rw [hll], heap_alloc_new w.drew _, by rw [hll]; exact hge, hcm, ?_, ?_⟩, (Chg.refl _ w).drew.alloc _, fun k hk => ?_⟩
    · simp only [Array.size_append, List.size_toArray, size_zeroCells, Value.cells, List.length_append, brow_length, z64_length]
      have : ([Value.int .u8 0] : List Value).length = 1 := rfl
      rw [this]
      omega
    · simp only [Array.toList_append]
      have e : (brow (xs ++ z64)).length = (xs ++ z64).length := by simp [brow]
      have e' : brow (xs ++ z64) = brow xs ++ brow z64 := by simp [brow]
      rw [← e, e', List.take_append_of_le_length (by simp [brow])]
      exact List.take_length
    · simp [Value.ownBlock] at hk
      exact .inr (by omega)
  rcases id hv with ⟨rfl, rfl⟩ | ⟨g, cap, cur, rfl, hg, hnc, hcm, hcs, htake⟩
  · exact grown none 0 (by simp) rfl (fun w' _ => run_firstCells_none w' i.size 0 0 0)
  · by_cases hroom : xs.length + 64 ≤ cap
    · have hr : (Builtin.append_ #[24, 3] ty #[.slice (some ⟨g, 0, none⟩) xs.length cap, .int .i64 64]).run Tryd.prog w = .ok (.slice (some ⟨g, 0, none⟩) (xs.length + 64) cap) (w.setCells g xs.length (brow z64)) := by
        have hst := run_storeCells_cells (P := Tryd.prog) g xs.length (brow z64) 0 w
          (fun j hj => by
            rw [hbr] at hj
            rw [blk_cell hg, Array.getElem?_eq_getElem (by omega)]; rfl)
          (fun j _ => blk_frozen hg _) (fun v hv => by
            simp only [brow, List.mem_map] at hv
            obtain ⟨x, _, rfl⟩ := hv
            rfl)
        simp only [Nat.add_zero] at hst
        simp [Builtin.append_, run_underlying ht, run_underlying hk, sizeOf, typeInfo, zeroValue, hi, hz0, hz1, hz2, asInt, asIntOf, hw, hroom, zc64, Addr.add_lit, hst]
      obtain ⟨h1, h2⟩ := setCells_row g 5 (brow z64) xs.length w cur.toList (by simpa using hg) (by rw [hbr]; simp; omega)
      refine ⟨_, _, hr, .inr ⟨g, cap, _, by rw [hll], h1, by rw [hll]; exact hroom, hcm, ?_, ?_⟩, h2, fun k hk => .inl (by simpa [Value.ownBlock] using hk)⟩
      · simp [brow, z64_length]; omega
      · have e : (brow (xs ++ z64)).length = (xs ++ z64).length := by simp [brow]
        have e' : brow (xs ++ z64) = brow xs ++ brow z64 := by simp [brow]
        rw [← e, htake, e', List.append_assoc, ← List.append_assoc]
        exact List.take_left
    · refine grown _ cap (by omega) rfl (fun w' hw' => run_firstCells_some w' i.size xs.length _ xs.length cap (brow xs) (by simp [brow, hz1]) ?_)
      intro j u hu
      have hj : j < xs.length := by
        have := (List.getElem?_eq_some_iff.1 hu).1
        simpa [brow] using this
      rw [brow_get xs j hj] at hu
      cases hu
      have : (⟨g, 0, none⟩ : Addr).add j = ⟨g, j, none⟩ := by unfold Addr.add; split <;> simp_all
      rw [this]
      have hg' : w'.heap[g]? = some (.cells cur 5 (0, 0)) := (by rw [hw']; exact hg)
      have hv' : Own w' (.slice (some ⟨g, 0, none⟩) xs.length cap) xs := .inr ⟨g, cap, cur, rfl, hg', hnc, hcm, hcs, htake⟩
      exact hv'.cells rfl j hj
/-- At the operation. -/
theorem append_zap {ops : Array Oper} {rest : List Oper} {o : Oper} {a : Act} {w : World} {Q : Exit → Act → World → Prop} (hgd : o.guard = none) (s x : Operand)
    (ho : o.op = .call { callee := .builtin .append, args := #[s, x], argTypes := #[24, 3] }) {v : Value} {xs : Bs} (hs : a.eval s = v) (hv : Own w v xs) (hx : a.eval x = .int .i64 64) (hb : xs.length ≤ 1000000)
    (h : ∀ v' w', Own w' v' (xs ++ z64) → Chg v.ownBlock.toList w w' → (∀ k, v'.ownBlock = some k → v.ownBlock = some k ∨ w.heap.size ≤ k) → wpList Tryd.prog ops Q rest (a.put o.dst v') w') :
    wpList Tryd.prog ops Q (o :: rest) a w := by
  refine wpList_plain hgd fun K hK => ?_
  obtain ⟨v', w', hr, h1, h2, h3⟩ := run_append_zeros hv o.type hb
  unfold Oper.wp execOp
  simp only [ho, resolve, invoke, builtin, Sem.run_bind, Sem.run_pure, Result.andThen_ok, List.map_toArray, List.map_cons, List.map_nil, hs, hx, hr]
  exact hK _ _ (h v' w' h1 h2 h3)
end Go.Proofs.YtknoomndofnnmaaDoor
