/- SHA-256: Digest.checkSum, Sum. -/
import Derived.Test.YtknoomndofnnmaaDoorYShaD
import Derived.Test.YtknoomndofnnmaaDoorYMem
namespace Go.Proofs.YtknoomndofnnmaaDoor
open Go Go.RowKit

def row72 : Bs := 128 :: List.replicate 71 0
theorem row72_cells : Tryd.zeroCells106.setIfInBounds 0 (.int .u8 128) = (brow row72).toArray := by kernel_rfl
theorem row72_length : row72.length = 72 := rfl
theorem row72_pad (n t : Nat) (ht : t = shaPadN n) : (row72.take t ++ be64 (n * 8) ++ row72.drop (t + 8)).take (t + 8) = shaPad n := by
  have h := shaPadN_pos n
  have h1 : (row72.take t ++ be64 (n * 8)).length = t + 8 := by simp [row72_length, be64_length]; omega
  rw [← h1, List.take_left]
  unfold shaPad
  rw [Nat.mul_comm 8 n]
  congr 1
  unfold row72
  obtain ⟨k, rfl⟩ := Nat.exists_eq_add_of_le (show 1 ≤ t by omega)
  rw [Nat.add_comm 1 k, List.take_succ_cons, List.take_replicate, Nat.min_eq_left (by omega), ← ht]
  congr 2
  omega
theorem pad_count (n : Nat) (data : Bs) (h : n = data.length) : (data ++ shaPad n).length % 64 = 0 := by
  rw [List.length_append, ← h, shaPad_whole]
theorem row_bs (w : World) (g cap : Nat) (xs ys : Bs) (t : TypeId) (S : List Nat) (hg : w.heap[g]? = some (.cells (brow xs).toArray t (0, 0))) (hy : xs.take ys.length = ys) (hl : ys.length ≤ xs.length) (hc : ys.length ≤ cap) (hm : cap ≤ 1000000) (hS : g ∉ S) :
    BS S w (.slice (some ⟨g, 0, none⟩) ys.length cap) ys := by
  refine ⟨_, cap, rfl, hc, by unfold maxLen; omega, fun h => (by cases h), .inr ⟨g, 0, rfl, hS, fun j hj => ?_⟩⟩
  rw [Nat.zero_add, (blk_cell hg j).trans (bv_cell xs j (by omega)), ← gt_take xs ys.length j hj, hy]

theorem size32 : (Tryd.prog.info? 81).map (·.size) = some 32 := by kernel_rfl
theorem put64' (w : World) (g off len cap : Nat) (xs : Bs) (t : TypeId) (hg : w.heap[g]? = some (.cells (brow xs).toArray t (0, 0))) (h4 : 8 ≤ len) (hl : off + len ≤ xs.length) (n : Nat) (hn : n < 18446744073709551616) (z : Int) (hz : z = (n : Int)) :
    Calls Tryd.prog 99 #[.slice (some ⟨g, off, none⟩) len cap, .int .u64 z] w fun e w' => e = .returned (.tuple #[]) ∧ w'.heap[g]? = some (.cells (brow (xs.take off ++ be64 n ++ xs.drop (off + 8))).toArray t (0, 0)) ∧ Chg [g] w w' := by
  subst hz
  exact put64 w g off len cap xs t hg h4 hl n hn

set_option maxRecDepth 100000 in
set_option maxHeartbeats 8000000 in
theorem dig_check (K : List UInt32) (w : World) (d : Nat) (data : Bs) (hK : KAt K w) (h : DigAt K w d data) (hdl : data.length ≤ 500000) :
    Calls Tryd.prog 79 #[.pointer (some ⟨d, 0, none⟩)] w fun e w' => e = .returned (.agg (brow (shaSum K data)).toArray) ∧ DigRaw w' d ∧ Chg [d] w w' := by
  have hdig := id h
  obtain ⟨h0, X, hX, hXr, hd⟩ := h
  have hdlt := blk_lt hd
  have c73 := (blk_cell hd 73).trans (dc_ln _ X _ _ hX)
  rw [u64_nat _ (by omega)] at c73
  obtain ⟨t, ht⟩ : ∃ t, t = shaPadN data.length := ⟨_, rfl⟩
  have htp := shaPadN_pos data.length
  rw [← ht] at htp
  have Ht := Lib.hid ht
  have hcase : (((data.length : Int) % 64) < 56 ∧ (56 : Int) - (data.length : Int) % 64 = (t : Int)) ∨ (¬ ((data.length : Int) % 64) < 56 ∧ (120 : Int) - (data.length : Int) % 64 = (t : Int)) := by
    rw [ht]; unfold shaPadN
    by_cases hlt : data.length % 64 < 56
    · rw [if_pos hlt]; exact .inl (by omega)
    · rw [if_neg hlt]; exact .inr (by omega)
  have ht1 : (t : Int) + 8 ≤ 72 := by omega
  have ht2 : (0 : Int) ≤ (t : Int) + 8 := by omega
  have ht3 : ((t : Int) + 8).toNat = t + 8 := by omega
  have ht4 : (t : Int) ≤ (t : Int) + 8 := by omega
  have ht5 : (0 : Int) ≤ (t : Int) := by omega
  clear ht hXr hX hd
  rcases hcase with ⟨hlt, htv⟩ | ⟨hlt, htv⟩
  all_goals
    go_enter Tryd.func79, Tryd.ntmps79
    go_wp2_with fail
    clear c73 hlt htv ht1 ht2 ht3 ht4 ht5
    have hput := fun A : Obj => put64' ((w.alloc A).alloc (.cells (Tryd.zeroCells106.setIfInBounds 0 (.int .u8 128)) 106)) (w.heap.size + 1) t 8 (72 - t) row72 106 (by rw [← row72_cells]; exact heap_alloc2_new w _ _) (by omega) (by rw [row72_length]; omega) (data.length * 8) (by omega) ((data.length : Int) * 8) (by omega)
    refine (hput _).mono ?_
    rintro e w1 ⟨rfl, h1, hchg1⟩
    have hchgW : Chg [] w w1 := by
      have := (((Chg.refl [] w).alloc (.cells _ 81)).alloc (.cells (Tryd.zeroCells106.setIfInBounds 0 (.int .u8 128)) 106)).and hchg1 (by simp)
      exact this
    have hr1 : w1.heap[w.heap.size]? = some (.cells (brow (List.replicate 32 0)).toArray 81 (0, 0)) := hchg1.row (heap_alloc2_old w _ _) (by simp)
    clear hput hchg1
    have hpad := row72_pad data.length t Ht.out
    have hpl : (shaPad data.length).length = t + 8 := by rw [shaPad_length, ← Ht.out]
    have hbs : BS [d] w1 (.slice (some ⟨w.heap.size + 1, 0, none⟩) (t + 8) 72) (shaPad data.length) := by
      rw [← hpl]
      refine row_bs w1 (w.heap.size + 1) 72 _ (shaPad data.length) 106 [d] h1 ?_ ?_ ?_ (by omega) (by simp; omega)
      · rw [hpl]; exact hpad
      · rw [hpl]; simp [row72_length, be64_length]; omega
      · rw [hpl]; omega
    have hwr := dig_write K w1 d data (hK.chg hchgW (by simp)) (hdig.chg hchgW (by simp)) (by omega) _ (shaPad data.length) (by omega) hbs
    have HWR := Lib.hid hwr
    clear hwr hbs hpad hpl h1
    go_wp2_with (go_at_call 43; refine HWR.out.mono ?_; rintro e w2 ⟨rfl, hdig2, hchg2⟩; obtain ⟨_, X2, hX2, _, hd2⟩ := hdig2; rw [pad_count data.length data rfl] at hd2; have c72 : w2.cell? ⟨d, 72, none⟩ = some (.int .i64 0) := (blk_cell hd2 72).trans (dc_nx _ X2 0 _ hX2))
    have hr2 := hchg2.row hr1 (by simp; omega)
    have hw2 := (hchgW.mono (S' := [d]) (by simp)).trans hchg2
    obtain ⟨S, hS⟩ : ∃ S, S = shaAll K shaInit (data ++ shaPad data.length) := ⟨_, rfl⟩
    obtain ⟨ln, hln⟩ : ∃ ln, ln = UInt64.ofNat (data ++ shaPad data.length).length := ⟨_, rfl⟩
    rw [← hS, ← hln] at hd2
    have HS := Lib.hid hS
    obtain ⟨g, hg⟩ : ∃ g, g = w2.heap.size := ⟨_, rfl⟩
    have hgd : d ≠ g := by have := hw2.size; omega
    have hgr : w.heap.size ≠ g := by have := blk_lt hr2; omega
    rw [← hg]
    refine gen_wp (fun w' => w'.heap[d]? = some (.cells (dcells S X2 0 ln).toArray 79 (0, 0)) ∧ w'.heap[w.heap.size]? = some (.cells (brow (List.replicate 32 0)).toArray 81 (0, 0)) ∧ w'.heap[g]? = some (.cells (brow (List.replicate 32 0)).toArray 81 (0, 0)) ∧ Chg [d] w w') ⟨blk_alloc hd2 _, blk_alloc hr2 _, by rw [hg]; exact heap_alloc_new w2 _, hw2.alloc _⟩ (fun w3 h3 => ?_)
    have HX2 := Lib.hid hX2
    have hgw : w.heap.size ≤ g := by rw [hg]; exact hw2.size
    clear hX2 hd2 hr2 hw2 hchg2 c72 hS hln hg HWR hr1 hchgW
    have cd : w3.cell? ⟨d, 0, none⟩ = some (.int .u32 (S.a.toNat : Int)) := blk_cell h3.1 0
    refine region_tail 6 (by kernel_rfl) (by kernel_rfl) ?_
    simp only [List.take_succ_cons, List.take_zero, List.drop_succ_cons, List.drop_zero]
    repeat ((first | refine still_one rfl ?_ | refine still_one2 rfl ?_); go_wp2; refine Held1.mk ?_)
    refine wpStill_nil ?_
    have hp := put32 w3.drew g 0 32 32 (List.replicate 32 0) 81 (blk_drew h3.2.2.1) (by omega) (by simp) S.a
    go_wp2_with (go_at_call 100; refine hp.mono ?_; rintro e w' ⟨rfl, hrow, hchg⟩)
    refine gen_wp (fun w' => w'.heap[d]? = some (.cells (dcells S X2 0 ln).toArray 79 (0, 0)) ∧ w'.heap[w.heap.size]? = some (.cells (brow (List.replicate 32 0)).toArray 81 (0, 0)) ∧ w'.heap[g]? = some (.cells (brow (be4 S.a ++ (List.replicate 28 0))).toArray 81 (0, 0)) ∧ Chg [d] w w') ⟨hchg.row (blk_drew h3.1) (by simpa using hgd), hchg.row (blk_drew h3.2.1) (by simpa using hgr), hrow, h3.2.2.2.drew.and hchg (by simp; omega)⟩ (fun w4 h4 => ?_)
    clear hp cd hrow hchg
    have cd : w4.cell? ⟨d, 1, none⟩ = some (.int .u32 (S.b.toNat : Int)) := blk_cell h4.1 1
    refine region_tail 6 (by kernel_rfl) (by kernel_rfl) ?_
    simp only [List.take_succ_cons, List.take_zero, List.drop_succ_cons, List.drop_zero]
    repeat ((first | refine still_one rfl ?_ | refine still_one2 rfl ?_); go_wp2; refine Held1.mk ?_)
    refine wpStill_nil ?_
    have hp := put32 w4.drew g 4 28 28 (be4 S.a ++ (List.replicate 28 0)) 81 (blk_drew h4.2.2.1) (by omega) (by simp [be4]) S.b
    go_wp2_with (go_at_call 100; refine hp.mono ?_; rintro e w' ⟨rfl, hrow, hchg⟩)
    refine gen_wp (fun w' => w'.heap[d]? = some (.cells (dcells S X2 0 ln).toArray 79 (0, 0)) ∧ w'.heap[w.heap.size]? = some (.cells (brow (List.replicate 32 0)).toArray 81 (0, 0)) ∧ w'.heap[g]? = some (.cells (brow (be4 S.a ++ (be4 S.b ++ (List.replicate 24 0)))).toArray 81 (0, 0)) ∧ Chg [d] w w') ⟨hchg.row (blk_drew h4.1) (by simpa using hgd), hchg.row (blk_drew h4.2.1) (by simpa using hgr), hrow, h4.2.2.2.drew.and hchg (by simp; omega)⟩ (fun w5 h5 => ?_)
    clear hp cd hrow hchg
    have cd : w5.cell? ⟨d, 2, none⟩ = some (.int .u32 (S.c.toNat : Int)) := blk_cell h5.1 2
    refine region_tail 6 (by kernel_rfl) (by kernel_rfl) ?_
    simp only [List.take_succ_cons, List.take_zero, List.drop_succ_cons, List.drop_zero]
    repeat ((first | refine still_one rfl ?_ | refine still_one2 rfl ?_); go_wp2; refine Held1.mk ?_)
    refine wpStill_nil ?_
    have hp := put32 w5.drew g 8 24 24 (be4 S.a ++ (be4 S.b ++ (List.replicate 24 0))) 81 (blk_drew h5.2.2.1) (by omega) (by simp [be4]) S.c
    go_wp2_with (go_at_call 100; refine hp.mono ?_; rintro e w' ⟨rfl, hrow, hchg⟩)
    refine gen_wp (fun w' => w'.heap[d]? = some (.cells (dcells S X2 0 ln).toArray 79 (0, 0)) ∧ w'.heap[w.heap.size]? = some (.cells (brow (List.replicate 32 0)).toArray 81 (0, 0)) ∧ w'.heap[g]? = some (.cells (brow (be4 S.a ++ (be4 S.b ++ (be4 S.c ++ (List.replicate 20 0))))).toArray 81 (0, 0)) ∧ Chg [d] w w') ⟨hchg.row (blk_drew h5.1) (by simpa using hgd), hchg.row (blk_drew h5.2.1) (by simpa using hgr), hrow, h5.2.2.2.drew.and hchg (by simp; omega)⟩ (fun w6 h6 => ?_)
    clear hp cd hrow hchg
    have cd : w6.cell? ⟨d, 3, none⟩ = some (.int .u32 (S.d.toNat : Int)) := blk_cell h6.1 3
    refine region_tail 6 (by kernel_rfl) (by kernel_rfl) ?_
    simp only [List.take_succ_cons, List.take_zero, List.drop_succ_cons, List.drop_zero]
    repeat ((first | refine still_one rfl ?_ | refine still_one2 rfl ?_); go_wp2; refine Held1.mk ?_)
    refine wpStill_nil ?_
    have hp := put32 w6.drew g 12 20 20 (be4 S.a ++ (be4 S.b ++ (be4 S.c ++ (List.replicate 20 0)))) 81 (blk_drew h6.2.2.1) (by omega) (by simp [be4]) S.d
    go_wp2_with (go_at_call 100; refine hp.mono ?_; rintro e w' ⟨rfl, hrow, hchg⟩)
    refine gen_wp (fun w' => w'.heap[d]? = some (.cells (dcells S X2 0 ln).toArray 79 (0, 0)) ∧ w'.heap[w.heap.size]? = some (.cells (brow (List.replicate 32 0)).toArray 81 (0, 0)) ∧ w'.heap[g]? = some (.cells (brow (be4 S.a ++ (be4 S.b ++ (be4 S.c ++ (be4 S.d ++ (List.replicate 16 0)))))).toArray 81 (0, 0)) ∧ Chg [d] w w') ⟨hchg.row (blk_drew h6.1) (by simpa using hgd), hchg.row (blk_drew h6.2.1) (by simpa using hgr), hrow, h6.2.2.2.drew.and hchg (by simp; omega)⟩ (fun w7 h7 => ?_)
    clear hp cd hrow hchg
    have cd : w7.cell? ⟨d, 4, none⟩ = some (.int .u32 (S.e.toNat : Int)) := blk_cell h7.1 4
    refine region_tail 6 (by kernel_rfl) (by kernel_rfl) ?_
    simp only [List.take_succ_cons, List.take_zero, List.drop_succ_cons, List.drop_zero]
    repeat ((first | refine still_one rfl ?_ | refine still_one2 rfl ?_); go_wp2; refine Held1.mk ?_)
    refine wpStill_nil ?_
    have hp := put32 w7.drew g 16 16 16 (be4 S.a ++ (be4 S.b ++ (be4 S.c ++ (be4 S.d ++ (List.replicate 16 0))))) 81 (blk_drew h7.2.2.1) (by omega) (by simp [be4]) S.e
    go_wp2_with (go_at_call 100; refine hp.mono ?_; rintro e w' ⟨rfl, hrow, hchg⟩)
    refine gen_wp (fun w' => w'.heap[d]? = some (.cells (dcells S X2 0 ln).toArray 79 (0, 0)) ∧ w'.heap[w.heap.size]? = some (.cells (brow (List.replicate 32 0)).toArray 81 (0, 0)) ∧ w'.heap[g]? = some (.cells (brow (be4 S.a ++ (be4 S.b ++ (be4 S.c ++ (be4 S.d ++ (be4 S.e ++ (List.replicate 12 0))))))).toArray 81 (0, 0)) ∧ Chg [d] w w') ⟨hchg.row (blk_drew h7.1) (by simpa using hgd), hchg.row (blk_drew h7.2.1) (by simpa using hgr), hrow, h7.2.2.2.drew.and hchg (by simp; omega)⟩ (fun w8 h8 => ?_)
    clear hp cd hrow hchg
    have cd : w8.cell? ⟨d, 5, none⟩ = some (.int .u32 (S.f.toNat : Int)) := blk_cell h8.1 5
    refine region_tail 6 (by kernel_rfl) (by kernel_rfl) ?_
    simp only [List.take_succ_cons, List.take_zero, List.drop_succ_cons, List.drop_zero]
    repeat ((first | refine still_one rfl ?_ | refine still_one2 rfl ?_); go_wp2; refine Held1.mk ?_)
    refine wpStill_nil ?_
    have hp := put32 w8.drew g 20 12 12 (be4 S.a ++ (be4 S.b ++ (be4 S.c ++ (be4 S.d ++ (be4 S.e ++ (List.replicate 12 0)))))) 81 (blk_drew h8.2.2.1) (by omega) (by simp [be4]) S.f
    go_wp2_with (go_at_call 100; refine hp.mono ?_; rintro e w' ⟨rfl, hrow, hchg⟩)
    refine gen_wp (fun w' => w'.heap[d]? = some (.cells (dcells S X2 0 ln).toArray 79 (0, 0)) ∧ w'.heap[w.heap.size]? = some (.cells (brow (List.replicate 32 0)).toArray 81 (0, 0)) ∧ w'.heap[g]? = some (.cells (brow (be4 S.a ++ (be4 S.b ++ (be4 S.c ++ (be4 S.d ++ (be4 S.e ++ (be4 S.f ++ (List.replicate 8 0)))))))).toArray 81 (0, 0)) ∧ Chg [d] w w') ⟨hchg.row (blk_drew h8.1) (by simpa using hgd), hchg.row (blk_drew h8.2.1) (by simpa using hgr), hrow, h8.2.2.2.drew.and hchg (by simp; omega)⟩ (fun w9 h9 => ?_)
    clear hp cd hrow hchg
    have cd : w9.cell? ⟨d, 6, none⟩ = some (.int .u32 (S.g.toNat : Int)) := blk_cell h9.1 6
    refine region_tail 6 (by kernel_rfl) (by kernel_rfl) ?_
    simp only [List.take_succ_cons, List.take_zero, List.drop_succ_cons, List.drop_zero]
    repeat ((first | refine still_one rfl ?_ | refine still_one2 rfl ?_); go_wp2; refine Held1.mk ?_)
    refine wpStill_nil ?_
    have hp := put32 w9.drew g 24 8 8 (be4 S.a ++ (be4 S.b ++ (be4 S.c ++ (be4 S.d ++ (be4 S.e ++ (be4 S.f ++ (List.replicate 8 0))))))) 81 (blk_drew h9.2.2.1) (by omega) (by simp [be4]) S.g
    go_wp2_with (go_at_call 100; refine hp.mono ?_; rintro e w' ⟨rfl, hrow, hchg⟩; have c74 : w'.cell? ⟨d, 74, none⟩ = some (.bool false) := (blk_cell (hchg.row (blk_drew h9.1) (by simpa using hgd)) 74).trans (dc_224 _ X2 _ _ HX2.out))
    refine gen_wp (fun w' => w'.heap[d]? = some (.cells (dcells S X2 0 ln).toArray 79 (0, 0)) ∧ w'.heap[w.heap.size]? = some (.cells (brow (List.replicate 32 0)).toArray 81 (0, 0)) ∧ w'.heap[g]? = some (.cells (brow (be4 S.a ++ (be4 S.b ++ (be4 S.c ++ (be4 S.d ++ (be4 S.e ++ (be4 S.f ++ (be4 S.g ++ (List.replicate 4 0))))))))).toArray 81 (0, 0)) ∧ Chg [d] w w') ⟨hchg.row (blk_drew h9.1) (by simpa using hgd), hchg.row (blk_drew h9.2.1) (by simpa using hgr), hrow, h9.2.2.2.drew.and hchg (by simp; omega)⟩ (fun w10 h10 => ?_)
    clear hp cd hrow hchg c74
    have cd : w10.cell? ⟨d, 7, none⟩ = some (.int .u32 (S.h.toNat : Int)) := blk_cell h10.1 7
    refine region_tail 6 (by kernel_rfl) (by kernel_rfl) ?_
    simp only [List.take_succ_cons, List.take_zero, List.drop_succ_cons, List.drop_zero]
    repeat ((first | refine still_one rfl ?_ | refine still_one2 rfl ?_); go_wp2; refine Held1.mk ?_)
    refine wpStill_nil ?_
    have hp := put32 w10.drew g 28 4 4 (be4 S.a ++ (be4 S.b ++ (be4 S.c ++ (be4 S.d ++ (be4 S.e ++ (be4 S.f ++ (be4 S.g ++ (List.replicate 4 0)))))))) 81 (blk_drew h10.2.2.1) (by omega) (by simp [be4]) S.h
    go_upto_region 24 with (go_at_call 100; refine hp.mono ?_; rintro e w' ⟨rfl, hrow, hchg⟩)
    refine gen_wp (fun w' => w'.heap[d]? = some (.cells (dcells S X2 0 ln).toArray 79 (0, 0)) ∧ w'.heap[w.heap.size]? = some (.cells (brow (List.replicate 32 0)).toArray 81 (0, 0)) ∧ w'.heap[g]? = some (.cells (brow (be4 S.a ++ (be4 S.b ++ (be4 S.c ++ (be4 S.d ++ (be4 S.e ++ (be4 S.f ++ (be4 S.g ++ (be4 S.h))))))))).toArray 81 (0, 0)) ∧ Chg [d] w w') ⟨hchg.row (blk_drew h10.1) (by simpa using hgd), hchg.row (blk_drew h10.2.1) (by simpa using hgr), hrow, h10.2.2.2.drew.and hchg (by simp; omega)⟩ (fun w11 h11 => ?_)
    clear hp cd hrow hchg
    go_wp2_with (first | (refine load_row rfl 81 (.tmp 7) rfl g rfl h11.2.2.1 Tryd.underlying81 rfl size32 (by simp [brow, be4]) ?_) | (refine store_row rfl 81 (.tmp 2) (.tmp 103) rfl w.heap.size rfl rfl h11.2.1 size32 (by simp [brow, be4]) (by simp [brow]) (brow_one _) ?_; intro w12 hrow hchg))
    refine bodyPost_ret (results_cell_row rfl _ _ w.heap.size 81 _ (0, 0) _ rfl hrow Tryd.underlying81 rfl (size_at size32 (by simp [brow, be4]))) rfl ⟨?_, ⟨h0, S, X2, 0, ln, HX2.out, hchg.row h11.1 (by simp; omega)⟩, h11.2.2.2.and hchg (by simp)⟩
    unfold shaSum shaBytes
    rw [← HS.out]
    rfl
end Go.Proofs.YtknoomndofnnmaaDoor
