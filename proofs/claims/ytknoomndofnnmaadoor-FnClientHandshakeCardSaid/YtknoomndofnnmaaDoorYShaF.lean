/- SHA-256: Digest.Sum. -/
import Derived.Test.YtknoomndofnnmaaDoorYShaE
namespace Go.Proofs.YtknoomndofnnmaaDoor
open Go Go.RowKit

theorem size75 : (Tryd.prog.info? 79).map (·.size) = some 75 := by kernel_rfl
theorem dcells_one (s : S8) (X : Bs) (nx : Nat) (ln : UInt64) : ∀ v ∈ dcells s X nx ln, v.oneCell' = true := by
  intro v hv
  simp only [dcells, List.mem_cons, List.mem_append, List.not_mem_nil, or_false] at hv
  rcases hv with rfl | rfl | rfl | rfl | rfl | rfl | rfl | rfl | hv | rfl | rfl | rfl
  all_goals first | rfl | exact brow_one X v hv
set_option maxRecDepth 100000 in
set_option maxHeartbeats 4000000 in
theorem dig_sum (K : List UInt32) (w : World) (d : Nat) (data : Bs) (hK : KAt K w) (h : DigAt K w d data) (hdl : data.length ≤ 500000) (vin : Value) (hv : Own w vin []) (_hvo : ∀ g, vin.ownBlock = some g → g ≠ d) :
    Calls Tryd.prog 45 #[.pointer (some ⟨d, 0, none⟩), vin] w fun e w' => ∃ v', e = .returned v' ∧ Own w' v' (shaSum K data) ∧ Chg vin.ownBlock.toList w w' ∧ ∀ g, v'.ownBlock = some g → vin.ownBlock = some g ∨ w.heap.size ≤ g := by
  have hdig := id h
  obtain ⟨h0, X, hX, hXr, hd⟩ := h
  have hdlt := blk_lt hd
  go_enter Tryd.func45, Tryd.ntmps45
  go_wp2_with (first | (refine load_row rfl 79 (.tmp 8) rfl d rfl hd Tryd.underlying79 rfl size75 (dc_length _ _ _ _ hX) ?_) | (refine store_row rfl 79 (.tmp 5) (.tmp 9) rfl w.heap.size rfl rfl (heap_alloc_new w _) size75 (dc_length _ _ _ _ hX) rfl (dcells_one _ _ _ _) ?_; intro w1 hd1 hchg1))
  have hw1 : Chg [] w w1 := ((Chg.refl [] w).alloc _).and hchg1 (by simp)
  have hdig1 : DigAt K w1 w.heap.size data := ⟨by omega, X, hX, hXr, hd1⟩
  have hc := dig_check K w1 w.heap.size data (hK.chg hw1 (by simp)) hdig1 hdl
  have HC := Lib.hid hc
  have hv1 := hv.chg hw1 (by simp)
  have HX := Lib.hid hX
  have HXr := Lib.hid hXr
  clear hc hd1 hd hX hXr hchg1 hdig1
  go_wp2_with (first | (go_at_call 79; refine HC.out.mono ?_; rintro e w2 ⟨rfl, ⟨_, s2, X2, nx2, ln2, hX2, hd2⟩, hchg2⟩; have hd2' := blk_alloc hd2 (.cells (brow (List.replicate 32 0)).toArray 81)) | (refine store_row rfl 81 (.tmp 6) (.tmp 10) rfl w2.heap.size rfl rfl (heap_alloc_new w2 _) size32 (by rw [brow_length, shaSum_length]) rfl (brow_one _) ?_; intro w3 hrow hchg3; have hd3 := hchg3.row hd2' (by have := blk_lt hd2; simp; omega); have c74 := (blk_cell hd3 74).trans (dc_224 _ X2 _ _ hX2); have hw3 : Chg [] w w3 := ((hw1.and hchg2 (by simp)).alloc _).and hchg3 (by have := (hw1.and hchg2 (by simp)).size; simp; omega)) | (at_builtin; refine append_bytes (ys := shaSum K data) (u := .slice (some ⟨w2.heap.size, 0, none⟩) 32 32) rfl (.tmp 16) (.tmp 17) rfl rfl (hv.chg hw3 (by simp)) rfl (row_bs w3 w2.heap.size 32 (shaSum K data) (shaSum K data) 81 [] hrow (List.take_length) (Nat.le_refl _) (Nat.le_refl _) (by omega) (by simp)).src (by rw [shaSum_length]; simp) ?_; intro v' w4 hown hchg4 hsame _))
  go_ret
  refine ⟨_, rfl, hown, (hw3.mono (by simp)).trans hchg4, fun g hg => (hsame g hg).imp id fun h => ?_⟩
  have := hw3.size
  omega
end Go.Proofs.YtknoomndofnnmaaDoor
