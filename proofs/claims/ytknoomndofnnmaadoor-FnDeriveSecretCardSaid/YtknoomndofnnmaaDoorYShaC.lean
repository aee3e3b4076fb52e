/- SHA-256: Digest.Reset, New, Size, BlockSize, block. -/
import Derived.Test.YtknoomndofnnmaaDoorYShaB
import Derived.Test.YtknoomndofnnmaaDoorYPlain
import Derived.Test.YtknoomndofnnmaaDoorYMem
namespace Go.Proofs.YtknoomndofnnmaaDoor
open Go Go.RowKit

theorem dc_nx (s : S8) (X : Bs) (nx : Nat) (ln : UInt64) (hX : X.length = 64) : (dcells s X nx ln).toArray[72]? = some (.int .i64 (nx : Int)) := by
  simp [dcells, brow, hX]
theorem dc_ln (s : S8) (X : Bs) (nx : Nat) (ln : UInt64) (hX : X.length = 64) : (dcells s X nx ln).toArray[73]? = some (.int .u64 (ln.toNat : Int)) := by
  simp [dcells, brow, hX]
theorem dc_224 (s : S8) (X : Bs) (nx : Nat) (ln : UInt64) (hX : X.length = 64) : (dcells s X nx ln).toArray[74]? = some (.bool false) := by
  simp [dcells, brow, hX]
theorem dc_length (s : S8) (X : Bs) (nx : Nat) (ln : UInt64) (hX : X.length = 64) : (dcells s X nx ln).length = 75 := by
  simp [dcells, brow, hX]
theorem dc_x (s : S8) (X : Bs) (nx : Nat) (ln : UInt64) (j : Nat) (hj : j < X.length) : (dcells s X nx ln).toArray[8 + j]? = some (.int .u8 ((gt X j).toNat : Int)) := by
  have e : 8 + j = j + 1 + 1 + 1 + 1 + 1 + 1 + 1 + 1 := by omega
  rw [e]
  simp only [dcells, List.getElem?_toArray, List.getElem?_cons_succ]
  rw [List.getElem?_append_left (by rw [brow_length]; exact hj)]
  exact brow_get X j hj
theorem dc_set_nx (s : S8) (X : Bs) (nx m : Nat) (ln : UInt64) (hX : X.length = 64) : (dcells s X nx ln).set 72 (.int .i64 (m : Int)) = dcells s X m ln := by
  simp only [dcells, List.set_cons_succ]
  rw [List.set_append_right _ _ (by simp [brow, hX])]
  simp [brow, hX]
theorem dc_set_ln (s : S8) (X : Bs) (nx : Nat) (ln m : UInt64) (hX : X.length = 64) : (dcells s X nx ln).set 73 (.int .u64 (m.toNat : Int)) = dcells s X nx m := by
  simp only [dcells, List.set_cons_succ]
  rw [List.set_append_right _ _ (by simp [brow, hX])]
  simp [brow, hX]
theorem dc_splice (s : S8) (X : Bs) (nx : Nat) (ln : UInt64) (k : Nat) (ys : Bs) (h : k + ys.length ≤ X.length) :
    (dcells s X nx ln).take (8 + k) ++ brow ys ++ (dcells s X nx ln).drop (8 + k + ys.length) = dcells s (X.take k ++ ys ++ X.drop (k + ys.length)) nx ln := by
  have e : 8 + k = k + 1 + 1 + 1 + 1 + 1 + 1 + 1 + 1 := by omega
  have e2 : 8 + k + ys.length = (k + ys.length) + 1 + 1 + 1 + 1 + 1 + 1 + 1 + 1 := by omega
  rw [e2, e]
  simp only [dcells, List.take_succ_cons, List.drop_succ_cons, List.cons_append]
  rw [List.take_append_of_le_length (by rw [brow_length]; omega), List.drop_append_of_le_length (by rw [brow_length]; omega)]
  simp [brow, List.map_take, List.map_drop]

/-- A digest's block, whatever it has taken in. -/
def DigRaw (w : World) (d : Nat) : Prop := d ≠ 0 ∧ ∃ s X nx ln, X.length = 64 ∧ w.heap[d]? = some (.cells (dcells s X nx ln).toArray 79 (0, 0))
/-- A digest that has taken data in. -/
def DigAt (K : List UInt32) (w : World) (d : Nat) (data : Bs) : Prop :=
  d ≠ 0 ∧ ∃ X, X.length = 64 ∧ X.take (data.length % 64) = shaRest data ∧ w.heap[d]? = some (.cells (dcells (shaAll K shaInit data) X (data.length % 64) (UInt64.ofNat data.length)).toArray 79 (0, 0))
theorem DigAt.raw {K : List UInt32} {w : World} {d : Nat} {data : Bs} (h : DigAt K w d data) : DigRaw w d := by
  obtain ⟨h0, X, h1, h2, h3⟩ := h
  exact ⟨h0, _, X, _, _, h1, h3⟩
theorem DigAt.chg {K : List UInt32} {w w' : World} {d : Nat} {data : Bs} {S : List Nat} (h : DigAt K w d data) (hc : Chg S w w') (hd : d ∉ S) : DigAt K w' d data := by
  obtain ⟨h0, X, h1, h2, h3⟩ := h
  exact ⟨h0, X, h1, h2, hc.row h3 hd⟩
theorem DigRaw.chg {w w' : World} {d : Nat} {S : List Nat} (h : DigRaw w d) (hc : Chg S w w') (hd : d ∉ S) : DigRaw w' d := by
  obtain ⟨h0, s, X, nx, ln, h1, h3⟩ := h
  exact ⟨h0, s, X, nx, ln, h1, hc.row h3 hd⟩
theorem KAt.chg {K : List UInt32} {w w' : World} {S : List Nat} (h : KAt K w) (hc : Chg S w w') (hd : 0 ∉ S) : KAt K w' := ⟨h.1, hc.row h.2 hd⟩

set_option maxRecDepth 100000 in
set_option maxHeartbeats 2000000 in
theorem dig_reset (K : List UInt32) (w : World) (d : Nat) (h : DigRaw w d) : Calls Tryd.prog 77 #[.pointer (some ⟨d, 0, none⟩)] w fun e w' => e = .returned (.tuple #[]) ∧ DigAt K w' d [] ∧ Chg [d] w w' := by
  obtain ⟨h0, s, X, nx, ln, hX, hd⟩ := h
  have c0 : w.cell? ⟨d, 0, none⟩ = some (.int .u32 (s.a.toNat : Int)) := blk_cell hd 0
  have c1 : w.cell? ⟨d, 1, none⟩ = some (.int .u32 (s.b.toNat : Int)) := blk_cell hd 1
  have c2 : w.cell? ⟨d, 2, none⟩ = some (.int .u32 (s.c.toNat : Int)) := blk_cell hd 2
  have c3 : w.cell? ⟨d, 3, none⟩ = some (.int .u32 (s.d.toNat : Int)) := blk_cell hd 3
  have c4 : w.cell? ⟨d, 4, none⟩ = some (.int .u32 (s.e.toNat : Int)) := blk_cell hd 4
  have c5 : w.cell? ⟨d, 5, none⟩ = some (.int .u32 (s.f.toNat : Int)) := blk_cell hd 5
  have c6 : w.cell? ⟨d, 6, none⟩ = some (.int .u32 (s.g.toNat : Int)) := blk_cell hd 6
  have c7 : w.cell? ⟨d, 7, none⟩ = some (.int .u32 (s.h.toNat : Int)) := blk_cell hd 7
  have c72 := (blk_cell hd 72).trans (dc_nx s X nx ln hX)
  have c73 := (blk_cell hd 73).trans (dc_ln s X nx ln hX)
  have c74 := (blk_cell hd 74).trans (dc_224 s X nx ln hX)
  have fd := fun j => blk_frozen hd j
  go_enter Tryd.func77, Tryd.ntmps77
  go_wp2
  go_end0
  refine ⟨rfl, ⟨h0, X, hX, rfl, ?_⟩, ?_⟩
  · rw [shaAll_small K shaInit [] (by simp)]
    have h1 := blk_dset (blk_dset (blk_dset (blk_dset (blk_dset (blk_dset (blk_dset (blk_dset hd 0 (wv shaInit.a)) 1 (wv shaInit.b)) 2 (wv shaInit.c)) 3 (wv shaInit.d)) 4 (wv shaInit.e)) 5 (wv shaInit.f)) 6 (wv shaInit.g)) 7 (wv shaInit.h)
    have h2 : (dcells shaInit X nx ln) = (((((((((dcells s X nx ln).set 0 (wv shaInit.a)).set 1 (wv shaInit.b)).set 2 (wv shaInit.c)).set 3 (wv shaInit.d)).set 4 (wv shaInit.e)).set 5 (wv shaInit.f)).set 6 (wv shaInit.g)).set 7 (wv shaInit.h)) := rfl
    rw [← h2] at h1
    have h3 := blk_dset (blk_dset h1 72 (.int .i64 0)) 73 (.int .u64 0)
    rw [show (dcells shaInit X nx ln).set 72 (.int .i64 0) = dcells shaInit X 0 ln from dc_set_nx shaInit X nx 0 ln hX, show (dcells shaInit X 0 ln).set 73 (.int .u64 0) = dcells shaInit X 0 0 from dc_set_ln shaInit X 0 ln 0 hX] at h3
    exact h3
  · exact ((((((((((Chg.refl [d] w).setCell (.inl (by simp)) _).setCell (.inl (by simp)) _).setCell (.inl (by simp)) _).setCell (.inl (by simp)) _).setCell (.inl (by simp)) _).setCell (.inl (by simp)) _).setCell (.inl (by simp)) _).setCell (.inl (by simp)) _).setCell (.inl (by simp)) _).setCell (.inl (by simp)) _

theorem new_raw (w : World) (h : 0 < w.heap.size) (cs : Array Value) (hc : cs = (dcells ⟨0, 0, 0, 0, 0, 0, 0, 0⟩ (List.replicate 64 0) 0 0).toArray) : DigRaw (w.alloc (.cells cs 79)) w.heap.size := by
  subst hc
  exact ⟨by omega, _, _, 0, 0, by simp, heap_alloc_new w _⟩
theorem dig_new (K : List UInt32) (w : World) (h : 0 < w.heap.size) :
    Calls Tryd.prog 42 #[] w fun e w' => ∃ d, e = .returned (.pointer (some ⟨d, 0, none⟩)) ∧ w.heap.size ≤ d ∧ DigAt K w' d [] ∧ Chg [] w w' := by
  go_enter Tryd.func42, Tryd.ntmps42
  go_wp2_with (go_at_call 77; refine (dig_reset K _ _ (new_raw w h _ rfl)).mono ?_; rintro e w' ⟨rfl, hdig, hchg⟩)
  go_ret
  exact ⟨_, rfl, Nat.le_refl _, hdig, ((Chg.refl [] w).alloc _).and hchg (by simp)⟩
theorem dig_size (w : World) (d : Nat) (h : DigRaw w d) : Calls Tryd.prog 143 #[.pointer (some ⟨d, 0, none⟩)] w fun e w' => e = .returned (.int .i64 32) ∧ w = w' := by
  obtain ⟨h0, s, X, nx, ln, hX, hd⟩ := h
  have c74 := (blk_cell hd 74).trans (dc_224 s X nx ln hX)
  go_enter Tryd.func143, Tryd.ntmps143
  go_wp2
  go_ret
  exact ⟨rfl, rfl⟩
theorem dig_block (w : World) (d : Nat) : Calls Tryd.prog 141 #[.pointer (some ⟨d, 0, none⟩)] w fun e w' => e = .returned (.int .i64 64) ∧ w = w' := by
  go_enter Tryd.func141, Tryd.ntmps141
  go_wp2
  go_ret
  exact ⟨rfl, rfl⟩
theorem blk_any (K : List UInt32) (w : World) (d : Nat) (hd0 : d ≠ 0) (s : S8) (X : Bs) (nx : Nat) (ln : UInt64) (hK : KAt K w) (hd : w.heap[d]? = some (.cells (dcells s X nx ln).toArray 79 (0, 0)))
    (b off cap : Nat) (xs : Bs) (hx : xs.length ≤ 1000000) (hcap : xs.length ≤ cap) (hc : ∀ j, j < xs.length → w.cell? ⟨b, off + j, none⟩ = some (.int .u8 ((gt xs j).toNat : Int))) :
    Calls Tryd.prog 78 #[.pointer (some ⟨d, 0, none⟩), .slice (some ⟨b, off, none⟩) xs.length cap] w fun e w' =>
      e = .returned (.tuple #[]) ∧ w'.heap[d]? = some (.cells (dcells (shaAll K s xs) X nx ln).toArray 79 (0, 0)) ∧ Chg [d] w w' := by
  have HC := Lib.hid hc
  clear hc
  go_enter Tryd.func78, Tryd.ntmps78
  go_wp2_with (go_at_call 98; refine (sha_block K _ d hd0 s X nx ln hK hd b off cap xs hx hcap HC.out).mono ?_; rintro e w' ⟨rfl, h1, h2⟩)
  go_end0
  exact ⟨rfl, h1, h2⟩
end Go.Proofs.YtknoomndofnnmaaDoor
