/- SHA-256: Digest.Write. -/
import Derived.Test.YtknoomndofnnmaaDoorYShaC
import Derived.Test.YtknoomndofnnmaaDoorYBytes
import Derived.Test.YtknoomndofnnmaaDoorYStill
import Derived.Deep.DeepCutAuto
namespace Go.Proofs.YtknoomndofnnmaaDoor
open Go Go.RowKit

/-- A digest that has taken data in, but for its count of bytes. -/
def DigL (K : List UInt32) (w : World) (d : Nat) (data : Bs) (n : Nat) : Prop :=
  ∃ X, X.length = 64 ∧ X.take (data.length % 64) = shaRest data ∧ w.heap[d]? = some (.cells (dcells (shaAll K shaInit data) X (data.length % 64) (UInt64.ofNat n)).toArray 79 (0, 0))
theorem u64_nat (n : Nat) (h : n ≤ 2000000) : ((UInt64.ofNat n).toNat : Int) = (n : Int) := by simp; omega
theorem dc_set_lnN (s : S8) (X : Bs) (nx n m : Nat) (hX : X.length = 64) (hm : m ≤ 2000000) : (dcells s X nx (UInt64.ofNat n)).set 73 (.int .u64 (m : Int)) = dcells s X nx (UInt64.ofNat m) := by
  rw [← u64_nat m hm]
  exact dc_set_ln s X nx _ _ hX

/-- Some bytes into the buffer. -/
theorem dl_part (K : List UInt32) (s : S8) (data ys : Bs) (X : Bs) (hX : X.length = 64) (hr : X.take (data.length % 64) = shaRest data) (hs : s = shaAll K shaInit data) (h : data.length % 64 + ys.length < 64) :
    s = shaAll K shaInit (data ++ ys) ∧ (data ++ ys).length % 64 = data.length % 64 + ys.length ∧
      (X.take (data.length % 64) ++ ys ++ X.drop (data.length % 64 + ys.length)).take ((data ++ ys).length % 64) = shaRest (data ++ ys) ∧ (X.take (data.length % 64) ++ ys ++ X.drop (data.length % 64 + ys.length)).length = 64 := by
  have hl : (data ++ ys).length % 64 = data.length % 64 + ys.length := by simp; omega
  have hrl := shaRest_length data
  refine ⟨?_, hl, ?_, ?_⟩
  · rw [shaAll_more, ← hs, shaAll_small]
    simp; omega
  · rw [hl, shaRest_more, shaRest_small _ (by simp; omega), hr]
    rw [List.take_append_of_le_length (by simp; omega), List.take_of_length_le (by simp; omega)]
  · simp; omega
/-- The buffer filled and taken in. -/
theorem dl_full (K : List UInt32) (data ys : Bs) (h : data.length % 64 + ys.length = 64) :
    shaAll K (shaAll K shaInit data) (shaRest data ++ ys) = shaAll K shaInit (data ++ ys) ∧ (data ++ ys).length % 64 = 0 ∧ shaRest (data ++ ys) = [] := by
  have hl : (data ++ ys).length % 64 = 0 := by simp; omega
  exact ⟨(shaAll_more K shaInit data ys).symm, hl, List.eq_nil_of_length_eq_zero (by rw [shaRest_length, hl])⟩
theorem rest_nil (data : Bs) (h : data.length % 64 = 0) : shaRest data = [] := List.eq_nil_of_length_eq_zero (by rw [shaRest_length, h])

set_option maxRecDepth 100000 in
set_option maxHeartbeats 4000000 in
theorem dig_write (K : List UInt32) (w : World) (d : Nat) (data : Bs) (hK : KAt K w) (h : DigAt K w d data) (hdl : data.length ≤ 1000000) (v : Value) (xs : Bs) (hx : xs.length ≤ 65536) (hv : BS [d] w v xs) :
    Calls Tryd.prog 43 #[.pointer (some ⟨d, 0, none⟩), v] w fun e w' => e = .returned (.tuple #[.int .i64 xs.length, .nilIface]) ∧ DigAt K w' d (data ++ xs) ∧ Chg [d] w w' := by
  obtain ⟨h0, X, hX, hXr, hd⟩ := h
  have hvv := id hv
  obtain ⟨a, c, rfl, hc1, hc2, hc3, hcell⟩ := hvv
  obtain ⟨m, hm⟩ : ∃ m, m = data.length % 64 := ⟨_, rfl⟩
  have hm64 : m < 64 := by omega
  obtain ⟨s, hs⟩ : ∃ s, s = shaAll K shaInit data := ⟨_, rfl⟩
  rw [← hm, ← hs] at hd
  rw [← hm] at hXr
  have Hm := Lib.hid hm
  have Hs := Lib.hid hs
  have HX := Lib.hid hX
  have HXr := Lib.hid hXr
  have c72 := (blk_cell hd 72).trans (dc_nx s X m _ hX)
  have c73 := (blk_cell hd 73).trans (dc_ln s X m _ hX)
  rw [u64_nat _ (by omega)] at c73
  clear hm hs hX hXr hcell hc3
  have fd := fun j => blk_frozen hd j
  go_enter Tryd.func43, Tryd.ntmps43
  go_upto_if 23 with fail
  go_cut [1] (fun s1 wx => ∃ (D1 ys : Bs) (a1 : Option Addr) (c1 : Nat), Hid (D1 ++ ys = data ++ xs) ∧ ys.length ≤ xs.length ∧ (D1.length % 64 = 0 ∨ ys = []) ∧ s1 = .slice a1 ys.length c1 ∧ BS [d] wx (.slice a1 ys.length c1) ys ∧ DigL K wx d D1 (data.length + xs.length) ∧ Chg [d] w wx)
  case first =>
    obtain ⟨w1, hw1⟩ : ∃ w1, w1 = w.setCell ⟨d, 73, none⟩ (.int .u64 ((data.length : Int) + (xs.length : Int))) := ⟨_, rfl⟩
    rw [← hw1]
    have hd1 : w1.heap[d]? = some (.cells (dcells s X m (UInt64.ofNat (data.length + xs.length))).toArray 79 (0, 0)) := by
      rw [hw1]
      have := blk_dset hd 73 (.int .u64 ((data.length : Int) + (xs.length : Int)))
      rw [show ((data.length : Int) + (xs.length : Int)) = ((data.length + xs.length : Nat) : Int) from by omega] at this ⊢
      rw [dc_set_lnN s X m _ _ HX.out (by omega)] at this
      exact this
    have hchg1 : Chg [d] w w1 := by rw [hw1]; exact (Chg.refl _ _).setCell (.inl (by simp)) _
    have hv1 := hv.chg hchg1 (by simp)
    have hK1 := hK.chg hchg1 (by simpa using h0.symm)
    clear hw1 hd fd c72 c73
    have c72 := (blk_cell hd1 72).trans (dc_nx s X m _ HX.out)
    have fd := fun j => blk_frozen hd1 j
    by_cases hm0 : m = 0
    · subst hm0
      go_wp2
      go_meet
      exact ⟨data, xs, a, c, Lib.hid rfl, Nat.le_refl _, .inl Hm.out.symm, rfl, hv1, ⟨X, HX.out, by rw [← Hm.out]; exact HXr.out, by rw [← Hs.out, ← Hm.out]; exact hd1⟩, hchg1⟩
    · have hmp : decide ((0 : Int) < (m : Int)) = true := decide_eq_true (by omega)
      have hm0' : (0 : Int) ≤ (m : Int) := by omega
      have hm64' : (m : Int) ≤ 64 := by omega
      have hne : ¬ 64 = m := by omega
      go_wp2
      refine region_tail 9 (by kernel_rfl) (by kernel_rfl) ?_
      simp only [List.take_succ_cons, List.take_zero, List.drop_succ_cons, List.drop_zero]
      repeat ((first | refine still_one rfl ?_ | refine still_one2 rfl ?_); go_wp2; refine Held1.mk ?_)
      refine wpStill_nil ?_
      refine copy_bytes rfl (.tmp 31) (.tmp 32) rfl (g := d) (off := 8 + m) (dLen := 64 - m) (dCap := 64 - m) rfl rfl (blk_drew hd1) (by rw [dc_length _ _ _ _ HX.out]; omega) (ys := xs) (hv1.chg ((Chg.refl [] w1).drew) (by simp)) ?_
      intro w2 hw2 hchg2
      obtain ⟨n, hn⟩ : ∃ n, n = min xs.length (64 - m) := ⟨_, rfl⟩
      rw [← hn] at hw2 ⊢
      have hn1 : n ≤ xs.length := by omega
      have hn2 : n ≤ 64 - m := by omega
      have hn3 : n = xs.length ∨ m + n = 64 := by omega
      have hlt : (xs.take n).length = n := by rw [List.length_take]; omega
      obtain ⟨X2, hX2⟩ : ∃ X2, X2 = X.take m ++ xs.take n ++ X.drop (m + n) := ⟨_, rfl⟩
      have hX2l : X2.length = 64 := by have := HX.out; rw [hX2]; simp; omega
      have hd2 : w2.heap[d]? = some (.cells (dcells s X2 m (UInt64.ofNat (data.length + xs.length))).toArray 79 (0, 0)) := by
        have e := dc_splice s X m (UInt64.ofNat (data.length + xs.length)) m (xs.take n) (by rw [hlt, HX.out]; omega)
        rw [hlt, ← hX2] at e
        rw [← e]
        exact hw2
      have hd3 : (w2.setCell ⟨d, 72, none⟩ (.int .i64 ((m : Int) + (n : Int)))).heap[d]? = some (.cells (dcells s X2 (m + n) (UInt64.ofNat (data.length + xs.length))).toArray 79 (0, 0)) := by
        have e := dc_set_nx s X2 m (m + n) (UInt64.ofNat (data.length + xs.length)) hX2l
        have e2 := blk_dset hd2 72 (.int .i64 ((m : Int) + (n : Int)))
        rw [show ((m : Int) + (n : Int)) = ((m + n : Nat) : Int) from by omega] at e2 ⊢
        rw [e] at e2
        exact e2
      have hchg12 : Chg [d] w (w2.setCell ⟨d, 72, none⟩ (.int .i64 ((m : Int) + (n : Int)))) := (hchg1.drew.trans hchg2).setCell (.inl (by simp)) _
      have hcut := run_cut a xs.length c n hn1
      have hmi : (0 : Int) ≤ (n : Int) := by omega
      have HX2 := Lib.hid hX2
      have HX2l := Lib.hid hX2l
      have Hlt := Lib.hid hlt
      have Hw2 := Lib.hid hw2
      clear hd1 c72 fd hv1 hn hX2 hX2l hw2 hlt hchg2
      have c72 := (blk_cell hd2 72).trans (dc_nx s X2 m _ HX2l.out)
      have fd := fun j => blk_frozen hd2 j
      clear hd2
      by_cases hB : m + n < 64
      · have hnx : n = xs.length := by omega
        have hB' : (m : Int) + (n : Int) < 64 := by omega
        have Hnx := Lib.hid hnx
        clear hn3 hnx
        go_wp2
        go_meet
        have hyl : (xs.drop n).length = xs.length - n := List.length_drop
        have hp := dl_part K s data (xs.take n) X HX.out (by rw [← Hm.out]; exact HXr.out) Hs.out (by rw [← Hm.out, Hlt.out]; exact hB)
        rw [← Hm.out, Hlt.out, ← HX2.out] at hp
        refine ⟨data ++ xs.take n, xs.drop n, cutO a c n, c - n, Lib.hid (by simp), by rw [hyl]; omega, .inr (List.drop_of_length_le (by rw [Hnx.out]; exact Nat.le_refl _)), by rw [hyl], by rw [hyl]; exact (hv.chg hchg12 (by simp)).cut n hn1, ⟨X2, HX2l.out, hp.2.2.1, ?_⟩, hchg12⟩
        rw [← hp.1, hp.2.1]
        exact hd3
      · have hmn : (m : Int) + (n : Int) = 64 := by omega
        have hmnN : m + n = 64 := by omega
        rw [hmn, hmnN] at hd3
        rw [hmn] at hchg12
        have hK3 := hK.chg hchg12 (by simpa using h0.symm)
        have hcells : ∀ j, j < X2.length → (w2.setCell ⟨d, 72, none⟩ (.int .i64 64)).cell? ⟨d, 8 + j, none⟩ = some (.int .u8 ((gt X2 j).toNat : Int)) := fun j hj => (blk_cell hd3 (8 + j)).trans (dc_x _ _ _ _ j hj)
        have HC := Lib.hid hcells
        have hb := blk_any K (w2.setCell ⟨d, 72, none⟩ (.int .i64 64)) d h0 s X2 64 (UInt64.ofNat (data.length + xs.length)) hK3 hd3 d 8 64 X2 (by rw [HX2l.out]; omega) (by rw [HX2l.out]; omega) HC.out
        rw [HX2l.out] at hb
        have HB := Lib.hid hb
        have HmnN := Lib.hid hmnN
        have Hd3 := Lib.hid hd3
        clear hcells hb hmnN hd3 hn3
        go_wp2_with (go_at_call 78; refine HB.out.mono ?_; rintro e w' ⟨rfl, h1, h2⟩; have c72' := (blk_cell h1 72).trans (dc_nx _ X2 _ _ HX2l.out); have fd' := fun j => blk_frozen h1 j)
        go_meet
        have hyl : (xs.drop n).length = xs.length - n := List.length_drop
        have hfull := dl_full K data (xs.take n) (by rw [← Hm.out, Hlt.out]; exact HmnN.out)
        have hchg3 : Chg [d] w (w'.setCell ⟨d, 72, none⟩ (.int .i64 0)) := (hchg12.trans h2).setCell (.inl (by simp)) _
        refine ⟨data ++ xs.take n, xs.drop n, cutO a c n, c - n, Lib.hid (by simp), by rw [hyl]; omega, .inl hfull.2.1, by rw [hyl], by rw [hyl]; exact (hv.chg hchg3 (by simp)).cut n hn1, ⟨X2, HX2l.out, by rw [hfull.2.1, hfull.2.2]; rfl, ?_⟩, hchg3⟩
        have e : X2 = shaRest data ++ xs.take n := by
          have := HX2.out
          rw [HmnN.out, List.drop_of_length_le (by rw [HX.out]; exact Nat.le_refl _), HXr.out, List.append_nil] at this
          exact this
        rw [hfull.2.1, ← hfull.1, ← e, ← Hs.out]
        have e3 := blk_dset h1 72 (.int .i64 ((0 : Nat) : Int))
        rw [dc_set_nx _ X2 _ 0 _ HX2l.out] at e3
        exact e3
  case rest =>
    clear c72 c73 fd hd
    obtain ⟨D1, ys, a1, c1, HD, hyle, h64, rfl, hvy, ⟨Y, hY, hYr, hdy⟩, hchg⟩ := hcut
    obtain ⟨sy, hsy⟩ : ∃ sy, sy = shaAll K shaInit D1 := ⟨_, rfl⟩
    obtain ⟨nx, hnx⟩ : ∃ nx, nx = D1.length % 64 := ⟨_, rfl⟩
    rw [← hsy, ← hnx] at hdy
    rw [← hnx] at hYr
    have HY := Lib.hid hY
    have HYr := Lib.hid hYr
    have Hsy := Lib.hid hsy
    have Hnx := Lib.hid hnx
    have H64 := Lib.hid h64
    clear hsy hnx hY hYr h64
    go_upto_if 61 with fail
    go_cut [1] (fun s1 wx => ∃ (D2 zs : Bs) (a1 : Option Addr) (c1 : Nat), Hid (D2 ++ zs = data ++ xs) ∧ (D2.length % 64 = 0 ∨ zs = []) ∧ zs.length < 64 ∧ s1 = .slice a1 zs.length c1 ∧ BS [d] wx (.slice a1 zs.length c1) zs ∧ DigL K wx d D2 (data.length + xs.length) ∧ Chg [d] w wx)
    case first =>
      by_cases hlt : ys.length < 64
      · have hlt' : (ys.length : Int) < 64 := by omega
        go_wp2
        go_meet
        exact ⟨D1, ys, a1, c1, HD, H64.out, hlt, rfl, hvy, ⟨Y, HY.out, by rw [← Hnx.out]; exact HYr.out, by rw [← Hsy.out, ← Hnx.out]; exact hdy⟩, hchg⟩
      · have hlt' : (64 : Int) ≤ (ys.length : Int) := by omega
        have hvv := id hvy
        obtain ⟨a', c', he, hcc1, hcc2, hcc3, hcell⟩ := hvv
        cases he
        rcases hcell with rfl | ⟨b, off, rfl, hbd, hcell⟩
        · simp at hlt
        have hD0 : nx = 0 := by
          rcases H64.out with h | h
          · rw [Hnx.out]; exact h
          · rw [h] at hlt; simp at hlt
        obtain ⟨k, hk⟩ : ∃ k, k = ys.length / 64 * 64 := ⟨_, rfl⟩
        have hand := andNot63 ys.length (by omega)
        rw [← hk] at hand
        have hk1 : k ≤ ys.length := by omega
        have hk2 : (k : Int) ≤ 65536 := by omega
        have hk3 : ys.length - k < 64 := by omega
        have hk4 : k % 64 = 0 := by omega
        have hlen : (ys.take k).length = k := by rw [List.length_take]; omega
        have hK3 := hK.chg hchg (by simpa using h0.symm)
        have hb := blk_any K wc d h0 sy Y nx (UInt64.ofNat (data.length + xs.length)) hK3 hdy b off c1 (ys.take k) (by omega) (by omega) (fun j hj => by rw [gt_take _ _ _ (by omega)]; exact hcell j (by omega))
        rw [hlen] at hb
        have hcut := run_cut (some ⟨b, off, none⟩) ys.length c1 k hk1
        have hhead := run_head (some ⟨b, off, none⟩) ys.length c1 k (by omega)
        have HB := Lib.hid hb
        have HD0 := Lib.hid hD0
        have Hk4 := Lib.hid hk4
        have Hcell := Lib.hid hcell
        have Hlen := Lib.hid hlen
        clear hb hD0 hk4 hcell hk hcc3 hlen
        go_wp2
        refine wp_loop_rounds 1 ?_
        rw [rounds_succ]
        go_wp2_with (go_at_call 78; refine HB.out.mono ?_; rintro e w' ⟨rfl, h1, h2⟩)
        go_meet
        have hyl : (ys.drop k).length = ys.length - k := List.length_drop
        have hl0 : D1.length % 64 = 0 := by rw [← Hnx.out]; exact HD0.out
        have hD2 : (D1 ++ ys.take k).length % 64 = 0 := by have := Hlen.out; have := Hk4.out; rw [List.length_append]; omega
        have e : shaAll K sy (ys.take k) = shaAll K shaInit (D1 ++ ys.take k) := by rw [shaAll_more, ← Hsy.out, rest_nil D1 hl0]; rfl
        refine ⟨D1 ++ ys.take k, ys.drop k, _, _, Lib.hid (by rw [List.append_assoc, List.take_append_drop]; exact HD.out), .inl hD2, by omega, by rw [hyl], by rw [hyl]; exact (hvy.chg h2 (by simp)).cut k hk1, ⟨Y, HY.out, by rw [hD2, rest_nil _ hD2]; rfl, ?_⟩, hchg.trans h2⟩
        rw [hD2, ← e]
        have := h1
        rw [HD0.out] at this
        exact this
    case rest =>
      clear hdy hvy hchg HY HYr Hsy Hnx H64 HD hyle
      obtain ⟨D2, zs, a2, c2, HD2, h64, hz64, rfl, hvz, ⟨Z, hZ, hZr, hdz⟩, hchg⟩ := hcut
      obtain ⟨nx2, hnx⟩ : ∃ nx2, nx2 = D2.length % 64 := ⟨_, rfl⟩
      obtain ⟨sz, hsz⟩ : ∃ sz, sz = shaAll K shaInit D2 := ⟨_, rfl⟩
      rw [← hsz, ← hnx] at hdz
      rw [← hnx] at hZr
      have hnx64 : nx2 < 64 := by omega
      have HZ := Lib.hid hZ
      have HZr := Lib.hid hZr
      have Hsz := Lib.hid hsz
      have Hnx2 := Lib.hid hnx
      have hfin : (data.length + xs.length) = (data ++ xs).length := by simp
      have Hfin := Lib.hid hfin
      clear hsz hnx hZ hZr hfin
      by_cases hz0 : zs.length = 0
      · have hzn : zs = [] := List.eq_nil_of_length_eq_zero hz0
        have HZn := Lib.hid hzn
        clear h64 hvz hzn
        rw [hz0]
        go_wp2
        go_ret2
        have e := HD2.out
        rw [HZn.out, List.append_nil] at e
        refine ⟨rfl, ⟨h0, Z, HZ.out, by rw [← e, ← Hnx2.out]; exact HZr.out, ?_⟩, hchg⟩
        rw [Hfin.out, ← e] at hdz
        rw [← e, ← Hsz.out, ← Hnx2.out]
        exact hdz
      · have hz1 : (0 : Int) < (zs.length : Int) := by omega
        have hD0 : nx2 = 0 := by
          rcases h64 with h | h
          · rw [Hnx2.out]; exact h
          · rw [h] at hz0; simp at hz0
        have HD0 := Lib.hid hD0
        clear h64 hD0 hz0
        obtain ⟨w2, hr, hw2, hchg2⟩ := run_copy_bytes (ty := 3) (off := 8) (dLen := 64) (dCap := 64) hdz (by rw [dc_length _ _ _ _ HZ.out]; omega) hvz
        rw [show min zs.length 64 = zs.length from by omega] at hr hw2
        rw [List.take_length] at hw2
        have fd2 := fun j => blk_frozen hw2 j
        have e := dc_splice sz Z nx2 (UInt64.ofNat (data.length + xs.length)) 0 zs (by rw [HZ.out]; omega)
        rw [Nat.add_zero, Nat.zero_add, List.take_zero, List.nil_append] at e
        rw [e] at hw2
        have hZl : (zs ++ Z.drop zs.length).length = 64 := by have := HZ.out; simp; omega
        have HZl := Lib.hid hZl
        have hd4 := blk_dset hw2 72 (.int .i64 (zs.length : Int))
        rw [dc_set_nx _ _ _ _ _ hZl] at hd4
        have c72 := (blk_cell hw2 72).trans (dc_nx _ _ nx2 _ hZl)
        have Hd4 := Lib.hid hd4
        clear hw2 e hZl hd4 hdz hvz
        go_wp2
        go_ret2
        have hz := HD0.out
        have h1 := Hnx2.out
        have hlen : (data ++ xs).length % 64 = zs.length := by rw [← HD2.out, List.length_append]; omega
        have hrest : shaRest (data ++ xs) = zs := by rw [← HD2.out, shaRest_more, rest_nil D2 (by omega), List.nil_append, shaRest_small _ hz64]
        have hst : sz = shaAll K shaInit (data ++ xs) := by rw [← HD2.out, shaAll_more, ← Hsz.out, rest_nil D2 (by omega), List.nil_append, shaAll_small _ _ _ hz64]
        refine ⟨rfl, ⟨h0, _, HZl.out, by rw [hlen, hrest]; exact List.take_left, ?_⟩, (hchg.trans hchg2).setCell (.inl (by simp)) _⟩
        rw [hlen, ← hst, ← Hfin.out]
        exact Hd4.out
end Go.Proofs.YtknoomndofnnmaaDoor
