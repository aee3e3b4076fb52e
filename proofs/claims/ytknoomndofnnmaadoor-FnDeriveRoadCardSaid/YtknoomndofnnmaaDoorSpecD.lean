/- The reference: sizes of a hash; its own hash of bytes. -/
import Derived.Test.YtknoomndofnnmaaDoorKit
namespace Go.Proofs.YtknoomndofnnmaaDoor
open Go Go.RowKit

set_option maxRecDepth 100000 in
set_option maxHeartbeats 1000000 in
theorem spec_sizes (w : World) (kd sz bk : Int) :
    Calls Tryd.prog 50 #[hV kd sz bk] w fun e w' => e = .returned (.tuple #[.int .i64 (kSz kd sz bk : Nat), .int .i64 (kBk kd sz bk : Nat)]) ∧ Chg [] w w' := by
  by_cases hk : kd = 1
  · subst hk
    go_enter Tryd.func50, Tryd.ntmps50
    go_wp2
    go_ret2
    exact ⟨rfl, (Chg.refl [] w).alloc _⟩
  · rw [kSz_own hk, kBk_own hk]
    by_cases hb : sz < 1 ∨ 16 < sz ∨ bk < sz ∨ 32 < bk
    · have e1 : ownSz sz bk = 1 := if_pos hb
      have e2 : ownBk sz bk = 16 := if_pos hb
      rw [e1, e2]
      clear e1 e2
      have hb' : sz < 1 ∨ (1 ≤ sz ∧ 16 < sz) ∨ (1 ≤ sz ∧ sz ≤ 16 ∧ bk < sz) ∨ (1 ≤ sz ∧ sz ≤ 16 ∧ sz ≤ bk ∧ 32 < bk) := by omega
      clear hb
      rcases hb' with hb | ⟨ha, hb⟩ | ⟨ha, hc, hb⟩ | ⟨ha, hc, hd, hb⟩
      · go_enter Tryd.func50, Tryd.ntmps50
        go_wp2
        go_ret2
        exact ⟨rfl, (Chg.refl [] w).alloc _⟩
      · have h1 : ¬ sz < 1 := by omega
        go_enter Tryd.func50, Tryd.ntmps50
        go_wp2
        go_ret2
        exact ⟨rfl, (Chg.refl [] w).alloc _⟩
      · have h1 : ¬ sz < 1 := by omega
        have h2 : ¬ 16 < sz := by omega
        go_enter Tryd.func50, Tryd.ntmps50
        go_wp2
        go_ret2
        exact ⟨rfl, (Chg.refl [] w).alloc _⟩
      · have h1 : ¬ sz < 1 := by omega
        have h2 : ¬ 16 < sz := by omega
        have h3 : ¬ bk < sz := by omega
        go_enter Tryd.func50, Tryd.ntmps50
        go_wp2
        go_ret2
        exact ⟨rfl, (Chg.refl [] w).alloc _⟩
    · have e1 : ownSz sz bk = sz.toNat := if_neg hb
      have e2 : ownBk sz bk = bk.toNat := if_neg hb
      rw [e1, e2]
      clear e1 e2
      obtain ⟨z, rfl⟩ := Int.eq_ofNat_of_zero_le (show 0 ≤ sz by omega)
      obtain ⟨k, rfl⟩ := Int.eq_ofNat_of_zero_le (show 0 ≤ bk by omega)
      simp only [Int.toNat_natCast]
      have h1 : ¬ (z : Int) < 1 := by omega
      have h2 : ¬ (16 : Int) < (z : Int) := by omega
      have h3 : ¬ (k : Int) < (z : Int) := by omega
      have h4 : ¬ (32 : Int) < (k : Int) := by omega
      clear hb
      go_enter Tryd.func50, Tryd.ntmps50
      go_wp2
      go_quiet (fail)
      go_wp2
      go_ret2
      exact ⟨rfl, ((Chg.refl [] w).alloc _).drewN _⟩
theorem spec_size (w : World) (kd sz bk : Int) : Calls Tryd.prog 20 #[hV kd sz bk] w fun e w' => e = .returned (.int .i64 (kSz kd sz bk : Nat)) ∧ Chg [] w w' := by
  have h0 := ld_hV (heap_alloc_new w (hObj kd sz bk))
  go_enter Tryd.func20, Tryd.ntmps20
  go_wp2_with (go_at_call 50; refine (spec_sizes _ kd sz bk).mono ?_; rintro e w' ⟨rfl, hc⟩)
  go_ret
  exact ⟨rfl, ((Chg.refl [] w).alloc _).trans hc⟩
theorem spec_blockSz (w : World) (kd sz bk : Int) : Calls Tryd.prog 118 #[hV kd sz bk] w fun e w' => e = .returned (.int .i64 (kBk kd sz bk : Nat)) ∧ Chg [] w w' := by
  have h0 := ld_hV (heap_alloc_new w (hObj kd sz bk))
  go_enter Tryd.func118, Tryd.ntmps118
  go_wp2_with (go_at_call 50; refine (spec_sizes _ kd sz bk).mono ?_; rintro e w' ⟨rfl, hc⟩)
  go_ret
  exact ⟨rfl, ((Chg.refl [] w).alloc _).trans hc⟩

set_option maxRecDepth 100000 in
set_option maxHeartbeats 2000000 in
theorem spec_hash_own (w : World) (kd sz bk : Int) (hk : ¬ kd = 1) (v : Value) (d : Bs) (hd : d.length ≤ 1000000) (hv : BS [] w v d) :
    Calls Tryd.prog 19 #[hV kd sz bk, v] w (Gives w (ownSum (ownSz sz bk) d)) := by
  have h0 := ld_hV (heap_alloc_new w (hObj kd sz bk))
  have e1 := kSz_own (sz := sz) (bk := bk) hk
  have hr := own_range sz bk
  obtain ⟨n, hn⟩ : ∃ n, n = ownSz sz bk := ⟨_, rfl⟩
  rw [← hn] at e1 hr ⊢
  have h1 := hr.1
  have h16 := hr.2.1
  clear hn hr
  have hmk := mk_bytes n (by omega)
  obtain ⟨a, cap, rfl, -, -, -, hcell⟩ := hv
  go_enter Tryd.func19, Tryd.ntmps19
  go_upto_region 4 with (go_at_call 50; refine (spec_sizes _ kd sz bk).mono ?_; rintro e w1 ⟨rfl, hc⟩)
  have hc1 : Chg [] w w1 := ((Chg.refl [] w).alloc _).trans hc
  clear hc h0 e1
  go_upto_region 5 with fail
  obtain ⟨s, hs⟩ : ∃ s, s = w1.heap.size := ⟨_, rfl⟩
  rw [← hs]
  have hws : w.heap.size ≤ s := by have := hc1.size; omega
  refine gen_wp (fun w' => w'.heap[s]? = some (.cells (brow (List.replicate n 0)).toArray 5 (0, 0)) ∧ Chg [] w w') ⟨hs ▸ heap_alloc_new w1 _, hc1.alloc _⟩ (fun w2 hw2 => ?_)
  obtain ⟨hr2, hc2⟩ := hw2
  clear hc1 hs
  go_wp2
  go_loopw [27] (fun i wr => ∃ k : Nat, k ≤ n ∧ i = .int .i64 k ∧ wr.heap[s]? = some (.cells (brow ((List.range k).map UInt8.ofNat ++ (List.replicate n 0).drop k)).toArray 5 (0, 0)) ∧ Chg [] w wr) (fun i _ => n - (intOf i).toNat)
  case atStart => exact ⟨0, by omega, rfl, by simpa using hr2, hc2⟩
  case round =>
    obtain ⟨k, hk', rfl, hs', hchg⟩ := hrel
    clear hr2 hc2
    by_cases hlt : k < n
    · have fs := fun j => blk_frozen hs' j
      have cs := (blk_cell hs' k).trans (bv_cell _ k (by simp; omega))
      have hdd : decide ((k : Int) < (n : Int)) = true := by simpa using hlt
      go_wp2
      go_roundw
      case rel =>
        refine ⟨k + 1, by omega, by go_num, ?_, hchg.setCell (.inr hws) _⟩
        have := blk_bset hs' (i := k) (UInt8.ofNat k)
        rw [ownInit_step n k _ (by simp) hlt, ← bv, ← u8_nat k (by omega)] at this
        exact this
      case measure => simp [intOf]; omega
    · obtain rfl : k = n := by omega
      have hini : (List.range k).map UInt8.ofNat ++ (List.replicate k (0 : UInt8)).drop k = ownState k (d.take 0) := by simp [ownState, ownFrom, ownInit]
      rw [hini] at hs'
      clear hini
      go_wp2
      go_loopw [38] (fun i wr => ∃ j : Nat, j ≤ d.length ∧ i = .int .i64 j ∧ wr.heap[s]? = some (.cells (brow (ownState k (d.take j))).toArray 5 (0, 0)) ∧ Chg [] w wr) (fun i _ => d.length - (intOf i).toNat)
      case atStart => exact ⟨0, by omega, rfl, hs', hchg⟩
      case round =>
        clear hs' hchg
        obtain ⟨j, hj, rfl, hs', hchg⟩ := hrel
        obtain ⟨st, hst⟩ : ∃ st, st = ownState k (d.take j) := ⟨_, rfl⟩
        have hl' : st.length = k := by rw [hst, ownState_length]
        rw [← hst] at hs'
        have Hst := Lib.hid hst
        clear hst
        by_cases hlt2 : j < d.length
        · rcases hcell with rfl | ⟨b, off, rfl, hbn, hc⟩
          · simp at hlt2
          · have cx := hchg.cell (hc j hlt2) hbn
            have hdd : decide ((j : Int) < (d.length : Int)) = true := by simpa using hlt2
            have hm : j % k < k := Nat.mod_lt _ (by omega)
            have hm2 : (j + 1) % k < k := Nat.mod_lt _ (by omega)
            have fs := fun j => blk_frozen hs' j
            have cs := (blk_cell hs' (j % k)).trans (bv_cell _ _ (by omega))
            go_upto_region 15 with fail
            refine gen_wp (fun w' => w'.heap[s]? = some (.cells (brow (ownMix k st j (gt d j))).toArray 5 (0, 0)) ∧ Chg [] w w') ?_ (fun w3 h3 => ?_)
            · refine ⟨?_, hchg.setCell (.inr hws) _⟩
              rw [u8_own]
              exact blk_bset hs' _
            obtain ⟨hs3, hchg3⟩ := h3
            obtain ⟨st1, hst1⟩ : ∃ st1, st1 = ownMix k st j (gt d j) := ⟨_, rfl⟩
            rw [← hst1] at hs3
            have hl1 : st1.length = k := by rw [hst1, ownMix_length]; exact hl'
            have Hst1 := Lib.hid hst1
            clear fs cs hst1 cx hs' hchg
            have fs := fun j => blk_frozen hs3 j
            have cs := (blk_cell hs3 (j % k)).trans (bv_cell _ _ (by omega))
            have cs2 := (blk_cell hs3 ((j + 1) % k)).trans (bv_cell _ _ (by omega))
            have hi1 : (0 : Int) ≤ ((j : Int) + 1) % (k : Int) := Int.emod_nonneg _ (by omega)
            have hi2 : ((j : Int) + 1) % (k : Int) < (k : Int) := Int.emod_lt_of_pos _ (by omega)
            have hi3 : (((j : Int) + 1) % (k : Int)).toNat = (j + 1) % k := by rw [show ((j : Int) + 1) % (k : Int) = (((j + 1) % k : Nat) : Int) from by rw [Int.natCast_emod]; rfl, Int.toNat_natCast]
            go_wp2
            refine region_tail 13 (by kernel_rfl) (by kernel_rfl) ?_
            simp only [List.take_succ_cons, List.take_zero, List.drop_succ_cons, List.drop_zero]
            repeat ((first | refine still_one rfl ?_ | refine still_one2 rfl ?_); go_wp2; refine Held1.mk ?_)
            refine wpStill_nil ?_
            go_wp2
            go_roundw
            case rel =>
              refine ⟨j + 1, by omega, by go_num, ?_, (hchg3.setCell (.inr hws) _).drew⟩
              have hB : ownState k (d.take (j + 1)) = st1.set ((j + 1) % k) (gt st1 ((j + 1) % k) ^^^ gt st1 (j % k)) := by
                rw [List.take_succ_eq_append_getElem hlt2, ownState_snoc, ← Hst.out, Hst1.out, gt_eq d j hlt2]
                simp [Nat.min_eq_left (Nat.le_of_lt hlt2)]
                rfl
              rw [hB, u8_xor']
              exact blk_drew (blk_bset hs3 _)
            case measure => simp [intOf]; omega
        · obtain rfl : j = d.length := by omega
          clear hcell
          go_wp2
          go_loopw [75] (fun i wr => ∃ m : Nat, m ≤ k ∧ i = .int .i64 m ∧ wr.heap[s]? = some (.cells (brow ((st.take m).map (· + UInt8.ofNat d.length) ++ st.drop m)).toArray 5 (0, 0)) ∧ Chg [] w wr) (fun i _ => k - (intOf i).toNat)
          case atStart => exact ⟨0, by omega, rfl, by simpa using hs', hchg⟩
          case round =>
            clear hs' hchg
            obtain ⟨m, hm, rfl, hs', hchg⟩ := hrel
            by_cases hlt3 : m < k
            · have fs := fun j => blk_frozen hs' j
              have cs := (blk_cell hs' m).trans (bv_cell _ m (by simp; omega))
              rw [show gt ((st.take m).map (· + UInt8.ofNat d.length) ++ st.drop m) m = gt st m from by
                unfold gt
                rw [List.getD_eq_getElem?_getD, List.getD_eq_getElem?_getD, List.getElem?_append_right (by simp; omega)]
                simp [Nat.min_eq_left (show m ≤ st.length by omega)]] at cs
              have hdd : decide ((m : Int) < (k : Int)) = true := by simpa using hlt3
              go_wp2
              go_roundw
              case rel =>
                refine ⟨m + 1, by omega, by go_num, ?_, hchg.setCell (.inr hws) _⟩
                rw [u8_add]
                have := blk_bset hs' (i := m) (gt st m + UInt8.ofNat d.length)
                rw [ownSum_step m st _ (by omega)] at this
                exact this
              case measure => simp [intOf]; omega
            · obtain rfl : m = k := by omega
              go_wp2
              go_ret
              have e : st.take m = st := List.take_of_length_le (by omega)
              have e2 : st.drop m = [] := List.drop_of_length_le (by omega)
              have e3 : ownSum m d = st.map (· + UInt8.ofNat d.length) := by
                unfold ownSum
                rw [Hst.out, List.take_length]
              rw [e, e2, List.append_nil, ← e3] at hs'
              exact ⟨_, rfl, own_row hs' (by rw [ownSum_length]; omega) (by rw [ownSum_length]), hchg, fun g hg => by simp [Value.ownBlock] at hg; omega⟩
end Go.Proofs.YtknoomndofnnmaaDoor
