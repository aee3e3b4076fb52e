/- The reference: a block of SHA-256. -/
import Derived.Test.YtknoomndofnnmaaDoorYSpecA
namespace Go.Proofs.YtknoomndofnnmaaDoor
open Go Go.RowKit

def S8.ws (s : S8) : List UInt32 := [s.a, s.b, s.c, s.d, s.e, s.f, s.g, s.h]
theorem S8.ws_length (s : S8) : s.ws.length = 8 := rfl

theorem hy_rnd (t : S8) (k w : UInt32) (X0 X4 : Int) (h0 : X0 = ((rnd t k w).a.toNat : Int)) (h4 : X4 = ((rnd t k w).e.toNat : Int)) :
    Value.agg #[.int .u32 X0, .int .u32 (t.a.toNat : Int), .int .u32 (t.b.toNat : Int), .int .u32 (t.c.toNat : Int), .int .u32 X4, .int .u32 (t.e.toNat : Int), .int .u32 (t.f.toNat : Int), .int .u32 (t.g.toNat : Int)] = .agg (wrow (rnd t k w).ws).toArray := by
  subst h0 h4
  rfl
theorem add_val (a b : UInt32) : ((a.toNat : Int) + (b.toNat : Int)) % 4294967296 = ((a + b).toNat : Int) := by
  rw [UInt32.toNat_add]; omega
theorem add_cur (s t : S8) (n : Nat) (h : n < 8) : gw ((s.add t).ws.take n ++ s.ws.drop n) n = gw s.ws n := by
  unfold gw
  rw [List.getD_eq_getElem?_getD, List.getD_eq_getElem?_getD, List.getElem?_append_right (by simp [S8.ws_length]; omega)]
  simp [S8.ws_length, Nat.min_eq_left (show n ≤ 8 by omega)]
theorem add_step (s t : S8) (n : Nat) (h : n < 8) : ((s.add t).ws.take n ++ s.ws.drop n).set n (gw s.ws n + gw t.ws n) = (s.add t).ws.take (n + 1) ++ s.ws.drop (n + 1) := by
  have h8 : n = 0 ∨ n = 1 ∨ n = 2 ∨ n = 3 ∨ n = 4 ∨ n = 5 ∨ n = 6 ∨ n = 7 := by omega
  rcases h8 with rfl | rfl | rfl | rfl | rfl | rfl | rfl | rfl <;> rfl
/-- The memory of the reference's block walk. -/
structure BlkMem (s0 t : S8) (W : List UInt32) (g0 g1 g2 g3 g4 : Nat) (w w' : World) : Prop where
  r0 : w'.heap[g0]? = some (.cells (wrow s0.ws).toArray 75 (0, 0))
  r1 : w'.heap[g1]? = some (.cells (wrow (List.replicate 8 0)).toArray 75 (0, 0))
  r2 : w'.heap[g2]? = some (.cells (wrow W).toArray 109 (0, 0))
  r3 : w'.heap[g3]? = some (.cells (wrow K0).toArray 109 (0, 0))
  r4 : w'.heap[g4]? = some (.cells (wrow t.ws).toArray 75 (0, 0))
  chg : Chg [] w w'
theorem BlkMem.drewN {s0 t : S8} {W : List UInt32} {g0 g1 g2 g3 g4 : Nat} {w w' : World} (h : BlkMem s0 t W g0 g1 g2 g3 g4 w w') (n : Nat) : BlkMem s0 t W g0 g1 g2 g3 g4 w (w'.drewN n) := ⟨h.r0, h.r1, h.r2, h.r3, h.r4, h.chg.drewN n⟩

set_option maxRecDepth 100000 in
set_option maxHeartbeats 4000000 in
theorem spec_block (w : World) (s : S8) (v : Value) (p : Bs) (hl : p.length = 64) (hv : BS [] w v p) :
    Calls Tryd.prog 81 #[.agg (wrow s.ws).toArray, v] w fun e w' => e = .returned (.agg (wrow (shaBlk K0 s p).ws).toArray) ∧ Chg [] w w' := by
  obtain ⟨va, vc, rfl, hvc, hvm, -, hv⟩ := hv
  obtain ⟨b, off, rfl, -, hcell⟩ : ∃ b off, va = some ⟨b, off, none⟩ ∧ b ∉ ([] : List Nat) ∧ ∀ j, j < p.length → w.cell? ⟨b, off + j, none⟩ = some (.int .u8 ((gt p j).toNat : Int)) := by
    rcases hv with rfl | h
    · simp at hl
    · exact h
  go_enter Tryd.func81, Tryd.ntmps81
  go_upto_region 1 with fail
  refine gen_wp (fun w' => w'.heap[w.heap.size]? = some (.cells (wrow s.ws).toArray 75 (0, 0)) ∧ w'.heap[w.heap.size + 1]? = some (.cells (wrow (List.replicate 8 0)).toArray 75 (0, 0)) ∧ Chg [] w w') ⟨heap_alloc2_old w _ _, heap_alloc2_new w _ _, ((Chg.refl [] w).alloc _).alloc _⟩ (fun w1 h1 => ?_)
  obtain ⟨g0, hg0⟩ : ∃ g, g = w.heap.size := ⟨_, rfl⟩
  obtain ⟨g1, hg1⟩ : ∃ g, g = w.heap.size + 1 := ⟨_, rfl⟩
  rw [← hg1, ← hg0] at h1
  rw [← hg1, ← hg0]
  have h01 : g0 ≠ g1 := by omega
  have hs0 : w.heap.size ≤ g0 := by omega
  have hs1 : w.heap.size ≤ g1 := by omega
  clear hg0 hg1
  have hl1 := blk_lt h1.2.1
  have hl0 := blk_lt h1.1
  obtain ⟨g2, hg2⟩ : ∃ g, g = w1.heap.size := ⟨_, rfl⟩
  have hgw : g2 = w1.heap.size := hg2
  have Hg2 := Lib.hid hgw
  clear hgw
  go_wp2_with (refine store_row rfl 109 (.tmp 5) (.tmp 19) rfl w1.heap.size rfl (cs := wrow (List.replicate 64 0)) rfl (heap_alloc_new w1 _) size64w (by simp [wrow]) rfl (wrow_one _) ?_; intro w2 hrow hchg)
  rw [← hg2] at hrow hchg ⊢
  have n0 : g0 ≠ g2 := by omega
  have n1 : g1 ≠ g2 := by omega
  have hs2 : w.heap.size ≤ g2 := by have := h1.2.2.size; omega
  clear hg2
  have h2 : w2.heap[g0]? = some (.cells (wrow s.ws).toArray 75 (0, 0)) ∧ w2.heap[g1]? = some (.cells (wrow (List.replicate 8 0)).toArray 75 (0, 0)) ∧ w2.heap[g2]? = some (.cells (wrow (List.replicate 64 0)).toArray 109 (0, 0)) ∧ Chg [] w w2 :=
    ⟨hchg.row (blk_alloc h1.1 _) (by simpa using n0), hchg.row (blk_alloc h1.2.1 _) (by simpa using n1), hrow, (h1.2.2.alloc _).and hchg (by simp; omega)⟩
  clear h1 hl1 hl0 hrow hchg
  go_loopw [20] (fun i wr => ∃ (n : Nat) (W : List UInt32), n ≤ 16 ∧ i = .int .i64 (n : Int) ∧ W.length = 64 ∧ Hid (W.take n = schedN p n) ∧ wr.heap[g0]? = some (.cells (wrow s.ws).toArray 75 (0, 0)) ∧ wr.heap[g1]? = some (.cells (wrow (List.replicate 8 0)).toArray 75 (0, 0)) ∧ wr.heap[g2]? = some (.cells (wrow W).toArray 109 (0, 0)) ∧ Chg [] w wr) (fun i _ => 16 - (intOf i).toNat)
  case atStart => exact ⟨0, List.replicate 64 0, by omega, rfl, by simp, Lib.hid rfl, h2⟩
  case round =>
    obtain ⟨n, W, hn, rfl, hW, hsch, hr0, hr1, hr2, hchg⟩ := hrel
    clear h2
    by_cases hn16 : n < 16
    · as_aux_lemma =>
        have hlt' : decide ((n : Int) < 16) = true := decide_eq_true (by omega)
        have fg := fun j => blk_frozen hr2 j
        have cg := (blk_cell hr2 n).trans (wv_cell W n (by omega))
        have c0 := hchg.cell (hcell (4 * n) (by omega)) (by simp)
        have c1 := hchg.cell (hcell (4 * n + 1) (by omega)) (by simp)
        have c2 := hchg.cell (hcell (4 * n + 2) (by omega)) (by simp)
        have c3 := hchg.cell (hcell (4 * n + 3) (by omega)) (by simp)
        have b0 : ((gt p (4 * n)).toNat : Int) < 256 := by have := (gt p (4 * n)).toNat_lt; omega
        have b1 : ((gt p (4 * n + 1)).toNat : Int) < 256 := by have := (gt p (4 * n + 1)).toNat_lt; omega
        have b2 : ((gt p (4 * n + 2)).toNat : Int) < 256 := by have := (gt p (4 * n + 2)).toNat_lt; omega
        have b3 : ((gt p (4 * n + 3)).toNat : Int) < 256 := by have := (gt p (4 * n + 3)).toNat_lt; omega
        go_wp2
        refine region_tail 35 (by kernel_rfl) (by kernel_rfl) ?_
        simp only [List.take_succ_cons, List.take_zero, List.drop_succ_cons, List.drop_zero]
        repeat ((first | refine still_one rfl ?_ | refine still_one2 rfl ?_); go_wp2; refine Held1.mk ?_)
        refine wpStill_nil ?_
        go_wp2
        go_roundw
        case measure => simp [intOf]; omega
        case rel =>
          have e : nextW p (schedN p n) = be32 p (4 * n) := by unfold nextW; rw [schedN_length, if_pos hn16]
          have hs := sched_set p W n hW (by omega) hsch.out
          rw [e] at hs
          refine ⟨n + 1, _, by omega, by go_num, by simpa using hW, Lib.hid hs, blk_setOther hr0 n0 _, blk_setOther hr1 n1 _, ?_, (hchg.setCell (.inr hs2) _).drew⟩
          rw [byte_val]
          unfold be32
          exact blk_drew (blk_wset hr2 _)
    · obtain rfl : n = 16 := by omega
      go_wp2
      go_loopw [7] (fun i wr => ∃ (n : Nat) (W : List UInt32), n ≤ 64 ∧ i = .int .i64 (n : Int) ∧ 16 ≤ n ∧ W.length = 64 ∧ Hid (W.take n = schedN p n) ∧ wr.heap[g0]? = some (.cells (wrow s.ws).toArray 75 (0, 0)) ∧ wr.heap[g1]? = some (.cells (wrow (List.replicate 8 0)).toArray 75 (0, 0)) ∧ wr.heap[g2]? = some (.cells (wrow W).toArray 109 (0, 0)) ∧ Chg [] w wr) (fun i _ => 64 - (intOf i).toNat)
      case atStart => exact ⟨16, W, by omega, rfl, by omega, hW, hsch, hr0, hr1, hr2, hchg⟩
      case round =>
        clear hsch hW hr0 hr1 hr2 hchg
        obtain ⟨n, W, hn, rfl, hn16, hW, hsch, hr0, hr1, hr2, hchg⟩ := hrel
        by_cases hn64 : n < 64
        · as_aux_lemma =>
            have hlt' : decide ((n : Int) < 64) = true := decide_eq_true (by omega)
            have c1 := (blk_cell hr2 (n - 15)).trans (wv_cell W (n - 15) (by omega))
            go_wp2
            go_quiet ((go_at_call 101; exact Calls.quiet_of (turn_any _ _ _ (by omega))))
            go_upto_region 11 with fail
            refine gen_wp (fun w' => w'.heap[g0]? = some (.cells (wrow s.ws).toArray 75 (0, 0)) ∧ w'.heap[g1]? = some (.cells (wrow (List.replicate 8 0)).toArray 75 (0, 0)) ∧ w'.heap[g2]? = some (.cells (wrow W).toArray 109 (0, 0)) ∧ Chg [] w w') ⟨hr0, hr1, hr2, hchg.drewN _⟩ (fun wx hx => ?_)
            clear c1 hr0 hr1 hr2 hchg
            obtain ⟨hr0, hr1, hr2, hchg⟩ := hx
            have c0 := (blk_cell hr2 (n - 2)).trans (wv_cell W (n - 2) (by omega))
            go_wp2
            go_quiet ((go_at_call 101; exact Calls.quiet_of (turn_any _ _ _ (by omega))))
            go_upto_region 12 with fail
            refine gen_wp (fun w' => w'.heap[g0]? = some (.cells (wrow s.ws).toArray 75 (0, 0)) ∧ w'.heap[g1]? = some (.cells (wrow (List.replicate 8 0)).toArray 75 (0, 0)) ∧ w'.heap[g2]? = some (.cells (wrow W).toArray 109 (0, 0)) ∧ Chg [] w w') ⟨hr0, hr1, hr2, hchg.drewN _⟩ (fun wy hx => ?_)
            clear c0 hr0 hr1 hr2 hchg
            obtain ⟨hr0, hr1, hr2, hchg⟩ := hx
            have fg := fun j => blk_frozen hr2 j
            have cg := (blk_cell hr2 n).trans (wv_cell W n (by omega))
            have c2 := (blk_cell hr2 (n - 7)).trans (wv_cell W (n - 7) (by omega))
            have c3 := (blk_cell hr2 (n - 16)).trans (wv_cell W (n - 16) (by omega))
            go_wp2
            refine region_tail 15 (by kernel_rfl) (by kernel_rfl) ?_
            simp only [List.take_succ_cons, List.take_zero, List.drop_succ_cons, List.drop_zero]
            repeat ((first | refine still_one rfl ?_ | refine still_one2 rfl ?_); go_wp2; refine Held1.mk ?_)
            refine wpStill_nil ?_
            go_wp2
            go_roundw
            case measure => simp [intOf]; omega
            case rel =>
              have e : nextW p (schedN p n) = sg1 (gw W (n - 2)) + gw W (n - 7) + sg0 (gw W (n - 15)) + gw W (n - 16) := by
                unfold nextW
                rw [schedN_length, if_neg (by omega), sched_old p W n _ (by omega) hsch.out, sched_old p W n _ (by omega) hsch.out, sched_old p W n _ (by omega) hsch.out, sched_old p W n _ (by omega) hsch.out]
              have hs := sched_set p W n hW (by omega) hsch.out
              rw [e] at hs
              refine ⟨n + 1, _, by omega, by go_num, by omega, by simpa using hW, Lib.hid hs, blk_setOther hr0 n0 _, blk_setOther hr1 n1 _, ?_, (hchg.setCell (.inr hs2) _).drew⟩
              rw [sched_val]
              exact blk_drew (blk_wset hr2 _)
        · obtain rfl : n = 64 := by omega
          have hWW : W = schedN p 64 := by rw [← hsch.out, ← hW, List.take_length]
          have HWW := Lib.hid hWW
          have l0 := blk_lt hr0
          have l1 := blk_lt hr1
          have l2 := blk_lt hr2
          clear hsch hWW
          go_upto_region 14 with (first | (go_at_call 102; refine (spec_constants _).mono ?_; rintro e w3 ⟨rfl, hc3⟩) | (refine store_row rfl 109 (.tmp 10) (.tmp 112) rfl w3.heap.size rfl (cs := wrow K0) rfl (heap_alloc_new w3 _) size64w (by rw [wrow_length, K0_length]) rfl (wrow_one _) ?_; intro w4 hrow4 hchg4))
          obtain ⟨g3, hg3⟩ : ∃ g, g = w3.heap.size := ⟨_, rfl⟩
          rw [← hg3] at hrow4 hchg4 ⊢
          have d3 := hc3.size
          have n03 : g0 ≠ g3 := by omega
          have n13 : g1 ≠ g3 := by omega
          have n23 : g2 ≠ g3 := by omega
          have hs3 : w.heap.size ≤ g3 := by omega
          clear hg3
          have k0 := hchg4.row (blk_alloc (hc3.row hr0 (by simp)) _) (by simpa using n03)
          have k1 := hchg4.row (blk_alloc (hc3.row hr1 (by simp)) _) (by simpa using n13)
          have k2 := hchg4.row (blk_alloc (hc3.row hr2 (by simp)) _) (by simpa using n23)
          have kc : Chg [] w w4 := ((hchg.trans hc3).alloc _).and hchg4 (by simp; omega)
          clear hr0 hr1 hr2 hchg hc3 hchg4
          go_wp2_with (first | (refine load_row rfl 75 (.tmp 2) rfl g0 rfl k0 Tryd.underlying75 rfl size8w rfl ?_) | (refine store_row rfl 75 (.tmp 11) (.tmp 113) rfl w4.heap.size rfl (cs := wrow s.ws) rfl (heap_alloc_new w4 _) size8w rfl rfl (wrow_one _) ?_; intro w5 hrow5 hchg5))
          obtain ⟨g4, hg4⟩ : ∃ g, g = w4.heap.size := ⟨_, rfl⟩
          rw [← hg4] at hrow5 hchg5 ⊢
          have l3 := blk_lt hrow4
          have l4 := hchg5.size
          have d5 := kc.size
          have d6 := blk_lt k0
          have d7 := blk_lt k1
          have d8 := blk_lt k2
          have n04 : g0 ≠ g4 := by omega
          have n14 : g1 ≠ g4 := by omega
          have n24 : g2 ≠ g4 := by omega
          have n34 : g3 ≠ g4 := by omega
          have hs4 : w.heap.size ≤ g4 := by omega
          clear hg4
          have m5 : BlkMem s (rnds K0 W 0 s) W g0 g1 g2 g3 g4 w w5 := ⟨hchg5.row (blk_alloc k0 _) (by simpa using n04), hchg5.row (blk_alloc k1 _) (by simpa using n14), hchg5.row (blk_alloc k2 _) (by simpa using n24), hchg5.row (blk_alloc hrow4 _) (by simpa using n34), hrow5, (kc.alloc _).and hchg5 (by simp; omega)⟩
          clear k0 k1 k2 kc hrow4 hrow5 hchg5 l0 l1 l2 l3 l4 d3 d5 d6 d7 d8
          go_loopw [114] (fun i wr => ∃ n : Nat, n ≤ 64 ∧ i = .int .i64 (n : Int) ∧ BlkMem s (rnds K0 W n s) W g0 g1 g2 g3 g4 w wr) (fun i _ => 64 - (intOf i).toNat)
          case atStart => exact ⟨0, by omega, rfl, m5⟩
          case round =>
            obtain ⟨n, hn, rfl, m⟩ := hrel
            clear m5
            by_cases hn64 : n < 64
            · skip
              · have hlt' : decide ((n : Int) < 64) = true := decide_eq_true (by omega)
                obtain ⟨t, ht⟩ : ∃ t, t = rnds K0 W n s := ⟨_, rfl⟩
                rw [← ht] at m
                have Ht := Lib.hid ht
                clear ht
                have c4 : wr.cell? ⟨g4, 4, none⟩ = some (.int .u32 (t.e.toNat : Int)) := blk_cell m.r4 4
                go_wp2
                go_quiet ((go_at_call 101; exact Calls.quiet_of (turn_any _ _ _ (by omega))))
                go_upto_region 19 with fail
                refine gen_wp (fun w' => BlkMem s t W g0 g1 g2 g3 g4 w w') (m.drewN _) (fun wa ma => ?_)
                clear m c4
                have c4 : wa.cell? ⟨g4, 4, none⟩ = some (.int .u32 (t.e.toNat : Int)) := blk_cell ma.r4 4
                have c5 : wa.cell? ⟨g4, 5, none⟩ = some (.int .u32 (t.f.toNat : Int)) := blk_cell ma.r4 5
                have c6 : wa.cell? ⟨g4, 6, none⟩ = some (.int .u32 (t.g.toNat : Int)) := blk_cell ma.r4 6
                have c7 : wa.cell? ⟨g4, 7, none⟩ = some (.int .u32 (t.h.toNat : Int)) := blk_cell ma.r4 7
                have ck := (blk_cell ma.r3 n).trans (wv_cell K0 n (by rw [K0_length]; omega))
                have cw := (blk_cell ma.r2 n).trans (wv_cell W n (by omega))
                go_wp2
                go_quiet (fail)
                go_upto_region 21 with fail
                refine gen_wp (fun w' => BlkMem s t W g0 g1 g2 g3 g4 w w') (ma.drewN _) (fun wb mb => ?_)
                clear ma c4 c5 c6 c7 ck cw
                have c0 : wb.cell? ⟨g4, 0, none⟩ = some (.int .u32 (t.a.toNat : Int)) := blk_cell mb.r4 0
                go_quiet ((go_at_call 101; exact Calls.quiet_of (turn_any _ _ _ (by omega))))
                go_upto_region 22 with fail
                refine gen_wp (fun w' => BlkMem s t W g0 g1 g2 g3 g4 w w') (mb.drewN _) (fun wc mc => ?_)
                clear mb c0
                have c0 : wc.cell? ⟨g4, 0, none⟩ = some (.int .u32 (t.a.toNat : Int)) := blk_cell mc.r4 0
                have c1 : wc.cell? ⟨g4, 1, none⟩ = some (.int .u32 (t.b.toNat : Int)) := blk_cell mc.r4 1
                have c2 : wc.cell? ⟨g4, 2, none⟩ = some (.int .u32 (t.c.toNat : Int)) := blk_cell mc.r4 2
                have c3 : wc.cell? ⟨g4, 3, none⟩ = some (.int .u32 (t.d.toNat : Int)) := blk_cell mc.r4 3
                have c4 : wc.cell? ⟨g4, 4, none⟩ = some (.int .u32 (t.e.toNat : Int)) := blk_cell mc.r4 4
                have c5 : wc.cell? ⟨g4, 5, none⟩ = some (.int .u32 (t.f.toNat : Int)) := blk_cell mc.r4 5
                have c6 : wc.cell? ⟨g4, 6, none⟩ = some (.int .u32 (t.g.toNat : Int)) := blk_cell mc.r4 6
                go_wp2_with (refine store_row rfl 75 (.tmp 11) (.tmp 203) rfl g4 rfl (cs := wrow (rnd t (gw K0 n) (gw W n)).ws) ?_ mc.r4 size8w rfl rfl (wrow_one _) ?_)
                · refine hy_rnd t _ _ _ _ ?_ ?_
                  · rw [u32_not']
                    simp only [u32_xor', u32_and']
                    show _ = ((rnd1 t (gw K0 n) (gw W n) + (bs0 t.a + majF t.a t.b t.c)).toNat : Int)
                    unfold rnd1 bs1 bs0 chF majF
                    simp only [UInt32.toNat_add]
                    omega
                  · exact round_e t _ _
                · intro w6 hr6 hc6
                  go_wp2
                  go_roundw
                  case measure => simp [intOf]; omega
                  case rel =>
                    refine ⟨n + 1, by omega, by go_num, hc6.row mc.r0 (by simpa using n04), hc6.row mc.r1 (by simpa using n14), hc6.row mc.r2 (by simpa using n24), hc6.row mc.r3 (by simpa using n34), ?_, mc.chg.and hc6 (by simp; omega)⟩
                    have e : rnds K0 W (n + 1) s = rnd t (gw K0 n) (gw W n) := by rw [Ht.out]; rfl
                    rw [e]
                    exact hr6
            · obtain rfl : n = 64 := by omega
              obtain ⟨t, ht⟩ : ∃ t, t = rnds K0 W 64 s := ⟨_, rfl⟩
              rw [← ht] at m
              have Ht := Lib.hid ht
              clear ht
              have hf : shaBlk K0 s p = s.add t := by rw [Ht.out, HWW.out]; rfl
              have HF := Lib.hid hf
              clear hf
              go_wp2
              go_loopw [205] (fun i wr => ∃ n : Nat, n ≤ 8 ∧ i = .int .i64 (n : Int) ∧ wr.heap[g0]? = some (.cells (wrow ((s.add t).ws.take n ++ s.ws.drop n)).toArray 75 (0, 0)) ∧ wr.heap[g1]? = some (.cells (wrow (List.replicate 8 0)).toArray 75 (0, 0)) ∧ wr.heap[g4]? = some (.cells (wrow t.ws).toArray 75 (0, 0)) ∧ Chg [] w wr) (fun i _ => 8 - (intOf i).toNat)
              case atStart => exact ⟨0, by omega, rfl, m.r0, m.r1, m.r4, m.chg⟩
              case round =>
                obtain ⟨n, hn, rfl, r0, r1, r4, hchg⟩ := hrel
                clear m
                have n01 := h01
                by_cases hlt : n < 8
                · as_aux_lemma =>
                    have hlt' : decide ((n : Int) < 8) = true := decide_eq_true (by omega)
                    have f0 := fun j => blk_frozen r0 j
                    have hcur : ((s.add t).ws.take n ++ s.ws.drop n).length = 8 := by simp [S8.ws_length]; omega
                    have c0 := (blk_cell r0 n).trans (wv_cell _ n (by omega))
                    rw [add_cur s t n hlt] at c0
                    have c4 := (blk_cell r4 n).trans (wv_cell t.ws n (by rw [S8.ws_length]; omega))
                    have Hcur := Lib.hid hcur
                    clear hcur
                    go_wp2
                    refine region_tail 8 (by kernel_rfl) (by kernel_rfl) ?_
                    simp only [List.take_succ_cons, List.take_zero, List.drop_succ_cons, List.drop_zero]
                    repeat ((first | refine still_one rfl ?_ | refine still_one2 rfl ?_); go_wp2; refine Held1.mk ?_)
                    refine wpStill_nil ?_
                    go_wp2
                    go_roundw
                    case measure => simp [intOf]; omega
                    case rel =>
                      refine ⟨n + 1, by omega, by go_num, ?_, blk_setOther r1 (Ne.symm n01) _, blk_setOther r4 (Ne.symm n04) _, (hchg.setCell (.inr hs0) _).drew⟩
                      rw [add_val]
                      have e := blk_wset (i := n) r0 (gw s.ws n + gw t.ws n)
                      rw [add_step s t n hlt] at e
                      exact blk_drew e
                · as_aux_lemma =>
                    obtain rfl : n = 8 := by omega
                    have hfin : (s.add t).ws.take 8 ++ s.ws.drop 8 = (s.add t).ws := by simp [S8.ws]
                    rw [hfin] at r0
                    clear hfin
                    go_wp2_with (first | (refine load_row rfl 75 (.tmp 2) rfl g0 rfl r0 Tryd.underlying75 rfl size8w rfl ?_) | (refine store_row rfl 75 (.tmp 4) (.tmp 217) rfl g1 rfl (cs := wrow (s.add t).ws) rfl r1 size8w rfl rfl (wrow_one _) ?_; intro w7 hr7 hc7))
                    rw [HF.out]
                    refine bodyPost_ret (results_cell_row rfl _ _ g1 75 _ (0, 0) _ rfl hr7 Tryd.underlying75 rfl (size_at size8w rfl)) rfl ⟨rfl, hchg.and hc7 (by simp; omega)⟩
end Go.Proofs.YtknoomndofnnmaaDoor
