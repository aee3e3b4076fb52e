/- The law FnZeros, walked. -/
import Derived.Test.YtknoomndofnnmaaDoorYLawC
namespace Go.Proofs.YtknoomndofnnmaaDoor
open Go Go.RowKit

set_option maxRecDepth 100000 in
set_option maxHeartbeats 4000000 in
theorem law_FnZeros (w : World) (hK : KAt K0 w) (kd sz bk : Int) (v1 : Value) (x1 : Bs) (b1 : BS [] w v1 x1) (v2 : Value) (x2 : Bs) (b2 : BS [] w v2 x2) (v3 : Value) (x3 : Bs) (b3 : BS [] w v3 x3) :
    Calls Tryd.prog 4 #[hV kd sz bk, v1, v2, v3] w fun e w' => e = .returned (.bool true) ∧ Chg [] w w' := by
  obtain ⟨a1, c1, q1⟩ := b1.form
  obtain ⟨a2, c2, q2⟩ := b2.form
  obtain ⟨a3, c3, q3⟩ := b3.form
  subst q1 q2 q3
  have hc0 : Chg [] w (w.alloc (hObj kd sz bk)) := (Chg.refl [] w).alloc _
  by_cases g1 : (2147483647 : Int) < (x1.length : Int)
  · go_enter Tryd.func4, Tryd.ntmps4
    go_wp2
    go_ret
    exact ⟨rfl, hc0⟩
  by_cases g2 : (2147483647 : Int) < (x2.length : Int)
  · go_enter Tryd.func4, Tryd.ntmps4
    go_wp2
    go_ret
    exact ⟨rfl, hc0⟩
  by_cases g3 : (2147483647 : Int) < (x3.length : Int)
  · go_enter Tryd.func4, Tryd.ntmps4
    go_wp2
    go_ret
    exact ⟨rfl, hc0⟩
  go_enter Tryd.func4, Tryd.ntmps4
  go_upto_region 3 with fail
  obtain ⟨wB, hwB⟩ : ∃ wB, wB = w.alloc (hObj kd sz bk) := ⟨_, rfl⟩
  rw [← hwB] at hc0 ⊢
  have hrow : wB.heap[w.heap.size]? = some (hObj kd sz bk) := hwB ▸ heap_alloc_new w _
  have hKB := hK.chg hc0 (by simp)
  have bB1 := b1.keep hc0
  have bB2 := b2.keep hc0
  have bB3 := b3.keep hc0
  have ldh : ∀ W, Chg [] wB W → (Instr.loadAt 23 (.pointer (some ⟨w.heap.size, 0, none⟩))).run Tryd.prog W = .ok (hV kd sz bk) W := fun W h => ld_hV (h.row hrow (by simp))
  have hd0 : Chg [] wB wB.drew := (Chg.refl [] wB).drew
  have hok := HS_ok kd sz bk
  clear hwB b1 b2 b3 hK g1 g2 g3
  have hlong := long_n3 (W := (wB.alloc (.cells #[.slice a1 x1.length c1, .slice a2 x2.length c2, .slice a3 x3.length c3] 24))) x1.length x2.length x3.length (heap_alloc_new wB _)
  have hcA : Chg [] wB (wB.alloc (.cells #[.slice a1 x1.length c1, .slice a2 x2.length c2, .slice a3 x3.length c3] 24)) := (Chg.refl [] wB).alloc _
  have HL := Lib.hid hlong
  clear hlong ldh hd0
  go_upto_region 5 with (go_at_call 16; refine HL.out.mono ?_; rintro e w2 ⟨b, rfl, hb, hcL⟩; have hr2 := fun j => blk_cell ((hcA.trans hcL).row hrow (by simp)) j; cases b)
  all_goals try (go_ret; exact ⟨rfl, hc0.trans (hcA.trans hcL)⟩)
  have hl := hb (by first | rfl | trivial)
  have hB3 : Chg [] wB w2 := hcA.trans hcL
  clear hb HL hcA hcL hr2
  have ldh : ∀ W, Chg [] wB W → (Instr.loadAt 23 (.pointer (some ⟨w.heap.size, 0, none⟩))).run Tryd.prog W = .ok (hV kd sz bk) W := fun W h => ld_hV (h.row hrow (by simp))
  have hs32 := hok.sz32
  obtain ⟨z, hz⟩ : ∃ z, z = kSz kd sz bk := ⟨_, rfl⟩
  have hz32 : z ≤ 32 := by rw [hz, ← HS_sz]; exact hs32
  have HZ := Lib.hid hz
  clear hz hs32
  have hr3 := fun j => blk_cell (hB3.row hrow (by simp)) j
  have hmk := mk_bytes z (by omega)
  go_upto_region 6 with (go_at_call 20; refine (spec_size _ kd sz bk).mono ?_; rintro e3 w3 ⟨rfl, hc3⟩; rw [← HZ.out])
  obtain ⟨w4, hw4⟩ : ∃ w4, w4 = w3.alloc (.cells (brow (List.replicate z 0)).toArray 5) := ⟨_, rfl⟩
  have hB4 : Chg [] wB w4 := hw4 ▸ (hB3.trans hc3).alloc _
  have ez : zeros (HS kd sz bk) = List.replicate z 0 := by
    unfold zeros
    rw [HS_sz, HZ.out]
  have bz : BS [] w4 (.slice (some ⟨w3.heap.size, 0, none⟩) z z) (zeros (HS kd sz bk)) := by
    rw [ez, hw4]
    exact Own.bs (own_row (heap_alloc_new w3 _) (by simp; omega) (by simp)) (by simp)
  have hzl : (zeros (HS kd sz bk)).length ≤ 16384 := by rw [ez]; simp; omega
  refine gen_wp (fun w' => w' = w4) hw4.symm (fun wq hwq => ?_)
  subst hwq
  obtain ⟨sz3, hsz3⟩ : ∃ s3, s3 = w3.heap.size := ⟨_, rfl⟩
  rw [← hsz3] at bz ⊢
  clear hw4 hc3 hr3 hmk ez hsz3
  have hd0 := Chg.drew hB4
  have bz := BS.keep bz (Chg.drew (Chg.refl [] _))
  refine region_held (fun w' => Chg [] wB w') [(0, true), (1, true), (3, true), (4, true), (5, true), (2, false), (6, false), (7, true), (8, true)] (by kernel_rfl) (by kernel_rfl) hd0 ?_
  change wpPlan _ _ _ _ [(_, true), (_, true), (_, true), (_, true), (_, true), (_, false), (_, false), (_, true), (_, true)] _ _
  refine plan_loadG 23 _ ⟨w.heap.size, 0, none⟩ (hV kd sz bk) rfl rfl rfl ldh ?_
  refine plan_uniG (by kernel_rfl) rfl ?_
  go_wp2
  refine HeldU.mk ?_
  refine plan_loadG 23 _ ⟨w.heap.size, 0, none⟩ (hV kd sz bk) rfl rfl rfl ldh ?_
  refine plan_uniG (by kernel_rfl) rfl ?_
  go_wp2
  refine HeldU.mk ?_
  refine plan_uniG (by kernel_rfl) rfl ?_
  go_wp2
  refine HeldU.mk ?_
  refine plan_step ?_
  go_wp2_with (go_at_call 21; refine (impl_EarlyTraffic K0 _ (hKB.chg hd0 (by simp)) kd sz bk (.slice none 0 0) [] (by simp) (BS.nil _ _) _ x3 (by omega) (bB3.keep hd0)).mono ?_; rintro e1 w1 ⟨u1, rfl, f1⟩)
  have hq1 := Chg.trans hd0 f1.2.1
  have bz := BS.keep bz f1.2.1
  rw [hfK_K0] at f1
  obtain ⟨au1, cu1, eu1⟩ := f1.bs0.form
  rw [deriveF_length hok, HS_sz, ← HZ.out] at eu1
  subst eu1
  have bu1 := f1.bs0
  refine HeldN.mk hq1 ?_
  refine plan_step ?_
  go_wp2_with (go_at_call 22; refine (impl_ServerTraffic K0 _ (hKB.chg hq1 (by simp)) kd sz bk _ x1 (by omega) (bB1.keep hq1) (.slice none 0 0) [] (by simp) (BS.nil _ _) _ x3 (by omega) (bB3.keep hq1)).mono ?_; rintro e2 w2 ⟨u2, rfl, f2⟩)
  have hq2 := Chg.trans hq1 f2.2.1
  have bz := BS.keep bz f2.2.1
  have bu1 := BS.keep bu1 f2.2.1
  rw [hfK_K0] at f2
  obtain ⟨au2, cu2, eu2⟩ := f2.bs0.form
  rw [deriveF_length hok, HS_sz, ← HZ.out] at eu2
  subst eu2
  have bu2 := f2.bs0
  refine HeldN.mk hq2 ?_
  refine plan_uniG (by kernel_rfl) rfl ?_
  go_wp2
  refine HeldU.mk ?_
  refine plan_uniG (by kernel_rfl) rfl ?_
  go_wp2
  refine HeldU.mk ?_
  refine plan_nil (Held2.mk ?_)
  have hB := hq2
  have hr := fun j => blk_cell (hB.row hrow (by simp)) j
  go_wp2_with (first | (go_at_call 20; refine (spec_size _ kd sz bk).mono ?_; rintro e7 w7 ⟨rfl, hcz⟩; rw [← HZ.out]; have hB := Chg.trans hB hcz; have hr := fun j => blk_cell (hB.row hrow (by simp)) j; have bu1 := BS.keep bu1 hcz; have bu2 := BS.keep bu2 hcz; have bz := BS.keep bz hcz) | (go_at_call 21; refine (impl_EarlyTraffic K0 _ (hKB.chg hB (by simp)) kd sz bk _ (zeros (HS kd sz bk)) hzl bz _ x3 (by omega) (bB3.keep hB)).mono ?_; rintro e8 w8 ⟨u3, rfl, f3⟩; rw [hfK_K0, earlyF_zeros] at f3; have hB := Chg.trans hB f3.2.1; have hr := fun j => blk_cell (hB.row hrow (by simp)) j; have bu1 := BS.keep bu1 f3.2.1; have bu2 := BS.keep bu2 f3.2.1; have bz := BS.keep bz f3.2.1; have bu3 := f3.bs0) | (go_at_call 22; refine (impl_ServerTraffic K0 _ (hKB.chg hB (by simp)) kd sz bk _ x1 (by omega) (bB1.keep hB) _ (zeros (HS kd sz bk)) hzl bz _ x3 (by omega) (bB3.keep hB)).mono ?_; rintro e9 w9 ⟨u4, rfl, f4⟩; rw [hfK_K0, masterF_zeros] at f4; have hB := Chg.trans hB f4.2.1; have hr := fun j => blk_cell (hB.row hrow (by simp)) j; have bu1 := BS.keep bu1 f4.2.1; have bu2 := BS.keep bu2 f4.2.1; have bz := BS.keep bz f4.2.1; have bu4 := f4.bs0) | (go_at_call 17; refine (laws_same _ _ _ _ bu1 bu3).mono ?_; rintro e10 w10 ⟨rfl, hcz⟩; have hB := Chg.trans hB hcz; have hr := fun j => blk_cell (hB.row hrow (by simp)) j; have bu1 := BS.keep bu1 hcz; have bu2 := BS.keep bu2 hcz; have bz := BS.keep bz hcz) | (go_at_call 17; refine (laws_same _ _ _ _ bu2 bu4).mono ?_; rintro e11 w11 ⟨rfl, hcz⟩; have hB := Chg.trans hB hcz; have hr := fun j => blk_cell (hB.row hrow (by simp)) j; have bu1 := BS.keep bu1 hcz; have bu2 := BS.keep bu2 hcz; have bz := BS.keep bz hcz))
  go_ret
  exact ⟨rfl, hc0.trans hB⟩
end Go.Proofs.YtknoomndofnnmaaDoor
