/- The law FnSecretsRoad, walked. -/
import Derived.Test.YtknoomndofnnmaaDoorYLawC
namespace Go.Proofs.YtknoomndofnnmaaDoor
open Go Go.RowKit

set_option maxRecDepth 100000 in
set_option maxHeartbeats 4000000 in
theorem law_FnSecretsRoad (w : World) (hK : KAt K0 w) (kd sz bk : Int) (v1 : Value) (x1 : Bs) (b1 : BS [] w v1 x1) (v2 : Value) (x2 : Bs) (b2 : BS [] w v2 x2) (v3 : Value) (x3 : Bs) (b3 : BS [] w v3 x3) :
    Calls Tryd.prog 6 #[hV kd sz bk, v1, v2, v3] w fun e w' => e = .returned (.bool true) ∧ Chg [] w w' := by
  obtain ⟨a1, c1, q1⟩ := b1.form
  obtain ⟨a2, c2, q2⟩ := b2.form
  obtain ⟨a3, c3, q3⟩ := b3.form
  subst q1 q2 q3
  have hc0 : Chg [] w (w.alloc (hObj kd sz bk)) := (Chg.refl [] w).alloc _
  by_cases g1 : (2147483647 : Int) < (x1.length : Int)
  · go_enter Tryd.func6, Tryd.ntmps6
    go_wp2
    go_ret
    exact ⟨rfl, hc0⟩
  by_cases g2 : (2147483647 : Int) < (x2.length : Int)
  · go_enter Tryd.func6, Tryd.ntmps6
    go_wp2
    go_ret
    exact ⟨rfl, hc0⟩
  by_cases g3 : (2147483647 : Int) < (x3.length : Int)
  · go_enter Tryd.func6, Tryd.ntmps6
    go_wp2
    go_ret
    exact ⟨rfl, hc0⟩
  go_enter Tryd.func6, Tryd.ntmps6
  go_upto_region 3 with fail
  obtain ⟨wB, hwB⟩ : ∃ wB, wB = w.alloc (hObj kd sz bk) := ⟨_, rfl⟩
  rw [← hwB] at hc0 ⊢
  have hrow : wB.heap[w.heap.size]? = some (hObj kd sz bk) := hwB ▸ heap_alloc_new w _
  have hKB := hK.chg hc0 (by simp)
  have bB1 := b1.keep hc0
  have bB2 := b2.keep hc0
  have bB3 := b3.keep hc0
  have ldh : ∀ W, Chg [] wB W → (Instr.loadAt 23 (.pointer (some ⟨w.heap.size, 0, none⟩))).run Tryd.prog W = .ok (hV kd sz bk) W := fun W h => ld_hV (h.row hrow (by simp))
  have hd0 : Chg [] wB wB.drew := (Chg.refl [] wB).drew
  have hok := HS_ok kd sz bk
  clear hwB b1 b2 b3 hK g1 g2 g3
  have hlong := long_n3 (W := (wB.alloc (.cells #[.slice a1 x1.length c1, .slice a2 x2.length c2, .slice a3 x3.length c3] 24))) x1.length x2.length x3.length (heap_alloc_new wB _)
  have hcA : Chg [] wB (wB.alloc (.cells #[.slice a1 x1.length c1, .slice a2 x2.length c2, .slice a3 x3.length c3] 24)) := (Chg.refl [] wB).alloc _
  have HL := Lib.hid hlong
  clear hlong ldh hd0
  go_upto_region 5 with (go_at_call 16; refine HL.out.mono ?_; rintro e w2 ⟨b, rfl, hb, hcL⟩; have hr2 := fun j => blk_cell ((hcA.trans hcL).row hrow (by simp)) j; cases b)
  all_goals try (go_ret; exact ⟨rfl, hc0.trans (hcA.trans hcL)⟩)
  have hl := hb (by first | rfl | trivial)
  have hB3 : Chg [] wB w2 := hcA.trans hcL
  clear hb HL hcA hcL hr2
  have ldh : ∀ W, Chg [] wB W → (Instr.loadAt 23 (.pointer (some ⟨w.heap.size, 0, none⟩))).run Tryd.prog W = .ok (hV kd sz bk) W := fun W h => ld_hV (h.row hrow (by simp))
  have hs32 := hok.sz32
  obtain ⟨z, hz⟩ : ∃ z, z = kSz kd sz bk := ⟨_, rfl⟩
  have hz32 : z ≤ 32 := by rw [hz, ← HS_sz]; exact hs32
  have HZ := Lib.hid hz
  clear hz hs32
  have hd0 := Chg.drew hB3
  refine region_held (fun w' => Chg [] wB w') [(0, true), (1, true), (3, true), (4, true), (5, true), (7, true), (8, true), (9, true), (2, false), (6, false), (10, false), (11, true), (12, true), (13, true)] (by kernel_rfl) (by kernel_rfl) hd0 ?_
  change wpPlan _ _ _ _ [(_, true), (_, true), (_, true), (_, true), (_, true), (_, true), (_, true), (_, true), (_, false), (_, false), (_, false), (_, true), (_, true), (_, true)] _ _
  refine plan_loadG 23 _ ⟨w.heap.size, 0, none⟩ (hV kd sz bk) rfl rfl rfl ldh ?_
  refine plan_uniG (by kernel_rfl) rfl ?_
  go_wp2
  refine HeldU.mk ?_
  refine plan_loadG 23 _ ⟨w.heap.size, 0, none⟩ (hV kd sz bk) rfl rfl rfl ldh ?_
  refine plan_uniG (by kernel_rfl) rfl ?_
  go_wp2
  refine HeldU.mk ?_
  refine plan_uniG (by kernel_rfl) rfl ?_
  go_wp2
  refine HeldU.mk ?_
  refine plan_loadG 23 _ ⟨w.heap.size, 0, none⟩ (hV kd sz bk) rfl rfl rfl ldh ?_
  refine plan_uniG (by kernel_rfl) rfl ?_
  go_wp2
  refine HeldU.mk ?_
  refine plan_uniG (by kernel_rfl) rfl ?_
  go_wp2
  refine HeldU.mk ?_
  refine plan_step ?_
  go_wp2_with (go_at_call 28; refine (impl_EarlySecret K0 _ (hKB.chg hd0 (by simp)) kd sz bk _ x1 (by omega) (bB1.keep hd0)).mono ?_; rintro e1 w1 ⟨u1, rfl, bu1, hcx⟩)
  have hq1 := Chg.trans hd0 hcx
  rw [hfK_K0] at bu1
  obtain ⟨au1, cu1, eu1⟩ := bu1.form
  rw [show (earlyF (HS kd sz bk) x1).length = z from by rw [HZ.out, ← HS_sz]; exact extractF_length hok _ _] at eu1
  subst eu1
  refine HeldN.mk hq1 ?_
  refine plan_step ?_
  go_wp2_with (go_at_call 29; refine (impl_HandshakeSecret K0 _ (hKB.chg hq1 (by simp)) kd sz bk _ x1 (by omega) (bB1.keep hq1) _ x2 (by omega) (bB2.keep hq1)).mono ?_; rintro e2 w2 ⟨u2, rfl, bu2, hcx⟩)
  have hq2 := Chg.trans hq1 hcx
  have bu1 := BS.keep bu1 hcx
  rw [hfK_K0] at bu2
  refine HeldN.mk hq2 ?_
  refine plan_step ?_
  go_wp2_with (go_at_call 30; refine (impl_MasterSecret K0 _ (hKB.chg hq2 (by simp)) kd sz bk _ x1 (by omega) (bB1.keep hq2) _ x2 (by omega) (bB2.keep hq2)).mono ?_; rintro e3 w3 ⟨u3, rfl, bu3, hcx⟩)
  have hq3 := Chg.trans hq2 hcx
  have bu1 := BS.keep bu1 hcx
  have bu2 := BS.keep bu2 hcx
  rw [hfK_K0] at bu3
  refine HeldN.mk hq3 ?_
  refine plan_uniG (by kernel_rfl) rfl ?_
  go_wp2
  refine HeldU.mk ?_
  refine plan_uniG (by kernel_rfl) rfl ?_
  go_wp2
  refine HeldU.mk ?_
  refine plan_uniG (by kernel_rfl) rfl ?_
  go_wp2
  refine HeldU.mk ?_
  refine plan_nil (Held2.mk ?_)
  go_upto_region 6 with fail
  have hd6 := Chg.drew hq3
  have bu1 := BS.keep bu1 (Chg.drew (Chg.refl [] _))
  have bu2 := BS.keep bu2 (Chg.drew (Chg.refl [] _))
  have bu3 := BS.keep bu3 (Chg.drew (Chg.refl [] _))
  refine region_held (fun w' => Chg [] wB w') [(0, true), (1, true), (2, true), (3, false), (4, false), (5, true), (6, true), (7, true), (8, true), (9, false), (10, false), (11, false), (12, true), (13, true), (14, true), (15, true), (16, true), (17, true), (18, false), (19, false), (20, false), (21, false), (22, true), (23, true), (24, true), (25, true), (26, true), (27, false), (28, false), (29, false), (30, false), (31, true), (32, true), (33, true), (35, true), (36, true), (34, false), (37, false), (38, false), (39, false), (40, true), (41, true), (42, true), (43, true), (44, true), (46, true), (47, true), (48, true), (45, false), (49, false), (50, false), (51, false), (52, true), (53, true), (54, true), (55, true), (56, true), (58, true), (59, true), (60, true), (57, false), (61, false), (62, false), (63, false), (64, true)] (by kernel_rfl) (by kernel_rfl) hd6 ?_
  change wpPlan _ _ _ _ [(_, true), (_, true), (_, true), (_, false), (_, false), (_, true), (_, true), (_, true), (_, true), (_, false), (_, false), (_, false), (_, true), (_, true), (_, true), (_, true), (_, true), (_, true), (_, false), (_, false), (_, false), (_, false), (_, true), (_, true), (_, true), (_, true), (_, true), (_, false), (_, false), (_, false), (_, false), (_, true), (_, true), (_, true), (_, true), (_, true), (_, false), (_, false), (_, false), (_, false), (_, true), (_, true), (_, true), (_, true), (_, true), (_, true), (_, true), (_, true), (_, false), (_, false), (_, false), (_, false), (_, true), (_, true), (_, true), (_, true), (_, true), (_, true), (_, true), (_, true), (_, false), (_, false), (_, false), (_, false), (_, true)] _ _
  refine plan_uniG (by kernel_rfl) rfl ?_
  go_wp2
  refine HeldU.mk ?_
  refine plan_len _ rfl rfl (b := au1) (n := z) (c := cu1) rfl ?_
  refine plan_loadG 23 _ ⟨w.heap.size, 0, none⟩ (hV kd sz bk) rfl rfl rfl ldh ?_
  refine plan_step ?_
  go_wp2_with (go_at_call 20; refine (spec_size _ kd sz bk).mono ?_; rintro e4 w4 ⟨rfl, hcs⟩; rw [← HZ.out])
  have hq4 := Chg.trans hd6 hcs
  have bu1 := BS.keep bu1 hcs
  have bu2 := BS.keep bu2 hcs
  have bu3 := BS.keep bu3 hcs
  refine HeldN.mk hq4 ?_
  refine plan_step ?_
  go_wp2
  refine HeldN.mk hq4 ?_
  refine plan_uniG (by kernel_rfl) rfl ?_
  go_wp2
  refine HeldU.mk ?_
  refine plan_uniG (by kernel_rfl) rfl ?_
  go_wp2
  refine HeldU.mk ?_
  refine plan_loadG 23 _ ⟨w.heap.size, 0, none⟩ (hV kd sz bk) rfl rfl rfl ldh ?_
  refine plan_uniG (by kernel_rfl) rfl ?_
  go_wp2
  refine HeldU.mk ?_
  refine plan_step ?_
  go_wp2_with (go_at_call 31; refine (impl_Extract K0 _ (hKB.chg hq4 (by simp)) kd sz bk _ x1 (by omega) (bB1.keep hq4) (.slice none 0 0) [] (by simp) (BS.nil _ _)).mono ?_; rintro e5 w5 ⟨u4, rfl, f4⟩)
  have hq5 := Chg.trans hq4 f4.2.1
  have bu1 := BS.keep bu1 f4.2.1
  have bu2 := BS.keep bu2 f4.2.1
  have bu3 := BS.keep bu3 f4.2.1
  rw [hfK_K0] at f4
  have bu4 := f4.bs0
  refine HeldN.mk hq5 ?_
  refine plan_step ?_
  go_wp2_with (go_at_call 17; refine (laws_same _ _ _ _ bu1 bu4).mono ?_; rintro e6 w6 ⟨rfl, hcs⟩)
  have hq6 := Chg.trans hq5 hcs
  have bu1 := BS.keep bu1 hcs
  have bu2 := BS.keep bu2 hcs
  have bu3 := BS.keep bu3 hcs
  have bu4 := BS.keep bu4 hcs
  refine HeldN.mk hq6 ?_
  refine plan_step ?_
  go_wp2
  refine HeldN.mk hq6 ?_
  refine plan_uniG (by kernel_rfl) rfl ?_
  go_wp2
  refine HeldU.mk ?_
  refine plan_uniG (by kernel_rfl) rfl ?_
  go_wp2
  refine HeldU.mk ?_
  refine plan_loadG 23 _ ⟨w.heap.size, 0, none⟩ (hV kd sz bk) rfl rfl rfl ldh ?_
  refine plan_uniG (by kernel_rfl) rfl ?_
  go_wp2
  refine HeldU.mk ?_
  refine plan_loadG 23 _ ⟨w.heap.size, 0, none⟩ (hV kd sz bk) rfl rfl rfl ldh ?_
  refine plan_uniG (by kernel_rfl) rfl ?_
  go_wp2
  refine HeldU.mk ?_
  refine plan_step ?_
  go_wp2_with (go_at_call 32; refine (impl_DeriveSecret K0 _ (hKB.chg hq6 (by simp)) kd sz bk _ (earlyF (HS kd sz bk) x1) (Nat.le_trans (extractF_le hok _ _) (by omega)) bu1 lblD (Nat.le_trans lblD_size (by omega)) (.slice none 0 0) [] (by simp) (BS.nil _ _) lblD_size).mono ?_; rintro e7 w7 ⟨u5, rfl, f5⟩)
  have hq7 := Chg.trans hq6 f5.2.1
  have bu1 := BS.keep bu1 f5.2.1
  have bu2 := BS.keep bu2 f5.2.1
  have bu3 := BS.keep bu3 f5.2.1
  have bu4 := BS.keep bu4 f5.2.1
  rw [hfK_K0] at f5
  have bu5 := f5.bs0
  refine HeldN.mk hq7 ?_
  refine plan_step ?_
  go_wp2_with (go_at_call 31; refine (impl_Extract K0 _ (hKB.chg hq7 (by simp)) kd sz bk _ x2 (by omega) (bB2.keep hq7) _ _ (Nat.le_trans (deriveF_le hok _ _ _) (by omega)) bu5).mono ?_; rintro e8 w8 ⟨u6, rfl, f6⟩)
  have hq8 := Chg.trans hq7 f6.2.1
  have bu1 := BS.keep bu1 f6.2.1
  have bu2 := BS.keep bu2 f6.2.1
  have bu3 := BS.keep bu3 f6.2.1
  have bu4 := BS.keep bu4 f6.2.1
  have bu5 := BS.keep bu5 f6.2.1
  rw [hfK_K0] at f6
  have bu6 := f6.bs0
  refine HeldN.mk hq8 ?_
  refine plan_step ?_
  go_wp2_with (go_at_call 17; refine (laws_same _ _ _ _ bu2 bu6).mono ?_; rintro e9 w9 ⟨rfl, hcs⟩)
  have hq9 := Chg.trans hq8 hcs
  have bu1 := BS.keep bu1 hcs
  have bu2 := BS.keep bu2 hcs
  have bu3 := BS.keep bu3 hcs
  have bu4 := BS.keep bu4 hcs
  have bu5 := BS.keep bu5 hcs
  have bu6 := BS.keep bu6 hcs
  refine HeldN.mk hq9 ?_
  refine plan_step ?_
  go_wp2
  refine HeldN.mk hq9 ?_
  refine plan_uniG (by kernel_rfl) rfl ?_
  go_wp2
  refine HeldU.mk ?_
  refine plan_uniG (by kernel_rfl) rfl ?_
  go_wp2
  refine HeldU.mk ?_
  refine plan_loadG 23 _ ⟨w.heap.size, 0, none⟩ (hV kd sz bk) rfl rfl rfl ldh ?_
  refine plan_loadG 23 _ ⟨w.heap.size, 0, none⟩ (hV kd sz bk) rfl rfl rfl ldh ?_
  refine plan_uniG (by kernel_rfl) rfl ?_
  go_wp2
  refine HeldU.mk ?_
  refine plan_step ?_
  go_wp2_with (go_at_call 32; refine (impl_DeriveSecret K0 _ (hKB.chg hq9 (by simp)) kd sz bk _ (handshakeF (HS kd sz bk) x1 x2) (Nat.le_trans (extractF_le hok _ _) (by omega)) bu2 lblD (Nat.le_trans lblD_size (by omega)) (.slice none 0 0) [] (by simp) (BS.nil _ _) lblD_size).mono ?_; rintro e10 w10 ⟨u7, rfl, f7⟩)
  have hq10 := Chg.trans hq9 f7.2.1
  have bu1 := BS.keep bu1 f7.2.1
  have bu2 := BS.keep bu2 f7.2.1
  have bu3 := BS.keep bu3 f7.2.1
  have bu4 := BS.keep bu4 f7.2.1
  have bu5 := BS.keep bu5 f7.2.1
  have bu6 := BS.keep bu6 f7.2.1
  rw [hfK_K0] at f7
  have bu7 := f7.bs0
  refine HeldN.mk hq10 ?_
  refine plan_step ?_
  go_wp2_with (go_at_call 31; refine (impl_Extract K0 _ (hKB.chg hq10 (by simp)) kd sz bk (.slice none 0 0) [] (by simp) (BS.nil _ _) _ _ (Nat.le_trans (deriveF_le hok _ _ _) (by omega)) bu7).mono ?_; rintro e11 w11 ⟨u8, rfl, f8⟩)
  have hq11 := Chg.trans hq10 f8.2.1
  have bu1 := BS.keep bu1 f8.2.1
  have bu2 := BS.keep bu2 f8.2.1
  have bu3 := BS.keep bu3 f8.2.1
  have bu4 := BS.keep bu4 f8.2.1
  have bu5 := BS.keep bu5 f8.2.1
  have bu6 := BS.keep bu6 f8.2.1
  have bu7 := BS.keep bu7 f8.2.1
  rw [hfK_K0] at f8
  rw [orZeros_nil] at f8
  have bu8 := f8.bs0
  refine HeldN.mk hq11 ?_
  refine plan_step ?_
  go_wp2_with (go_at_call 17; refine (laws_same _ _ _ _ bu3 bu8).mono ?_; rintro e12 w12 ⟨rfl, hcs⟩)
  have hq12 := Chg.trans hq11 hcs
  have bu1 := BS.keep bu1 hcs
  have bu2 := BS.keep bu2 hcs
  have bu3 := BS.keep bu3 hcs
  have bu4 := BS.keep bu4 hcs
  have bu5 := BS.keep bu5 hcs
  have bu6 := BS.keep bu6 hcs
  have bu7 := BS.keep bu7 hcs
  have bu8 := BS.keep bu8 hcs
  refine HeldN.mk hq12 ?_
  refine plan_step ?_
  go_wp2
  refine HeldN.mk hq12 ?_
  refine plan_uniG (by kernel_rfl) rfl ?_
  go_wp2
  refine HeldU.mk ?_
  refine plan_loadG 23 _ ⟨w.heap.size, 0, none⟩ (hV kd sz bk) rfl rfl rfl ldh ?_
  refine plan_uniG (by kernel_rfl) rfl ?_
  go_wp2
  refine HeldU.mk ?_
  refine plan_loadG 23 _ ⟨w.heap.size, 0, none⟩ (hV kd sz bk) rfl rfl rfl ldh ?_
  refine plan_uniG (by kernel_rfl) rfl ?_
  go_wp2
  refine HeldU.mk ?_
  refine plan_step ?_
  go_wp2_with (go_at_call 33; refine (impl_Binder K0 _ (hKB.chg hq12 (by simp)) kd sz bk _ x1 (by omega) (bB1.keep hq12)).mono ?_; rintro e13 w13 ⟨u9, rfl, f9⟩)
  have hq13 := Chg.trans hq12 f9.2.1
  have bu1 := BS.keep bu1 f9.2.1
  have bu2 := BS.keep bu2 f9.2.1
  have bu3 := BS.keep bu3 f9.2.1
  have bu4 := BS.keep bu4 f9.2.1
  have bu5 := BS.keep bu5 f9.2.1
  have bu6 := BS.keep bu6 f9.2.1
  have bu7 := BS.keep bu7 f9.2.1
  have bu8 := BS.keep bu8 f9.2.1
  rw [hfK_K0] at f9
  have bu9 := f9.bs0
  refine HeldN.mk hq13 ?_
  refine plan_step ?_
  go_wp2_with (go_at_call 32; refine (impl_DeriveSecret K0 _ (hKB.chg hq13 (by simp)) kd sz bk _ (earlyF (HS kd sz bk) x1) (Nat.le_trans (extractF_le hok _ _) (by omega)) bu1 lblRB (Nat.le_trans lblRB_size (by omega)) (.slice none 0 0) [] (by simp) (BS.nil _ _) lblRB_size).mono ?_; rintro e14 w14 ⟨u10, rfl, f10⟩)
  have hq14 := Chg.trans hq13 f10.2.1
  have bu1 := BS.keep bu1 f10.2.1
  have bu2 := BS.keep bu2 f10.2.1
  have bu3 := BS.keep bu3 f10.2.1
  have bu4 := BS.keep bu4 f10.2.1
  have bu5 := BS.keep bu5 f10.2.1
  have bu6 := BS.keep bu6 f10.2.1
  have bu7 := BS.keep bu7 f10.2.1
  have bu8 := BS.keep bu8 f10.2.1
  have bu9 := BS.keep bu9 f10.2.1
  rw [hfK_K0] at f10
  have bu10 := f10.bs0
  refine HeldN.mk hq14 ?_
  refine plan_step ?_
  go_wp2_with (go_at_call 17; refine (laws_same _ _ _ _ bu9 bu10).mono ?_; rintro e15 w15 ⟨rfl, hcs⟩)
  have hq15 := Chg.trans hq14 hcs
  have bu1 := BS.keep bu1 hcs
  have bu2 := BS.keep bu2 hcs
  have bu3 := BS.keep bu3 hcs
  have bu4 := BS.keep bu4 hcs
  have bu5 := BS.keep bu5 hcs
  have bu6 := BS.keep bu6 hcs
  have bu7 := BS.keep bu7 hcs
  have bu8 := BS.keep bu8 hcs
  have bu9 := BS.keep bu9 hcs
  have bu10 := BS.keep bu10 hcs
  refine HeldN.mk hq15 ?_
  refine plan_step ?_
  go_wp2
  refine HeldN.mk hq15 ?_
  refine plan_uniG (by kernel_rfl) rfl ?_
  go_wp2
  refine HeldU.mk ?_
  refine plan_loadG 23 _ ⟨w.heap.size, 0, none⟩ (hV kd sz bk) rfl rfl rfl ldh ?_
  refine plan_uniG (by kernel_rfl) rfl ?_
  go_wp2
  refine HeldU.mk ?_
  refine plan_uniG (by kernel_rfl) rfl ?_
  go_wp2
  refine HeldU.mk ?_
  refine plan_uniG (by kernel_rfl) rfl ?_
  go_wp2
  refine HeldU.mk ?_
  refine plan_loadG 23 _ ⟨w.heap.size, 0, none⟩ (hV kd sz bk) rfl rfl rfl ldh ?_
  refine plan_uniG (by kernel_rfl) rfl ?_
  go_wp2
  refine HeldU.mk ?_
  refine plan_uniG (by kernel_rfl) rfl ?_
  go_wp2
  refine HeldU.mk ?_
  refine plan_step ?_
  go_wp2_with (go_at_call 34; refine (impl_ClientHandshake K0 _ (hKB.chg hq15 (by simp)) kd sz bk _ x1 (by omega) (bB1.keep hq15) _ x2 (by omega) (bB2.keep hq15) _ x3 (by omega) (bB3.keep hq15)).mono ?_; rintro e16 w16 ⟨u11, rfl, f11⟩)
  have hq16 := Chg.trans hq15 f11.2.1
  have bu1 := BS.keep bu1 f11.2.1
  have bu2 := BS.keep bu2 f11.2.1
  have bu3 := BS.keep bu3 f11.2.1
  have bu4 := BS.keep bu4 f11.2.1
  have bu5 := BS.keep bu5 f11.2.1
  have bu6 := BS.keep bu6 f11.2.1
  have bu7 := BS.keep bu7 f11.2.1
  have bu8 := BS.keep bu8 f11.2.1
  have bu9 := BS.keep bu9 f11.2.1
  have bu10 := BS.keep bu10 f11.2.1
  rw [hfK_K0] at f11
  have bu11 := f11.bs0
  refine HeldN.mk hq16 ?_
  refine plan_step ?_
  go_wp2_with (go_at_call 32; refine (impl_DeriveSecret K0 _ (hKB.chg hq16 (by simp)) kd sz bk _ (handshakeF (HS kd sz bk) x1 x2) (Nat.le_trans (extractF_le hok _ _) (by omega)) bu2 lblCH (Nat.le_trans lblCH_size (by omega)) _ x3 (by omega) (bB3.keep hq16) lblCH_size).mono ?_; rintro e17 w17 ⟨u12, rfl, f12⟩)
  have hq17 := Chg.trans hq16 f12.2.1
  have bu1 := BS.keep bu1 f12.2.1
  have bu2 := BS.keep bu2 f12.2.1
  have bu3 := BS.keep bu3 f12.2.1
  have bu4 := BS.keep bu4 f12.2.1
  have bu5 := BS.keep bu5 f12.2.1
  have bu6 := BS.keep bu6 f12.2.1
  have bu7 := BS.keep bu7 f12.2.1
  have bu8 := BS.keep bu8 f12.2.1
  have bu9 := BS.keep bu9 f12.2.1
  have bu10 := BS.keep bu10 f12.2.1
  have bu11 := BS.keep bu11 f12.2.1
  rw [hfK_K0] at f12
  have bu12 := f12.bs0
  refine HeldN.mk hq17 ?_
  refine plan_step ?_
  go_wp2_with (go_at_call 17; refine (laws_same _ _ _ _ bu11 bu12).mono ?_; rintro e18 w18 ⟨rfl, hcs⟩)
  have hq18 := Chg.trans hq17 hcs
  have bu1 := BS.keep bu1 hcs
  have bu2 := BS.keep bu2 hcs
  have bu3 := BS.keep bu3 hcs
  have bu4 := BS.keep bu4 hcs
  have bu5 := BS.keep bu5 hcs
  have bu6 := BS.keep bu6 hcs
  have bu7 := BS.keep bu7 hcs
  have bu8 := BS.keep bu8 hcs
  have bu9 := BS.keep bu9 hcs
  have bu10 := BS.keep bu10 hcs
  have bu11 := BS.keep bu11 hcs
  have bu12 := BS.keep bu12 hcs
  refine HeldN.mk hq18 ?_
  refine plan_step ?_
  go_wp2
  refine HeldN.mk hq18 ?_
  refine plan_uniG (by kernel_rfl) rfl ?_
  go_wp2
  refine HeldU.mk ?_
  refine plan_loadG 23 _ ⟨w.heap.size, 0, none⟩ (hV kd sz bk) rfl rfl rfl ldh ?_
  refine plan_uniG (by kernel_rfl) rfl ?_
  go_wp2
  refine HeldU.mk ?_
  refine plan_uniG (by kernel_rfl) rfl ?_
  go_wp2
  refine HeldU.mk ?_
  refine plan_uniG (by kernel_rfl) rfl ?_
  go_wp2
  refine HeldU.mk ?_
  refine plan_loadG 23 _ ⟨w.heap.size, 0, none⟩ (hV kd sz bk) rfl rfl rfl ldh ?_
  refine plan_uniG (by kernel_rfl) rfl ?_
  go_wp2
  refine HeldU.mk ?_
  refine plan_uniG (by kernel_rfl) rfl ?_
  go_wp2
  refine HeldU.mk ?_
  refine plan_step ?_
  go_wp2_with (go_at_call 35; refine (impl_Resumption K0 _ (hKB.chg hq18 (by simp)) kd sz bk _ x1 (by omega) (bB1.keep hq18) _ x2 (by omega) (bB2.keep hq18) _ x3 (by omega) (bB3.keep hq18)).mono ?_; rintro e19 w19 ⟨u13, rfl, f13⟩)
  have hq19 := Chg.trans hq18 f13.2.1
  have bu1 := BS.keep bu1 f13.2.1
  have bu2 := BS.keep bu2 f13.2.1
  have bu3 := BS.keep bu3 f13.2.1
  have bu4 := BS.keep bu4 f13.2.1
  have bu5 := BS.keep bu5 f13.2.1
  have bu6 := BS.keep bu6 f13.2.1
  have bu7 := BS.keep bu7 f13.2.1
  have bu8 := BS.keep bu8 f13.2.1
  have bu9 := BS.keep bu9 f13.2.1
  have bu10 := BS.keep bu10 f13.2.1
  have bu11 := BS.keep bu11 f13.2.1
  have bu12 := BS.keep bu12 f13.2.1
  rw [hfK_K0] at f13
  have bu13 := f13.bs0
  refine HeldN.mk hq19 ?_
  refine plan_step ?_
  go_wp2_with (go_at_call 32; refine (impl_DeriveSecret K0 _ (hKB.chg hq19 (by simp)) kd sz bk _ (masterF (HS kd sz bk) x1 x2) (Nat.le_trans (extractF_le hok _ _) (by omega)) bu3 lblRM (Nat.le_trans lblRM_size (by omega)) _ x3 (by omega) (bB3.keep hq19) lblRM_size).mono ?_; rintro e20 w20 ⟨u14, rfl, f14⟩)
  have hq20 := Chg.trans hq19 f14.2.1
  have bu1 := BS.keep bu1 f14.2.1
  have bu2 := BS.keep bu2 f14.2.1
  have bu3 := BS.keep bu3 f14.2.1
  have bu4 := BS.keep bu4 f14.2.1
  have bu5 := BS.keep bu5 f14.2.1
  have bu6 := BS.keep bu6 f14.2.1
  have bu7 := BS.keep bu7 f14.2.1
  have bu8 := BS.keep bu8 f14.2.1
  have bu9 := BS.keep bu9 f14.2.1
  have bu10 := BS.keep bu10 f14.2.1
  have bu11 := BS.keep bu11 f14.2.1
  have bu12 := BS.keep bu12 f14.2.1
  have bu13 := BS.keep bu13 f14.2.1
  rw [hfK_K0] at f14
  have bu14 := f14.bs0
  refine HeldN.mk hq20 ?_
  refine plan_step ?_
  go_wp2_with (go_at_call 17; refine (laws_same _ _ _ _ bu13 bu14).mono ?_; rintro e21 w21 ⟨rfl, hcs⟩)
  have hq21 := Chg.trans hq20 hcs
  have bu1 := BS.keep bu1 hcs
  have bu2 := BS.keep bu2 hcs
  have bu3 := BS.keep bu3 hcs
  have bu4 := BS.keep bu4 hcs
  have bu5 := BS.keep bu5 hcs
  have bu6 := BS.keep bu6 hcs
  have bu7 := BS.keep bu7 hcs
  have bu8 := BS.keep bu8 hcs
  have bu9 := BS.keep bu9 hcs
  have bu10 := BS.keep bu10 hcs
  have bu11 := BS.keep bu11 hcs
  have bu12 := BS.keep bu12 hcs
  have bu13 := BS.keep bu13 hcs
  have bu14 := BS.keep bu14 hcs
  refine HeldN.mk hq21 ?_
  refine plan_step ?_
  go_wp2
  refine HeldN.mk hq21 ?_
  refine plan_uniG (by kernel_rfl) rfl ?_
  go_wp2
  refine HeldU.mk ?_
  refine plan_nil (Held2.mk ?_)
  go_wp2
  go_ret
  exact ⟨rfl, hc0.trans hq21⟩
end Go.Proofs.YtknoomndofnnmaaDoor
