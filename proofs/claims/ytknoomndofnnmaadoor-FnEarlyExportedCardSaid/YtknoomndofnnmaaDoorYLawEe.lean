/- The law FnEarlyExported, walked. -/
import Derived.Test.YtknoomndofnnmaaDoorYLawC
namespace Go.Proofs.YtknoomndofnnmaaDoor
open Go Go.RowKit

set_option maxRecDepth 100000 in
set_option maxHeartbeats 4000000 in
theorem law_FnEarlyExported (w : World) (hK : KAt K0 w) (kd sz bk : Int) (v1 : Value) (x1 : Bs) (b1 : BS [] w v1 x1) (v2 : Value) (x2 : Bs) (b2 : BS [] w v2 x2) (s3 : ByteArray) (v4 : Value) (x4 : Bs) (b4 : BS [] w v4 x4) (n : Int) :
    Calls Tryd.prog 10 #[hV kd sz bk, v1, v2, .string s3, v4, .int .i64 n] w fun e w' => e = .returned (.bool true) ∧ Chg [] w w' := by
  obtain ⟨a1, c1, q1⟩ := b1.form
  obtain ⟨a2, c2, q2⟩ := b2.form
  obtain ⟨a4, c4, q4⟩ := b4.form
  subst q1 q2 q4
  have hc0 : Chg [] w (w.alloc (hObj kd sz bk)) := (Chg.refl [] w).alloc _
  by_cases g1 : (2147483647 : Int) < (x1.length : Int)
  · go_enter Tryd.func10, Tryd.ntmps10
    go_wp2
    go_ret
    exact ⟨rfl, hc0⟩
  by_cases g2 : (2147483647 : Int) < (x2.length : Int)
  · go_enter Tryd.func10, Tryd.ntmps10
    go_wp2
    go_ret
    exact ⟨rfl, hc0⟩
  by_cases g3 : (2147483647 : Int) < (s3.size : Int)
  · go_enter Tryd.func10, Tryd.ntmps10
    go_wp2
    go_ret
    exact ⟨rfl, hc0⟩
  by_cases g4 : (2147483647 : Int) < (x4.length : Int)
  · go_enter Tryd.func10, Tryd.ntmps10
    go_wp2
    go_ret
    exact ⟨rfl, hc0⟩
  go_enter Tryd.func10, Tryd.ntmps10
  go_upto_region 3 with fail
  obtain ⟨wB, hwB⟩ : ∃ wB, wB = w.alloc (hObj kd sz bk) := ⟨_, rfl⟩
  rw [← hwB] at hc0 ⊢
  have hrow : wB.heap[w.heap.size]? = some (hObj kd sz bk) := hwB ▸ heap_alloc_new w _
  have hKB := hK.chg hc0 (by simp)
  have bB1 := b1.keep hc0
  have bB2 := b2.keep hc0
  have bB4 := b4.keep hc0
  have ldh : ∀ W, Chg [] wB W → (Instr.loadAt 23 (.pointer (some ⟨w.heap.size, 0, none⟩))).run Tryd.prog W = .ok (hV kd sz bk) W := fun W h => ld_hV (h.row hrow (by simp))
  have hd0 : Chg [] wB wB.drew := (Chg.refl [] wB).drew
  have hok := HS_ok kd sz bk
  clear hwB b1 b2 b4 hK g1 g2 g3 g4
  have hlong := long_n3 (W := (wB.alloc (.cells #[.slice a1 x1.length c1, .slice a2 x2.length c2, .slice a4 x4.length c4] 24))) x1.length x2.length x4.length (heap_alloc_new wB _)
  have hcA : Chg [] wB (wB.alloc (.cells #[.slice a1 x1.length c1, .slice a2 x2.length c2, .slice a4 x4.length c4] 24)) := (Chg.refl [] wB).alloc _
  have HL := Lib.hid hlong
  clear hlong ldh hd0
  go_upto_region 5 with (first | (go_at_call 16; refine HL.out.mono ?_; rintro e w2 ⟨b, rfl, hb, hcL⟩; have hr2 := fun j => blk_cell ((hcA.trans hcL).row hrow (by simp)) j; cases b) | (go_at_call 23; refine (laws_labelled w2 kd sz bk s3 (.slice none 0 0) [] (BS.nil _ _) n).mono ?_; rintro e w3 ⟨b2, rfl, hb2, hcM⟩; cases b2))
  all_goals try (go_ret; first | exact ⟨rfl, hc0.trans (hcA.trans (hcL.trans hcM))⟩ | exact ⟨rfl, hc0.trans (hcA.trans hcL)⟩)
  have hl := hb (by first | rfl | trivial)
  have hlab := hb2 (by first | rfl | trivial)
  have hB3 : Chg [] wB w3 := hcA.trans (hcL.trans hcM)
  clear hb hb2 HL hcA hcL hcM hr2
  have ldh : ∀ W, Chg [] wB W → (Instr.loadAt 23 (.pointer (some ⟨w.heap.size, 0, none⟩))).run Tryd.prog W = .ok (hV kd sz bk) W := fun W h => ld_hV (h.row hrow (by simp))
  obtain ⟨hs1, hsl, -, hn0, hn1⟩ := hlab
  obtain ⟨m, rfl⟩ := Int.eq_ofNat_of_zero_le hn0
  have hkl := kSz_le kd sz bk
  have hm : m ≤ 255 * kSz kd sz bk := by omega
  have hke := kSz_eq K0 kd sz bk
  have hm2 : m ≤ 255 * (hfK K0 (kdOf kd sz bk)).sz := by rw [hke]; exact hm
  have hm3 : m ≤ 100000 := by omega
  have hone : 1 ≤ 255 * (hfK K0 (kdOf kd sz bk)).sz := by rw [hke]; omega
  have HM2 := Lib.hid hm2
  have HONE := Lib.hid hone
  clear hn0 hn1 hkl hm hke hm2 hone hs1
  have hd0 := Chg.drew hB3
  refine region_held (fun w' => Chg [] wB w') [(0, true), (1, true), (2, true), (4, true), (3, false), (5, false), (6, true)] (by kernel_rfl) (by kernel_rfl) hd0 ?_
  change wpPlan _ _ _ _ [(_, true), (_, true), (_, true), (_, true), (_, false), (_, false), (_, true)] _ _
  refine plan_loadG 23 _ ⟨w.heap.size, 0, none⟩ (hV kd sz bk) rfl rfl rfl ldh ?_
  refine plan_loadG 23 _ ⟨w.heap.size, 0, none⟩ (hV kd sz bk) rfl rfl rfl ldh ?_
  refine plan_uniG (by kernel_rfl) rfl ?_
  go_wp2
  refine HeldU.mk ?_
  refine plan_uniG (by kernel_rfl) rfl ?_
  go_wp2
  refine HeldU.mk ?_
  refine plan_step ?_
  go_wp2_with (go_at_call 37; refine (spec_Early _ kd sz bk _ x1 (by omega) (bB1.keep hd0)).mono ?_; rintro e1 w1 ⟨u1, rfl, f1⟩)
  have hq1 := Chg.trans hd0 f1.2.1
  have bu1 := f1.bs0
  refine HeldN.mk hq1 ?_
  refine plan_step ?_
  go_wp2_with (go_at_call 24; refine (spec_DeriveSecret _ kd sz bk u1 _ (Nat.le_trans (extractF_le hok _ _) (by omega)) bu1 lblEX (Nat.le_trans lblEX_size (by omega)) _ x2 (by omega) (bB2.keep hq1)).mono ?_; rintro e2 w2 ⟨u2, rfl, f2⟩)
  have hq2 := Chg.trans hq1 f2.2.1
  have bu1 := BS.keep bu1 f2.2.1
  have bu2 := f2.bs0
  refine HeldN.mk hq2 ?_
  refine plan_uniG (by kernel_rfl) rfl ?_
  go_wp2
  refine HeldU.mk ?_
  refine plan_nil (Held2.mk ?_)
  go_upto_region 6 with fail
  have hd6 := Chg.drew hq2
  have bu1 := BS.keep bu1 (Chg.drew (Chg.refl [] _))
  have bu2 := BS.keep bu2 (Chg.drew (Chg.refl [] _))
  refine region_held (fun w' => Chg [] wB w') [(0, true), (1, true), (2, true), (3, true), (4, true), (5, true), (7, true), (8, true), (9, true), (10, true), (11, true), (6, false), (12, false), (13, false), (14, true), (15, true), (16, false), (17, false), (18, false), (19, false), (20, true)] (by kernel_rfl) (by kernel_rfl) hd6 ?_
  change wpPlan _ _ _ _ [(_, true), (_, true), (_, true), (_, true), (_, true), (_, true), (_, true), (_, true), (_, true), (_, true), (_, true), (_, false), (_, false), (_, false), (_, true), (_, true), (_, false), (_, false), (_, false), (_, false), (_, true)] _ _
  refine plan_loadG 23 _ ⟨w.heap.size, 0, none⟩ (hV kd sz bk) rfl rfl rfl ldh ?_
  refine plan_uniG (by kernel_rfl) rfl ?_
  go_wp2
  refine HeldU.mk ?_
  refine plan_uniG (by kernel_rfl) rfl ?_
  go_wp2
  refine HeldU.mk ?_
  refine plan_uniG (by kernel_rfl) rfl ?_
  go_wp2
  refine HeldU.mk ?_
  refine plan_uniG (by kernel_rfl) rfl ?_
  go_wp2
  refine HeldU.mk ?_
  refine plan_uniG (by kernel_rfl) rfl ?_
  go_wp2
  refine HeldU.mk ?_
  refine plan_loadG 23 _ ⟨w.heap.size, 0, none⟩ (hV kd sz bk) rfl rfl rfl ldh ?_
  refine plan_uniG (by kernel_rfl) rfl ?_
  go_wp2
  refine HeldU.mk ?_
  refine plan_uniG (by kernel_rfl) rfl ?_
  go_wp2
  refine HeldU.mk ?_
  refine plan_uniG (by kernel_rfl) rfl ?_
  go_wp2
  refine HeldU.mk ?_
  refine plan_uniG (by kernel_rfl) rfl ?_
  go_wp2
  refine HeldU.mk ?_
  refine plan_step ?_
  go_wp2_with (go_at_call 38; refine (impl_EarlyExported K0 _ (hKB.chg hd6 (by simp)) kd sz bk _ x1 (by omega) (bB1.keep hd6) _ x2 (by omega) (bB2.keep hd6) s3 (by omega) _ x4 (by omega) (bB4.keep hd6) m hm3 hsl HM2.out).mono ?_; rintro e3 w3 ⟨u3, rfl, f3⟩)
  have hq3 := Chg.trans hd6 f3.2.1
  have bu1 := BS.keep bu1 f3.2.1
  have bu2 := BS.keep bu2 f3.2.1
  rw [hfK_K0] at f3
  have bu3 := f3.bs0
  refine HeldN.mk hq3 ?_
  refine plan_step ?_
  go_wp2_with (go_at_call 27; refine (spec_Exported _ kd sz bk _ _ (Nat.le_trans (deriveF_le hok _ _ _) (by omega)) bu2 s3 (by omega) _ x4 (by omega) (bB4.keep hq3) m hm3).mono ?_; rintro e4 w4 ⟨u4, rfl, f4⟩)
  have hq4 := Chg.trans hq3 f4.2.1
  have bu1 := BS.keep bu1 f4.2.1
  have bu2 := BS.keep bu2 f4.2.1
  have bu3 := BS.keep bu3 f4.2.1
  have bu4 := f4.bs0
  refine HeldN.mk hq4 ?_
  refine plan_step ?_
  go_wp2_with (go_at_call 17; refine (laws_same _ _ _ _ bu3 bu4).mono ?_; rintro e5 w5 ⟨rfl, hcs⟩)
  have hq5 := Chg.trans hq4 hcs
  have bu1 := BS.keep bu1 hcs
  have bu2 := BS.keep bu2 hcs
  have bu3 := BS.keep bu3 hcs
  have bu4 := BS.keep bu4 hcs
  refine HeldN.mk hq5 ?_
  refine plan_uniG (by kernel_rfl) rfl ?_
  go_wp2
  refine HeldU.mk ?_
  refine plan_loadG 23 _ ⟨w.heap.size, 0, none⟩ (hV kd sz bk) rfl rfl rfl ldh ?_
  refine plan_step ?_
  go_wp2_with (go_at_call 38; refine (impl_EarlyExported K0 _ (hKB.chg hq5 (by simp)) kd sz bk (.slice none 0 0) [] (by simp) (BS.nil _ _) (.slice none 0 0) [] (by simp) (BS.nil _ _) lblA (by rw [lblA_size]; omega) (.slice none 0 0) [] (by simp) (BS.nil _ _) 1 (by omega) (by rw [lblA_size]; omega) HONE.out).mono ?_; rintro e6 w6 ⟨u5, rfl, f5⟩)
  have hq6 := Chg.trans hq5 f5.2.1
  have bu1 := BS.keep bu1 f5.2.1
  have bu2 := BS.keep bu2 f5.2.1
  have bu3 := BS.keep bu3 f5.2.1
  have bu4 := BS.keep bu4 f5.2.1
  obtain ⟨a5, c5, e5⟩ := f5.bs0.form
  rw [exportedF_length (hfK_ok K0 (kdOf_ok kd sz bk))] at e5
  subst e5
  refine HeldN.mk hq6 ?_
  refine plan_step ?_
  go_wp2
  refine HeldN.mk hq6 ?_
  refine plan_step ?_
  go_wp2
  refine HeldN.mk hq6 ?_
  refine plan_step ?_
  go_wp2
  refine HeldN.mk hq6 ?_
  refine plan_uniG (by kernel_rfl) rfl ?_
  go_wp2
  refine HeldU.mk ?_
  refine plan_nil (Held2.mk ?_)
  go_wp2
  go_ret
  exact ⟨rfl, hc0.trans hq6⟩
end Go.Proofs.YtknoomndofnnmaaDoor
