/- The law FnDeriveRoad, walked. -/
import Derived.Test.YtknoomndofnnmaaDoorLawB
namespace Go.Proofs.YtknoomndofnnmaaDoor
open Go Go.RowKit

set_option maxRecDepth 100000 in
set_option maxHeartbeats 2000000 in
theorem law_derive_road (w : World) (hK : KAt K0 w) (kd sz bk : Int) (v1 : Value) (x1 : Bs) (b1 : BS [] w v1 x1) (s : ByteArray) (v3 : Value) (x3 : Bs) (b3 : BS [] w v3 x3) :
    Calls Tryd.prog 8 #[hV kd sz bk, v1, .string s, v3] w fun e w' => e = .returned (.bool true) ∧ Chg [] w w' := by
  obtain ⟨a1, c1, e1⟩ := b1.form
  obtain ⟨a3, c3, e3⟩ := b3.form
  subst e1 e3
  have hc0 : Chg [] w (w.alloc (hObj kd sz bk)) := (Chg.refl [] w).alloc _
  by_cases g1 : (2147483647 : Int) < (x1.length : Int)
  · go_enter Tryd.func8, Tryd.ntmps8
    go_wp2
    go_ret
    exact ⟨rfl, hc0⟩
  by_cases g2 : (2147483647 : Int) < (s.size : Int)
  · go_enter Tryd.func8, Tryd.ntmps8
    go_wp2
    go_ret
    exact ⟨rfl, hc0⟩
  by_cases g3 : (2147483647 : Int) < (x3.length : Int)
  · go_enter Tryd.func8, Tryd.ntmps8
    go_wp2
    go_ret
    exact ⟨rfl, hc0⟩
  go_enter Tryd.func8, Tryd.ntmps8
  go_upto_region 3 with fail
  obtain ⟨wB, hwB⟩ : ∃ wB, wB = w.alloc (hObj kd sz bk) := ⟨_, rfl⟩
  rw [← hwB] at hc0 ⊢
  have hrow : wB.heap[w.heap.size]? = some (hObj kd sz bk) := hwB ▸ heap_alloc_new w _
  have hKB := hK.chg hc0 (by simp)
  have bB1 := b1.keep hc0
  have bB3 := b3.keep hc0
  clear hwB b1 b3 hK g1 g2 g3
  have hlong := long_n2 (W := wB.alloc (.cells #[.slice a1 x1.length c1, .slice a3 x3.length c3] 24)) x1.length x3.length (heap_alloc_new wB _)
  have hcA : Chg [] wB (wB.alloc (.cells #[.slice a1 x1.length c1, .slice a3 x3.length c3] 24)) := (Chg.refl [] wB).alloc _
  have HL := Lib.hid hlong
  clear hlong
  go_upto_region 5 with (first | (go_at_call 16; refine HL.out.mono ?_; rintro e w2 ⟨b, rfl, hb, hcL⟩; have hr2 := fun j => blk_cell ((hcA.trans hcL).row hrow (by simp)) j; cases b) | (go_at_call 23; refine (laws_labelled w2 kd sz bk s (.slice none 0 0) [] (BS.nil _ _) 0).mono ?_; rintro e w3 ⟨b2, rfl, hb2, hcM⟩; cases b2))
  all_goals try (go_ret; first | exact ⟨rfl, hc0.trans (hcA.trans (hcL.trans hcM))⟩ | exact ⟨rfl, hc0.trans (hcA.trans hcL)⟩)
  have hl := hb (by first | rfl | trivial)
  have hlab := hb2 (by first | rfl | trivial)
  have hB3 : Chg [] wB w3 := hcA.trans (hcL.trans hcM)
  have hok := hfK_ok K0 (kdOf_ok kd sz bk)
  have hsl : s.size ≤ 249 := hlab.2.1
  clear hb hb2 hlab HL hcA hcL hcM hr2
  have hr3 := fun j => blk_cell (hB3.row hrow (by simp)) j
  have hcall := impl_DeriveSecret K0 w3 (hKB.chg hB3 (by simp)) kd sz bk _ x1 (by omega) (bB1.keep hB3) s (by omega) _ x3 (by omega) (bB3.keep hB3) hsl
  have HC := Lib.hid hcall
  clear hcall
  go_upto_region 6 with (go_at_call 32; refine HC.out.mono ?_; rintro e w4 ⟨u4, rfl, f4⟩)
  have hB4 := hB3.trans f4.2.1
  have hlen4 := deriveF_length hok x1 (sb s) x3
  rw [kSz_eq] at hlen4
  obtain ⟨a4, c4, e4⟩ := f4.1.form
  rw [hlen4] at e4
  subst e4
  have hb4 := f4.bs0
  clear HC hlen4 hr3 f4
  have ldh : ∀ W, Chg [] wB W → (Instr.loadAt 23 (.pointer (some ⟨w.heap.size, 0, none⟩))).run Tryd.prog W = .ok (hV kd sz bk) W := fun W h => ld_hV (h.row hrow (by simp))
  refine region_held (fun w' => Chg [] wB w') [(0, true), (2, true), (1, true), (3, false), (4, false), (5, true), (6, true), (7, true), (8, true), (9, true), (10, true), (11, true), (13, true), (12, false), (14, false), (15, false), (16, false), (17, false), (18, true)] (by kernel_rfl) (by kernel_rfl) hB4.drew ?_
  change wpPlan _ _ _ _ [(_, true), (_, true), (_, true), (_, false), (_, false), (_, true), (_, true), (_, true), (_, true), (_, true), (_, true), (_, true), (_, true), (_, false), (_, false), (_, false), (_, false), (_, false), (_, true)] _ _
  refine plan_uniG (by kernel_rfl) rfl ?_
  go_wp2
  refine HeldU.mk ?_
  refine plan_loadG 23 _ ⟨w.heap.size, 0, none⟩ (hV kd sz bk) rfl rfl rfl ldh ?_
  refine plan_len _ rfl rfl (b := a4) (n := kSz kd sz bk) (c := c4) rfl ?_
  obtain ⟨wD, hwD⟩ : ∃ wD, wD = w4.drew := ⟨_, rfl⟩
  rw [← hwD]
  have hBD : Chg [] wB wD := hwD ▸ hB4.drew
  have hb5 := hb4.keep (show Chg [] w4 wD from hwD ▸ (Chg.refl [] w4).drew)
  clear hwD hb4
  obtain ⟨z, hz⟩ : ∃ z, z = kSz kd sz bk := ⟨_, rfl⟩
  have hsz := spec_size wD kd sz bk
  have HS := Lib.hid hsz
  have Hz := Lib.hid hz
  clear hsz
  rw [← hz] at hb5 ⊢
  clear hz
  refine plan_step ?_
  go_wp2_with (go_at_call 20; refine HS.out.mono ?_; rintro e w5 ⟨rfl, hc5⟩; rw [← Hz.out])
  have hB5 := hBD.trans hc5
  refine HeldN.mk hB5 ?_
  refine plan_step ?_
  go_wp2
  refine HeldN.mk hB5 ?_
  iterate 2 (refine plan_uniG (by kernel_rfl) rfl ?_; go_wp2; refine HeldU.mk ?_)
  refine plan_loadG 23 _ ⟨w.heap.size, 0, none⟩ (hV kd sz bk) rfl rfl rfl ldh ?_
  iterate 2 (refine plan_uniG (by kernel_rfl) rfl ?_; go_wp2; refine HeldU.mk ?_)
  refine plan_loadG 23 _ ⟨w.heap.size, 0, none⟩ (hV kd sz bk) rfl rfl rfl ldh ?_
  refine plan_uniG (by kernel_rfl) rfl ?_
  go_wp2
  refine HeldU.mk ?_
  refine plan_loadG 23 _ ⟨w.heap.size, 0, none⟩ (hV kd sz bk) rfl rfl rfl ldh ?_
  have hcall := impl_sum K0 w5 (hKB.chg hB5 (by simp)) kd sz bk _ x3 (by omega) (bB3.keep hB5)
  have HC := Lib.hid hcall
  clear hcall HS
  refine plan_step ?_
  go_wp2_with (go_at_call 18; refine HC.out.mono ?_; rintro e w6 ⟨u6, rfl, f6⟩)
  have hB6 := hB5.trans f6.2.1
  refine HeldN.mk hB6 ?_
  have hsz := spec_size w6 kd sz bk
  have HS := Lib.hid hsz
  clear hsz HC
  refine plan_step ?_
  go_wp2_with (go_at_call 20; refine HS.out.mono ?_; rintro e w7 ⟨rfl, hc7⟩; rw [← Hz.out])
  have hB7 := hB6.trans hc7
  refine HeldN.mk hB7 ?_
  have hzl := kSz_le kd sz bk
  have hsl6 : ((hfK K0 (kdOf kd sz bk)).sum x3).length ≤ 255 := by rw [hok.len, kSz_eq]; omega
  have hcall := impl_ExpandLabel K0 w7 (hKB.chg hB7 (by simp)) kd sz bk _ x1 (by omega) (bB1.keep hB7) s (by omega) u6 ((hfK K0 (kdOf kd sz bk)).sum x3) (by omega) (f6.bs0.keep hc7) z (by rw [Hz.out]; omega) hsl (by omega) (by rw [kSz_eq, ← Hz.out]; omega)
  have hder : expandLabelF (hfK K0 (kdOf kd sz bk)) x1 (sb s) ((hfK K0 (kdOf kd sz bk)).sum x3) z = deriveF (hfK K0 (kdOf kd sz bk)) x1 (sb s) x3 := by
    unfold deriveF
    rw [kSz_eq, ← Hz.out]
  rw [hder] at hcall
  have HC := Lib.hid hcall
  clear hcall HS hder hsl6
  refine plan_step ?_
  go_wp2_with (go_at_call 36; refine HC.out.mono ?_; rintro e w8 ⟨u8, rfl, f8⟩)
  have hB8 := hB7.trans f8.2.1
  refine HeldN.mk hB8 ?_
  have hb8 := hb5.keep (hc5.trans (f6.2.1.trans (hc7.trans f8.2.1)))
  refine plan_step ?_
  go_wp2_with (go_at_call 17; refine (laws_same _ _ _ _ hb8 f8.bs0).mono ?_; rintro e w9 ⟨rfl, hc9⟩)
  have hB9 := hB8.trans hc9
  refine HeldN.mk hB9 ?_
  refine plan_step ?_
  go_wp2
  refine HeldN.mk hB9 ?_
  refine plan_assign _ rfl rfl ?_
  refine plan_nil (Held2.mk ?_)
  go_wp2
  go_ret
  exact ⟨rfl, hc0.trans hB9⟩
end Go.Proofs.YtknoomndofnnmaaDoor
