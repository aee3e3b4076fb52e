/- The law FnDeriveSecret, walked. -/
import Derived.Test.YtknoomndofnnmaaDoorYLawD
namespace Go.Proofs.YtknoomndofnnmaaDoor
open Go Go.RowKit

set_option maxRecDepth 100000 in
set_option maxHeartbeats 4000000 in
theorem law_FnDeriveSecret (w : World) (hK : KAt K0 w) (kd sz bk : Int) (v1 : Value) (x1 : Bs) (b1 : BS [] w v1 x1) (s2 : ByteArray) (v3 : Value) (x3 : Bs) (b3 : BS [] w v3 x3) :
    Calls Tryd.prog 7 #[hV kd sz bk, v1, .string s2, v3] w fun e w' => e = .returned (.bool true) ∧ Chg [] w w' := by
  obtain ⟨a1, c1, q1⟩ := b1.form
  obtain ⟨a3, c3, q3⟩ := b3.form
  subst q1 q3
  have hc0 : Chg [] w (w.alloc (hObj kd sz bk)) := (Chg.refl [] w).alloc _
  by_cases g1 : (2147483647 : Int) < (x1.length : Int)
  · go_enter Tryd.func7, Tryd.ntmps7
    go_wp2
    go_ret
    exact ⟨rfl, hc0⟩
  by_cases g2 : (2147483647 : Int) < (s2.size : Int)
  · go_enter Tryd.func7, Tryd.ntmps7
    go_wp2
    go_ret
    exact ⟨rfl, hc0⟩
  by_cases g3 : (2147483647 : Int) < (x3.length : Int)
  · go_enter Tryd.func7, Tryd.ntmps7
    go_wp2
    go_ret
    exact ⟨rfl, hc0⟩
  go_enter Tryd.func7, Tryd.ntmps7
  go_upto_region 3 with fail
  obtain ⟨wB, hwB⟩ : ∃ wB, wB = w.alloc (hObj kd sz bk) := ⟨_, rfl⟩
  rw [← hwB] at hc0 ⊢
  have hrow : wB.heap[w.heap.size]? = some (hObj kd sz bk) := hwB ▸ heap_alloc_new w _
  have hKB := hK.chg hc0 (by simp)
  have bB1 := b1.keep hc0
  have bB3 := b3.keep hc0
  have ldh : ∀ W, Chg [] wB W → (Instr.loadAt 23 (.pointer (some ⟨w.heap.size, 0, none⟩))).run Tryd.prog W = .ok (hV kd sz bk) W := fun W h => ld_hV (h.row hrow (by simp))
  have hd0 : Chg [] wB wB.drew := (Chg.refl [] wB).drew
  have hok := HS_ok kd sz bk
  clear hwB b1 b3 hK g1 g2 g3
  refine region_held (fun w' => Chg [] wB w') [(0, true), (1, true), (2, false), (3, false), (4, true), (5, true), (6, true), (7, false), (8, false), (9, false), (10, true), (11, true), (12, true), (13, true), (14, true), (16, true), (17, true), (18, true), (19, true), (15, false), (20, false), (21, false), (22, false), (23, true)] (by kernel_rfl) (by kernel_rfl) hd0 ?_
  change wpPlan _ _ _ _ [(_, true), (_, true), (_, false), (_, false), (_, true), (_, true), (_, true), (_, false), (_, false), (_, false), (_, true), (_, true), (_, true), (_, true), (_, true), (_, true), (_, true), (_, true), (_, true), (_, false), (_, false), (_, false), (_, false), (_, true)] _ _
  refine plan_uniG (by kernel_rfl) rfl ?_
  go_wp2
  refine HeldU.mk ?_
  refine plan_uniG (by kernel_rfl) rfl ?_
  go_wp2
  refine HeldU.mk ?_
  refine plan_step ?_
  go_wp2
  have hq1 := Chg.alloc hd0 (.cells #[.slice a1 x1.length c1, .slice a3 x3.length c3] 24)
  refine HeldN.mk hq1 ?_
  refine plan_step ?_
  go_wp2_with (go_at_call 16; refine (long_n2 (W := (wB.alloc (.cells #[.slice a1 x1.length c1, .slice a3 x3.length c3] 24)).drew) x1.length x3.length (heap_alloc_new wB _)).mono ?_; rintro e2 w2 ⟨b0, rfl, hb0, hcl⟩)
  have hq2 := Chg.trans hq1 hcl
  refine HeldN.mk hq2 ?_
  cases b0 with
  | true =>
    refine plan_uniG (by kernel_rfl) rfl ?_
    go_wp2
    refine HeldU.mk ?_
    refine plan_skipG rfl ?_
    go_wp2
    refine HeldU.mk ?_
    refine plan_skipG rfl ?_
    go_wp2
    refine HeldU.mk ?_
    refine plan_step ?_
    go_wp2
    refine HeldN.mk hq2 ?_
    refine plan_step ?_
    go_wp2
    refine HeldN.mk hq2 ?_
    refine plan_step ?_
    go_wp2
    refine HeldN.mk hq2 ?_
    refine plan_uniG (by kernel_rfl) rfl ?_
    go_wp2
    refine HeldU.mk ?_
    refine plan_skipG rfl ?_
    go_wp2
    refine HeldU.mk ?_
    refine plan_skipG rfl ?_
    go_wp2
    refine HeldU.mk ?_
    refine plan_skipG rfl ?_
    go_wp2
    refine HeldU.mk ?_
    refine plan_skipG rfl ?_
    go_wp2
    refine HeldU.mk ?_
    refine plan_skipG rfl ?_
    go_wp2
    refine HeldU.mk ?_
    refine plan_skipG rfl ?_
    go_wp2
    refine HeldU.mk ?_
    refine plan_skipG rfl ?_
    go_wp2
    refine HeldU.mk ?_
    refine plan_skipG rfl ?_
    go_wp2
    refine HeldU.mk ?_
    refine plan_step ?_
    go_wp2
    refine HeldN.mk hq2 ?_
    refine plan_step ?_
    go_wp2
    refine HeldN.mk hq2 ?_
    refine plan_step ?_
    go_wp2
    refine HeldN.mk hq2 ?_
    refine plan_step ?_
    go_wp2
    refine HeldN.mk hq2 ?_
    refine plan_uniG (by kernel_rfl) rfl ?_
    go_wp2
    refine HeldU.mk ?_
    refine plan_nil (Held2.mk ?_)
    go_wp2
    go_ret
    exact ⟨rfl, hc0.trans hq2⟩
  | false =>
    have hl := hb0 rfl
    clear hb0
    refine plan_uniG (by kernel_rfl) rfl ?_
    go_wp2
    refine HeldU.mk ?_
    refine plan_loadG 23 _ ⟨w.heap.size, 0, none⟩ (hV kd sz bk) rfl rfl rfl ldh ?_
    refine plan_uniG (by kernel_rfl) rfl ?_
    go_wp2
    refine HeldU.mk ?_
    refine plan_step ?_
    go_wp2_with (go_at_call 23; refine (laws_labelled _ kd sz bk s2 (.slice none 0 0) [] (BS.nil _ _) 0).mono ?_; rintro e3 w3 ⟨b2, rfl, hb2, hcm⟩)
    have hq3 := Chg.trans hq2 hcm
    refine HeldN.mk hq3 ?_
    cases b2 with
    | true =>
      have hlab := hb2 rfl
      have hsl : s2.size ≤ 249 := hlab.2.1
      clear hb2 hlab
      refine plan_step ?_
      go_wp2
      refine HeldN.mk hq3 ?_
      refine plan_step ?_
      go_wp2
      refine HeldN.mk hq3 ?_
      refine plan_uniG (by kernel_rfl) rfl ?_
      go_wp2
      refine HeldU.mk ?_
      refine plan_loadG 23 _ ⟨w.heap.size, 0, none⟩ (hV kd sz bk) rfl rfl rfl ldh ?_
      refine plan_uniG (by kernel_rfl) rfl ?_
      go_wp2
      refine HeldU.mk ?_
      refine plan_uniG (by kernel_rfl) rfl ?_
      go_wp2
      refine HeldU.mk ?_
      refine plan_uniG (by kernel_rfl) rfl ?_
      go_wp2
      refine HeldU.mk ?_
      refine plan_loadG 23 _ ⟨w.heap.size, 0, none⟩ (hV kd sz bk) rfl rfl rfl ldh ?_
      refine plan_uniG (by kernel_rfl) rfl ?_
      go_wp2
      refine HeldU.mk ?_
      refine plan_uniG (by kernel_rfl) rfl ?_
      go_wp2
      refine HeldU.mk ?_
      refine plan_uniG (by kernel_rfl) rfl ?_
      go_wp2
      refine HeldU.mk ?_
      refine plan_step ?_
      go_wp2_with (go_at_call 32; refine (impl_DeriveSecret K0 _ (hKB.chg hq3 (by simp)) kd sz bk _ x1 (by omega) (bB1.keep hq3) s2 (by omega) _ x3 (by omega) (bB3.keep hq3) hsl).mono ?_; rintro e4 w4 ⟨u1, rfl, f1⟩)
      have hq4 := Chg.trans hq3 f1.2.1
      rw [hfK_K0] at f1
      have bu1 := f1.bs0
      refine HeldN.mk hq4 ?_
      refine plan_step ?_
      go_wp2_with (go_at_call 24; refine (spec_DeriveSecret _ kd sz bk _ x1 (by omega) (bB1.keep hq4) s2 (by omega) _ x3 (by omega) (bB3.keep hq4)).mono ?_; rintro e5 w5 ⟨u2, rfl, f2⟩)
      have hq5 := Chg.trans hq4 f2.2.1
      have bu1 := BS.keep bu1 f2.2.1
      have bu2 := f2.bs0
      refine HeldN.mk hq5 ?_
      refine plan_step ?_
      go_wp2_with (go_at_call 17; refine (laws_same _ _ _ _ bu1 bu2).mono ?_; rintro e6 w6 ⟨rfl, hcs⟩)
      have hq6 := Chg.trans hq5 hcs
      have bu1 := BS.keep bu1 hcs
      have bu2 := BS.keep bu2 hcs
      refine HeldN.mk hq6 ?_
      refine plan_step ?_
      go_wp2
      refine HeldN.mk hq6 ?_
      refine plan_uniG (by kernel_rfl) rfl ?_
      go_wp2
      refine HeldU.mk ?_
      refine plan_nil (Held2.mk ?_)
      go_wp2
      go_ret
      exact ⟨rfl, hc0.trans hq6⟩
    | false =>
      refine plan_step ?_
      go_wp2
      refine HeldN.mk hq3 ?_
      refine plan_step ?_
      go_wp2
      refine HeldN.mk hq3 ?_
      refine plan_uniG (by kernel_rfl) rfl ?_
      go_wp2
      refine HeldU.mk ?_
      refine plan_skipG rfl ?_
      go_wp2
      refine HeldU.mk ?_
      refine plan_skipG rfl ?_
      go_wp2
      refine HeldU.mk ?_
      refine plan_skipG rfl ?_
      go_wp2
      refine HeldU.mk ?_
      refine plan_skipG rfl ?_
      go_wp2
      refine HeldU.mk ?_
      refine plan_skipG rfl ?_
      go_wp2
      refine HeldU.mk ?_
      refine plan_skipG rfl ?_
      go_wp2
      refine HeldU.mk ?_
      refine plan_skipG rfl ?_
      go_wp2
      refine HeldU.mk ?_
      refine plan_skipG rfl ?_
      go_wp2
      refine HeldU.mk ?_
      refine plan_step ?_
      go_wp2
      refine HeldN.mk hq3 ?_
      refine plan_step ?_
      go_wp2
      refine HeldN.mk hq3 ?_
      refine plan_step ?_
      go_wp2
      refine HeldN.mk hq3 ?_
      refine plan_step ?_
      go_wp2
      refine HeldN.mk hq3 ?_
      refine plan_uniG (by kernel_rfl) rfl ?_
      go_wp2
      refine HeldU.mk ?_
      refine plan_nil (Held2.mk ?_)
      go_wp2
      go_ret
      exact ⟨rfl, hc0.trans hq3⟩
end Go.Proofs.YtknoomndofnnmaaDoor
