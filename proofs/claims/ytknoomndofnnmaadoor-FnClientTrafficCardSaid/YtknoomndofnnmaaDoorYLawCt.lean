/- The law FnClientTraffic, walked. -/
import Derived.Test.YtknoomndofnnmaaDoorYLawD
namespace Go.Proofs.YtknoomndofnnmaaDoor
open Go Go.RowKit

set_option maxRecDepth 100000 in
set_option maxHeartbeats 4000000 in
theorem law_FnClientTraffic (w : World) (hK : KAt K0 w) (kd sz bk : Int) (v1 : Value) (x1 : Bs) (b1 : BS [] w v1 x1) (v2 : Value) (x2 : Bs) (b2 : BS [] w v2 x2) (v3 : Value) (x3 : Bs) (b3 : BS [] w v3 x3) :
    Calls Tryd.prog 13 #[hV kd sz bk, v1, v2, v3] w fun e w' => e = .returned (.bool true) ∧ Chg [] w w' := by
  obtain ⟨a1, c1, q1⟩ := b1.form
  obtain ⟨a2, c2, q2⟩ := b2.form
  obtain ⟨a3, c3, q3⟩ := b3.form
  subst q1 q2 q3
  have hc0 : Chg [] w (w.alloc (hObj kd sz bk)) := (Chg.refl [] w).alloc _
  by_cases g1 : (2147483647 : Int) < (x1.length : Int)
  · go_enter Tryd.func13, Tryd.ntmps13
    go_wp2
    go_ret
    exact ⟨rfl, hc0⟩
  by_cases g2 : (2147483647 : Int) < (x2.length : Int)
  · go_enter Tryd.func13, Tryd.ntmps13
    go_wp2
    go_ret
    exact ⟨rfl, hc0⟩
  by_cases g3 : (2147483647 : Int) < (x3.length : Int)
  · go_enter Tryd.func13, Tryd.ntmps13
    go_wp2
    go_ret
    exact ⟨rfl, hc0⟩
  go_enter Tryd.func13, Tryd.ntmps13
  go_upto_region 3 with fail
  obtain ⟨wB, hwB⟩ : ∃ wB, wB = w.alloc (hObj kd sz bk) := ⟨_, rfl⟩
  rw [← hwB] at hc0 ⊢
  have hrow : wB.heap[w.heap.size]? = some (hObj kd sz bk) := hwB ▸ heap_alloc_new w _
  have hKB := hK.chg hc0 (by simp)
  have bB1 := b1.keep hc0
  have bB2 := b2.keep hc0
  have bB3 := b3.keep hc0
  have ldh : ∀ W, Chg [] wB W → (Instr.loadAt 23 (.pointer (some ⟨w.heap.size, 0, none⟩))).run Tryd.prog W = .ok (hV kd sz bk) W := fun W h => ld_hV (h.row hrow (by simp))
  have hd0 : Chg [] wB wB.drew := (Chg.refl [] wB).drew
  have hok := HS_ok kd sz bk
  clear hwB b1 b2 b3 hK g1 g2 g3
  refine region_held (fun w' => Chg [] wB w') [(0, true), (1, true), (2, true), (3, false), (4, false), (5, true), (6, true), (7, true), (8, true), (9, true), (11, true), (12, true), (13, true), (14, true), (16, true), (10, false), (15, false), (17, false), (18, false), (19, false), (20, true)] (by kernel_rfl) (by kernel_rfl) hd0 ?_
  change wpPlan _ _ _ _ [(_, true), (_, true), (_, true), (_, false), (_, false), (_, true), (_, true), (_, true), (_, true), (_, true), (_, true), (_, true), (_, true), (_, true), (_, true), (_, false), (_, false), (_, false), (_, false), (_, false), (_, true)] _ _
  refine plan_uniG (by kernel_rfl) rfl ?_
  go_wp2
  refine HeldU.mk ?_
  refine plan_uniG (by kernel_rfl) rfl ?_
  go_wp2
  refine HeldU.mk ?_
  refine plan_uniG (by kernel_rfl) rfl ?_
  go_wp2
  refine HeldU.mk ?_
  refine plan_step ?_
  go_wp2
  have hq1 := Chg.alloc hd0 (.cells #[.slice a1 x1.length c1, .slice a2 x2.length c2, .slice a3 x3.length c3] 24)
  refine HeldN.mk hq1 ?_
  refine plan_step ?_
  go_wp2_with (go_at_call 16; refine (long_n3 (W := (wB.alloc (.cells #[.slice a1 x1.length c1, .slice a2 x2.length c2, .slice a3 x3.length c3] 24)).drew) x1.length x2.length x3.length (heap_alloc_new wB _)).mono ?_; rintro e2 w2 ⟨b0, rfl, hb0, hcl⟩)
  have hq2 := Chg.trans hq1 hcl
  refine HeldN.mk hq2 ?_
  cases b0 with
  | true =>
    refine plan_uniG (by kernel_rfl) rfl ?_
    go_wp2
    refine HeldU.mk ?_
    refine plan_skipG rfl ?_
    go_wp2
    refine HeldU.mk ?_
    refine plan_skipG rfl ?_
    go_wp2
    refine HeldU.mk ?_
    refine plan_skipG rfl ?_
    go_wp2
    refine HeldU.mk ?_
    refine plan_skipG rfl ?_
    go_wp2
    refine HeldU.mk ?_
    refine plan_skipG rfl ?_
    go_wp2
    refine HeldU.mk ?_
    refine plan_skipG rfl ?_
    go_wp2
    refine HeldU.mk ?_
    refine plan_skipG rfl ?_
    go_wp2
    refine HeldU.mk ?_
    refine plan_skipG rfl ?_
    go_wp2
    refine HeldU.mk ?_
    refine plan_skipG rfl ?_
    go_wp2
    refine HeldU.mk ?_
    refine plan_step ?_
    go_wp2
    refine HeldN.mk hq2 ?_
    refine plan_step ?_
    go_wp2
    refine HeldN.mk hq2 ?_
    refine plan_step ?_
    go_wp2
    refine HeldN.mk hq2 ?_
    refine plan_step ?_
    go_wp2
    refine HeldN.mk hq2 ?_
    refine plan_step ?_
    go_wp2
    refine HeldN.mk hq2 ?_
    refine plan_uniG (by kernel_rfl) rfl ?_
    go_wp2
    refine HeldU.mk ?_
    refine plan_nil (Held2.mk ?_)
    go_wp2
    go_ret
    exact ⟨rfl, hc0.trans hq2⟩
  | false =>
    have hl := hb0 rfl
    clear hb0
    refine plan_uniG (by kernel_rfl) rfl ?_
    go_wp2
    refine HeldU.mk ?_
    refine plan_loadG 23 _ ⟨w.heap.size, 0, none⟩ (hV kd sz bk) rfl rfl rfl ldh ?_
    refine plan_uniG (by kernel_rfl) rfl ?_
    go_wp2
    refine HeldU.mk ?_
    refine plan_uniG (by kernel_rfl) rfl ?_
    go_wp2
    refine HeldU.mk ?_
    refine plan_uniG (by kernel_rfl) rfl ?_
    go_wp2
    refine HeldU.mk ?_
    refine plan_loadG 23 _ ⟨w.heap.size, 0, none⟩ (hV kd sz bk) rfl rfl rfl ldh ?_
    refine plan_loadG 23 _ ⟨w.heap.size, 0, none⟩ (hV kd sz bk) rfl rfl rfl ldh ?_
    refine plan_uniG (by kernel_rfl) rfl ?_
    go_wp2
    refine HeldU.mk ?_
    refine plan_uniG (by kernel_rfl) rfl ?_
    go_wp2
    refine HeldU.mk ?_
    refine plan_uniG (by kernel_rfl) rfl ?_
    go_wp2
    refine HeldU.mk ?_
    refine plan_step ?_
    go_wp2_with (go_at_call 41; refine (impl_ClientTraffic K0 _ (hKB.chg hq2 (by simp)) kd sz bk _ x1 (by omega) (bB1.keep hq2) _ x2 (by omega) (bB2.keep hq2) _ x3 (by omega) (bB3.keep hq2)).mono ?_; rintro e3 w3 ⟨u1, rfl, f1⟩)
    have hq3 := Chg.trans hq2 f1.2.1
    rw [hfK_K0] at f1
    have bu1 := f1.bs0
    refine HeldN.mk hq3 ?_
    refine plan_step ?_
    go_wp2_with (go_at_call 25; refine (spec_Master _ kd sz bk _ x1 (by omega) (bB1.keep hq3) _ x2 (by omega) (bB2.keep hq3)).mono ?_; rintro e4 w4 ⟨u2, rfl, f2⟩)
    have hq4 := Chg.trans hq3 f2.2.1
    have bu1 := BS.keep bu1 f2.2.1
    have bu2 := f2.bs0
    refine HeldN.mk hq4 ?_
    refine plan_step ?_
    go_wp2_with (go_at_call 24; refine (spec_DeriveSecret _ kd sz bk u2 _ (Nat.le_trans (extractF_le hok _ _) (by omega)) bu2 lblCA (Nat.le_trans lblCA_size (by omega)) _ x3 (by omega) (bB3.keep hq4)).mono ?_; rintro e5 w5 ⟨u3, rfl, f3⟩)
    have hq5 := Chg.trans hq4 f3.2.1
    have bu1 := BS.keep bu1 f3.2.1
    have bu2 := BS.keep bu2 f3.2.1
    have bu3 := f3.bs0
    refine HeldN.mk hq5 ?_
    refine plan_step ?_
    go_wp2_with (go_at_call 17; refine (laws_same _ _ _ _ bu1 bu3).mono ?_; rintro e6 w6 ⟨rfl, hcs⟩)
    have hq6 := Chg.trans hq5 hcs
    have bu1 := BS.keep bu1 hcs
    have bu2 := BS.keep bu2 hcs
    have bu3 := BS.keep bu3 hcs
    refine HeldN.mk hq6 ?_
    refine plan_step ?_
    go_wp2
    refine HeldN.mk hq6 ?_
    refine plan_uniG (by kernel_rfl) rfl ?_
    go_wp2
    refine HeldU.mk ?_
    refine plan_nil (Held2.mk ?_)
    go_wp2
    go_ret
    exact ⟨rfl, hc0.trans hq6⟩
end Go.Proofs.YtknoomndofnnmaaDoor
