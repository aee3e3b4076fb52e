/- The law FnSum, walked. -/
import Derived.Test.YtknoomndofnnmaaDoorImplSum
import Derived.Test.YtknoomndofnnmaaDoorSpecE
namespace Go.Proofs.YtknoomndofnnmaaDoor
open Go Go.RowKit

theorem BS.len {S : List Nat} {w : World} {v : Value} {xs : Bs} (h : BS S w v xs) : ∃ a c, v = .slice a xs.length c := by
  obtain ⟨a, c, hv, _⟩ := h
  exact ⟨a, c, hv⟩
set_option maxRecDepth 100000 in
set_option maxHeartbeats 2000000 in
theorem law_sum (w : World) (hK : KAt K0 w) (kd sz bk : Int) (v1 : Value) (x1 : Bs) (b1 : BS [] w v1 x1) :
    Calls Tryd.prog 3 #[hV kd sz bk, v1] w fun e w' => e = .returned (.bool true) ∧ Chg [] w w' := by
  obtain ⟨a1, c1, e1⟩ := b1.len
  have hc0 : Chg [] w (w.alloc (hObj kd sz bk)) := (Chg.refl [] w).alloc _
  by_cases g1 : (2147483647 : Int) < (x1.length : Int)
  · subst e1
    go_enter Tryd.func3, Tryd.ntmps3
    go_wp2
    go_ret
    exact ⟨rfl, hc0⟩
  · have E1 := Lib.hid e1
    subst e1
    go_enter Tryd.func3, Tryd.ntmps3
    go_upto_region 3 with fail
    obtain ⟨wB, hwB⟩ : ∃ wB, wB = w.alloc (hObj kd sz bk) := ⟨_, rfl⟩
    rw [← hwB] at hc0 ⊢
    have hrow : wB.heap[w.heap.size]? = some (hObj kd sz bk) := hwB ▸ heap_alloc_new w _
    have hKB := hK.chg hc0 (by simp)
    have bB1 := b1.keep hc0
    clear hwB
    have ldh : ∀ W, Chg [] wB W → (Instr.loadAt 23 (.pointer (some ⟨w.heap.size, 0, none⟩))).run Tryd.prog W = .ok (hV kd sz bk) W := fun W h => ld_hV (h.row hrow (by simp))
    refine region_held (fun w' => Chg [] wB w') [(0, true), (1, false), (2, false), (3, true), (4, true), (5, true), (7, true), (8, true), (6, false), (9, false), (10, false), (11, false), (12, false)] (by kernel_rfl) (by kernel_rfl) (Chg.refl [] wB).drew ?_
    change wpPlan _ _ _ _ [(_, true), (_, false), (_, false), (_, true), (_, true), (_, true), (_, true), (_, true), (_, false), (_, false), (_, false), (_, false), (_, false)] _ _
    refine plan_move (.tmp 1) rfl rfl ?_
    refine plan_step ?_
    go_wp2
    refine HeldN.mk ((Chg.refl [] wB).drew.alloc _) ?_
    refine plan_step ?_
    have hlong := laws_long1 (W := (wB.alloc (.cells #[.slice a1 x1.length c1] 24)).drew) x1 (heap_alloc_new wB _)
    go_wp2_with (go_at_call 16; refine hlong.mono ?_; rintro e w2 ⟨b, rfl, hb, hc2⟩)
    clear hlong
    have hB2 : Chg [] wB w2 := ((Chg.refl [] wB).alloc _).drew.trans hc2
    refine HeldN.mk hB2 ?_
    refine plan_move (.tmp 10) rfl rfl ?_
    cases b with
    | true =>
      iterate 4 (refine plan_skip rfl ?_)
      iterate 4 (refine plan_step ?_; go_wp2; refine HeldN.mk hB2 ?_)
      refine plan_step ?_
      go_wp2
      refine HeldN.mk hB2 (plan_nil (Held2.mk ?_))
      go_wp2
      go_ret
      exact ⟨rfl, hc0.trans hB2⟩
    | false =>
      have hl1 : x1.length ≤ 16384 := hb rfl
      clear hb
      refine plan_loadG 23 (.tmp 2) ⟨w.heap.size, 0, none⟩ (hV kd sz bk) rfl rfl rfl ldh ?_
      refine plan_move (.tmp 1) rfl rfl ?_
      refine plan_loadG 23 (.tmp 2) ⟨w.heap.size, 0, none⟩ (hV kd sz bk) rfl rfl rfl ldh ?_
      refine plan_move (.tmp 1) rfl rfl ?_
      refine plan_step ?_
      go_wp2_with (go_at_call 18; refine (impl_sum K0 _ (hKB.chg hB2 (by simp)) kd sz bk _ x1 (by omega) (bB1.keep hB2)).mono ?_; rintro e w3 ⟨u3, rfl, f3⟩)
      have hB3 := hB2.trans f3.2.1
      refine HeldN.mk hB3 ?_
      refine plan_step ?_
      go_wp2_with (go_at_call 19; refine (spec_hash _ kd sz bk _ x1 (by omega) (bB1.keep hB3)).mono ?_; rintro e w4 ⟨u4, rfl, f4⟩)
      have hB4 := hB3.trans f4.2.1
      rw [hfK_K0] at f3
      refine HeldN.mk hB4 ?_
      refine plan_step ?_
      go_wp2_with (go_at_call 17; refine (laws_same _ _ _ _ (f3.bs0.keep f4.2.1) f4.bs0).mono ?_; rintro e w5 ⟨rfl, hc5⟩)
      have hB5 := hB4.trans hc5
      refine HeldN.mk hB5 ?_
      refine plan_step ?_
      go_wp2
      refine HeldN.mk hB5 ?_
      refine plan_step ?_
      go_wp2
      refine HeldN.mk hB5 (plan_nil (Held2.mk ?_))
      go_wp2
      go_ret
      exact ⟨rfl, hc0.trans hB5⟩
end Go.Proofs.YtknoomndofnnmaaDoor
