/- The thin package: ExpandLabel, Extract, DeriveSecret. -/
import Derived.Test.YtknoomndofnnmaaDoorTlsC
namespace Go.Proofs.YtknoomndofnnmaaDoor
open Go Go.RowKit

set_option maxRecDepth 100000 in
set_option maxHeartbeats 2000000 in
theorem impl_ExpandLabel (K : List UInt32) (w : World) (hK : KAt K w) (kd sz bk : Int) (v0 : Value) (x0 : Bs) (l0 : x0.length ≤ 16384) (b0 : BS [] w v0 x0) (s1 : ByteArray) (l1 : s1.size ≤ 16384) (v2 : Value) (x2 : Bs) (l2 : x2.length ≤ 16384) (b2 : BS [] w v2 x2) (i3 : Nat) (l3 : i3 ≤ 100000) (h1 : s1.size ≤ 249) (h2 : x2.length ≤ 255) (h3 : i3 ≤ 255 * (hfK K (kdOf kd sz bk)).sz) :
    Calls Tryd.prog 36 #[hV kd sz bk, v0, .string s1, v2, .int .i64 (i3 : Int)] w (Gives w (expandLabelF (hfK K (kdOf kd sz bk)) x0 (sb s1) x2 i3)) := by
  have hc0 : Chg [] w (w.alloc (hObj kd sz bk)) := (Chg.refl [] w).alloc _
  by_cases hk : kd = 1
  · subst hk
    rw [kdOf_one]
    go_enter Tryd.func36, Tryd.ntmps36
    go_wp2_with (first | (go_at_call 44; refine (impl_copied _ v0 x0 (by omega) (b0.keep hc0)).mono ?_; rintro e w2 ⟨u0, rfl, f0, n0⟩; have hc1 := (hc0).trans f0.2.1) | (go_at_call 44; refine (impl_copied _ v2 x2 (by omega) (b2.keep hc1)).mono ?_; rintro e w3 ⟨u2, rfl, f2, n2⟩; have hc2 := (hc1).trans f2.2.1) | (go_at_call 72; refine (xlabel_digest K _ newV [0] (maker_digest (hK.chg hc2 (by simp))) x0 _ s1 x2 _ (by omega) (by omega) (by omega) i3 h3 (f0.bs0.keep f2.2.1) f2.bs0).mono ?_; rintro e wz ⟨uz, rfl, fz⟩))
    go_ret
    exact ⟨_, rfl, fz.from hc2⟩
  · rw [kdOf_own hk]
    go_enter Tryd.func36, Tryd.ntmps36
    go_upto_region 3 with fail
    obtain ⟨wB, hwB⟩ : ∃ wB, wB = w.alloc (hObj kd sz bk) := ⟨_, rfl⟩
    rw [← hwB] at hc0 ⊢
    have hrow : wB.heap[w.heap.size]? = some (hObj kd sz bk) := hwB ▸ heap_alloc_new w _
    clear hwB
    have ldh : ∀ W, Chg [] wB W → (Instr.loadAt 23 (.pointer (some ⟨w.heap.size, 0, none⟩))).run Tryd.prog W = .ok (hV kd sz bk) W := fun W h => ld_hV (h.row hrow (by simp))
    have hd0 : Chg [] wB wB.drew := (Chg.refl [] wB).drew
    refine region_held (fun w' => Chg [] wB w') [(0, true), (1, true), (2, true), (4, true), (5, true), (7, true), (3, false), (6, false), (8, false), (9, true)] (by kernel_rfl) (by kernel_rfl) hd0 ?_
    change wpPlan _ _ _ _ [(_, true), (_, true), (_, true), (_, true), (_, true), (_, true), (_, false), (_, false), (_, false), (_, true)] _ _
    iterate 6 (first | refine plan_move _ rfl rfl ?_ | refine plan_assign _ rfl rfl ?_ | refine plan_loadG 23 _ ⟨w.heap.size, 0, none⟩ (hV kd sz bk) rfl rfl rfl ldh ?_ | refine plan_makeFunc _ _ _ rfl rfl ?_)
    refine plan_step ?_
    go_wp2_with (go_at_call 44; refine (impl_copied _ v0 x0 (by omega) (b0.keep (hc0.trans hd0))).mono ?_; rintro e w2 ⟨u0, rfl, f0, n0⟩)
    have hd1 := hd0.trans f0.2.1
    refine HeldN.mk hd1 ?_
    refine plan_step ?_
    go_wp2_with (go_at_call 44; refine (impl_copied _ v2 x2 (by omega) (b2.keep (hc0.trans hd1))).mono ?_; rintro e w3 ⟨u2, rfl, f2, n2⟩)
    have hd2 := hd1.trans f2.2.1
    refine HeldN.mk hd2 ?_
    refine plan_step ?_
    go_wp2_with (go_at_call 73; refine (xlabel_own K (ownSz sz bk, ownBk sz bk) _ (freshV kd sz bk) [0] (maker_own (hK.chg (hc0.trans hd2) (by simp)) kd sz bk) x0 _ s1 x2 _ (by omega) (by omega) (by omega) i3 (by rw [kdOf_own hk] at h3; exact h3) (f0.bs0.keep f2.2.1) f2.bs0).mono ?_; rintro e wz ⟨uz, rfl, fz⟩)
    have hd3 := hd2.trans fz.2.1
    refine HeldN.mk hd3 ?_
    iterate 1 (first | refine plan_move _ rfl rfl ?_ | refine plan_assign _ rfl rfl ?_ | refine plan_loadG 23 _ ⟨w.heap.size, 0, none⟩ (hV kd sz bk) rfl rfl rfl ldh ?_ | refine plan_makeFunc _ _ _ rfl rfl ?_)
    refine plan_nil (Held2.mk ?_)
    go_wp2
    go_ret
    exact ⟨_, rfl, fz.from (hc0.trans hd2)⟩
set_option maxRecDepth 100000 in
set_option maxHeartbeats 2000000 in
theorem impl_Extract (K : List UInt32) (w : World) (hK : KAt K w) (kd sz bk : Int) (v0 : Value) (x0 : Bs) (l0 : x0.length ≤ 16384) (b0 : BS [] w v0 x0) (v1 : Value) (x1 : Bs) (l1 : x1.length ≤ 16384) (b1 : BS [] w v1 x1) :
    Calls Tryd.prog 31 #[hV kd sz bk, v0, v1] w (Gives w (extractF (hfK K (kdOf kd sz bk)) (orZeros (hfK K (kdOf kd sz bk)) x0) x1)) := by
  have hc0 : Chg [] w (w.alloc (hObj kd sz bk)) := (Chg.refl [] w).alloc _
  by_cases hk : kd = 1
  · subst hk
    rw [kdOf_one]
    go_enter Tryd.func31, Tryd.ntmps31
    go_wp2_with (first | (go_at_call 44; refine (impl_copied _ v0 x0 (by omega) (b0.keep hc0)).mono ?_; rintro e w2 ⟨u0, rfl, f0, n0⟩; have hc1 := (hc0).trans f0.2.1) | (go_at_call 44; refine (impl_copied _ v1 x1 (by omega) (b1.keep hc1)).mono ?_; rintro e w3 ⟨u1, rfl, f1, n1⟩; have hc2 := (hc1).trans f1.2.1) | (go_at_call 65; refine (zzextract_digest K _ newV [0] (maker_digest (hK.chg hc2 (by simp))) x0 x1 _ _ (by omega) (by omega) (f0.bs0.keep f1.2.1) f1.bs0 n0).mono ?_; rintro e wz ⟨uz, rfl, fz⟩))
    go_ret
    exact ⟨_, rfl, fz.from hc2⟩
  · rw [kdOf_own hk]
    go_enter Tryd.func31, Tryd.ntmps31
    go_upto_region 3 with fail
    obtain ⟨wB, hwB⟩ : ∃ wB, wB = w.alloc (hObj kd sz bk) := ⟨_, rfl⟩
    rw [← hwB] at hc0 ⊢
    have hrow : wB.heap[w.heap.size]? = some (hObj kd sz bk) := hwB ▸ heap_alloc_new w _
    clear hwB
    have ldh : ∀ W, Chg [] wB W → (Instr.loadAt 23 (.pointer (some ⟨w.heap.size, 0, none⟩))).run Tryd.prog W = .ok (hV kd sz bk) W := fun W h => ld_hV (h.row hrow (by simp))
    have hd0 : Chg [] wB wB.drew := (Chg.refl [] wB).drew
    refine region_held (fun w' => Chg [] wB w') [(0, true), (1, true), (2, true), (4, true), (3, false), (5, false), (6, false), (7, true)] (by kernel_rfl) (by kernel_rfl) hd0 ?_
    change wpPlan _ _ _ _ [(_, true), (_, true), (_, true), (_, true), (_, false), (_, false), (_, false), (_, true)] _ _
    iterate 4 (first | refine plan_move _ rfl rfl ?_ | refine plan_assign _ rfl rfl ?_ | refine plan_loadG 23 _ ⟨w.heap.size, 0, none⟩ (hV kd sz bk) rfl rfl rfl ldh ?_ | refine plan_makeFunc _ _ _ rfl rfl ?_)
    refine plan_step ?_
    go_wp2_with (go_at_call 44; refine (impl_copied _ v0 x0 (by omega) (b0.keep (hc0.trans hd0))).mono ?_; rintro e w2 ⟨u0, rfl, f0, n0⟩)
    have hd1 := hd0.trans f0.2.1
    refine HeldN.mk hd1 ?_
    refine plan_step ?_
    go_wp2_with (go_at_call 44; refine (impl_copied _ v1 x1 (by omega) (b1.keep (hc0.trans hd1))).mono ?_; rintro e w3 ⟨u1, rfl, f1, n1⟩)
    have hd2 := hd1.trans f1.2.1
    refine HeldN.mk hd2 ?_
    refine plan_step ?_
    go_wp2_with (go_at_call 66; refine (zzextract_own K (ownSz sz bk, ownBk sz bk) _ (freshV kd sz bk) [0] (maker_own (hK.chg (hc0.trans hd2) (by simp)) kd sz bk) x0 x1 _ _ (by omega) (by omega) (f0.bs0.keep f1.2.1) f1.bs0 n0).mono ?_; rintro e wz ⟨uz, rfl, fz⟩)
    have hd3 := hd2.trans fz.2.1
    refine HeldN.mk hd3 ?_
    iterate 1 (first | refine plan_move _ rfl rfl ?_ | refine plan_assign _ rfl rfl ?_ | refine plan_loadG 23 _ ⟨w.heap.size, 0, none⟩ (hV kd sz bk) rfl rfl rfl ldh ?_ | refine plan_makeFunc _ _ _ rfl rfl ?_)
    refine plan_nil (Held2.mk ?_)
    go_wp2
    go_ret
    exact ⟨_, rfl, fz.from (hc0.trans hd2)⟩
set_option maxRecDepth 100000 in
set_option maxHeartbeats 2000000 in
theorem impl_DeriveSecret (K : List UInt32) (w : World) (hK : KAt K w) (kd sz bk : Int) (v0 : Value) (x0 : Bs) (l0 : x0.length ≤ 16384) (b0 : BS [] w v0 x0) (s1 : ByteArray) (l1 : s1.size ≤ 16384) (v2 : Value) (x2 : Bs) (l2 : x2.length ≤ 16384) (b2 : BS [] w v2 x2) (h1 : s1.size ≤ 249) :
    Calls Tryd.prog 32 #[hV kd sz bk, v0, .string s1, v2] w (Gives w (deriveF (hfK K (kdOf kd sz bk)) x0 (sb s1) x2)) := by
  have hc0 : Chg [] w (w.alloc (hObj kd sz bk)) := (Chg.refl [] w).alloc _
  by_cases hk : kd = 1
  · subst hk
    rw [kdOf_one]
    go_enter Tryd.func32, Tryd.ntmps32
    go_upto_region 2 with fail
    obtain ⟨wB, hwB⟩ : ∃ wB, wB = w.alloc (hObj 1 sz bk) := ⟨_, rfl⟩
    rw [← hwB] at hc0 ⊢
    have hrow : wB.heap[w.heap.size]? = some (hObj 1 sz bk) := hwB ▸ heap_alloc_new w _
    clear hwB
    have ldh : ∀ W, Chg [] wB W → (Instr.loadAt 23 (.pointer (some ⟨w.heap.size, 0, none⟩))).run Tryd.prog W = .ok (hV 1 sz bk) W := fun W h => ld_hV (h.row hrow (by simp))
    have hd0 : Chg [] wB wB.drew := (Chg.refl [] wB).drew
    refine region_held (fun w' => Chg [] wB w') [(0, true), (2, true), (3, true), (4, true), (1, false), (5, false), (6, false), (7, true)] (by kernel_rfl) (by kernel_rfl) hd0 ?_
    change wpPlan _ _ _ _ [(_, true), (_, true), (_, true), (_, true), (_, false), (_, false), (_, false), (_, true)] _ _
    iterate 4 (first | refine plan_move _ rfl rfl ?_ | refine plan_assign _ rfl rfl ?_ | refine plan_loadG 23 _ ⟨w.heap.size, 0, none⟩ (hV 1 sz bk) rfl rfl rfl ldh ?_ | refine plan_makeFunc _ _ _ rfl rfl ?_)
    refine plan_step ?_
    go_wp2_with (go_at_call 44; refine (impl_copied _ v0 x0 (by omega) (b0.keep (hc0.trans hd0))).mono ?_; rintro e w2 ⟨u0, rfl, f0, n0⟩)
    have hd1 := hd0.trans f0.2.1
    refine HeldN.mk hd1 ?_
    refine plan_step ?_
    go_wp2_with (go_at_call 53; refine (impl_said K _ (hK.chg (hc0.trans hd1) (by simp)) 1 sz bk _ x2 (by omega) (b2.keep (hc0.trans hd1))).mono ?_; rintro e w3 ⟨pq, qq, rfl, hh, hcs⟩)
    have hd2 := hd1.trans hcs
    refine HeldN.mk hd2 ?_
    rw [kdOf_one] at hh
    refine plan_step ?_
    go_wp2_with (go_at_call 67; refine (zzderive_digest K _ newV [0] (maker_digest (hK.chg (hc0.trans hd2) (by simp))) x0 _ s1 _ x2 (by omega) h1 (by omega) (f0.bs0.keep hcs) (.inr ⟨pq, qq, rfl, hh⟩)).mono ?_; rintro e wz ⟨uz, rfl, fz⟩)
    have hd3 := hd2.trans fz.2.1
    refine HeldN.mk hd3 ?_
    iterate 1 (first | refine plan_move _ rfl rfl ?_ | refine plan_assign _ rfl rfl ?_ | refine plan_loadG 23 _ ⟨w.heap.size, 0, none⟩ (hV 1 sz bk) rfl rfl rfl ldh ?_ | refine plan_makeFunc _ _ _ rfl rfl ?_)
    refine plan_nil (Held2.mk ?_)
    go_wp2
    go_ret
    exact ⟨_, rfl, fz.from (hc0.trans hd2)⟩
  · rw [kdOf_own hk]
    go_enter Tryd.func32, Tryd.ntmps32
    go_upto_region 3 with fail
    obtain ⟨wB, hwB⟩ : ∃ wB, wB = w.alloc (hObj kd sz bk) := ⟨_, rfl⟩
    rw [← hwB] at hc0 ⊢
    have hrow : wB.heap[w.heap.size]? = some (hObj kd sz bk) := hwB ▸ heap_alloc_new w _
    clear hwB
    have ldh : ∀ W, Chg [] wB W → (Instr.loadAt 23 (.pointer (some ⟨w.heap.size, 0, none⟩))).run Tryd.prog W = .ok (hV kd sz bk) W := fun W h => ld_hV (h.row hrow (by simp))
    have hd0 : Chg [] wB wB.drew := (Chg.refl [] wB).drew
    refine region_held (fun w' => Chg [] wB w') [(0, true), (1, true), (2, true), (4, true), (5, true), (6, true), (3, false), (7, false), (8, false), (9, true)] (by kernel_rfl) (by kernel_rfl) hd0 ?_
    change wpPlan _ _ _ _ [(_, true), (_, true), (_, true), (_, true), (_, true), (_, true), (_, false), (_, false), (_, false), (_, true)] _ _
    iterate 6 (first | refine plan_move _ rfl rfl ?_ | refine plan_assign _ rfl rfl ?_ | refine plan_loadG 23 _ ⟨w.heap.size, 0, none⟩ (hV kd sz bk) rfl rfl rfl ldh ?_ | refine plan_makeFunc _ _ _ rfl rfl ?_)
    refine plan_step ?_
    go_wp2_with (go_at_call 44; refine (impl_copied _ v0 x0 (by omega) (b0.keep (hc0.trans hd0))).mono ?_; rintro e w2 ⟨u0, rfl, f0, n0⟩)
    have hd1 := hd0.trans f0.2.1
    refine HeldN.mk hd1 ?_
    refine plan_step ?_
    go_wp2_with (go_at_call 53; refine (impl_said K _ (hK.chg (hc0.trans hd1) (by simp)) kd sz bk _ x2 (by omega) (b2.keep (hc0.trans hd1))).mono ?_; rintro e w3 ⟨pq, qq, rfl, hh, hcs⟩)
    have hd2 := hd1.trans hcs
    refine HeldN.mk hd2 ?_
    rw [kdOf_own hk] at hh
    refine plan_step ?_
    go_wp2_with (go_at_call 68; refine (zzderive_own K (ownSz sz bk, ownBk sz bk) _ (freshV kd sz bk) [0] (maker_own (hK.chg (hc0.trans hd2) (by simp)) kd sz bk) x0 _ s1 _ x2 (by omega) h1 (by omega) (f0.bs0.keep hcs) (.inr ⟨pq, qq, by rw [kdOf_own hk], hh⟩)).mono ?_; rintro e wz ⟨uz, rfl, fz⟩)
    have hd3 := hd2.trans fz.2.1
    refine HeldN.mk hd3 ?_
    iterate 1 (first | refine plan_move _ rfl rfl ?_ | refine plan_assign _ rfl rfl ?_ | refine plan_loadG 23 _ ⟨w.heap.size, 0, none⟩ (hV kd sz bk) rfl rfl rfl ldh ?_ | refine plan_makeFunc _ _ _ rfl rfl ?_)
    refine plan_nil (Held2.mk ?_)
    go_wp2
    go_ret
    exact ⟨_, rfl, fz.from (hc0.trans hd2)⟩
end Go.Proofs.YtknoomndofnnmaaDoor
