/- The thin package: PRF, Master, PHash. -/
import Derived.Test.YtknoomndofnnmaaTls12
import Derived.Test.YtknoomndofnnmaaMakers
namespace Go.Proofs.Ytknoomndofnnmaa
open Go Go.RowKit

set_option maxRecDepth 100000 in
set_option maxHeartbeats 2000000 in
theorem impl_PRF (K : List UInt32) (w : World) (hK : KAt K w) (kd sz bk : Int) (v0 : Value) (x0 : Bs) (l0 : x0.length ≤ 16384) (b0 : BS [] w v0 x0) (s1 : ByteArray) (l1 : s1.size ≤ 16384) (v2 : Value) (x2 : Bs) (l2 : x2.length ≤ 16384) (b2 : BS [] w v2 x2) (i3 : Nat) (l3 : i3 ≤ 100000) :
    Calls Try.prog 24 #[hV kd sz bk, v0, .string s1, v2, .int .i64 (i3 : Int)] w (Gives w (phashF (hfK K (kdOf kd sz bk)) x0 (sb s1 ++ x2) i3)) := by
  have hc0 : Chg [] w (w.alloc (hObj kd sz bk)) := (Chg.refl [] w).alloc _
  by_cases hk : kd = 1
  · subst hk
    rw [kdOf_one]
    go_enter Try.func24, Try.ntmps24
    go_wp2_with (first | (go_at_call 41; refine (impl_copied _ v0 x0 (by omega) (b0.keep hc0)).mono ?_; rintro e w2 ⟨u0, rfl, f0, n0⟩; have hc1 := (hc0).trans f0.2.1) | (go_at_call 41; refine (impl_copied _ v2 x2 (by omega) (b2.keep hc1)).mono ?_; rintro e w3 ⟨u2, rfl, f2, n2⟩; have hc2 := (hc1).trans f2.2.1) | (go_at_call 47; refine (prf_digest K _ newV [0] (maker_digest (hK.chg hc2 (by simp))) x0 x2 s1 _ _ (by omega) (by omega) (by omega) i3 (by omega) (f0.bs0.keep f2.2.1) f2.bs0).mono ?_; rintro e wz ⟨uz, rfl, fz⟩))
    go_ret
    exact ⟨_, rfl, fz.from hc2⟩
  · rw [kdOf_own hk]
    go_enter Try.func24, Try.ntmps24
    go_upto_region 3 with fail
    obtain ⟨wB, hwB⟩ : ∃ wB, wB = w.alloc (hObj kd sz bk) := ⟨_, rfl⟩
    rw [← hwB] at hc0 ⊢
    have hrow : wB.heap[w.heap.size]? = some (hObj kd sz bk) := hwB ▸ heap_alloc_new w _
    clear hwB
    have ldh : ∀ W, Chg [] wB W → (Instr.loadAt 23 (.pointer (some ⟨w.heap.size, 0, none⟩))).run Try.prog W = .ok (hV kd sz bk) W := fun W h => ld_hV (h.row hrow (by simp))
    have hd0 : Chg [] wB wB.drew := (Chg.refl [] wB).drew
    refine region_held (fun w' => Chg [] wB w') [(0, true), (1, true), (2, true), (4, true), (5, true), (7, true), (3, false), (6, false), (8, false), (9, true)] (by kernel_rfl) (by kernel_rfl) hd0 ?_
    change wpPlan _ _ _ _ [(_, true), (_, true), (_, true), (_, true), (_, true), (_, true), (_, false), (_, false), (_, false), (_, true)] _ _
    iterate 6 (first | refine plan_move _ rfl rfl ?_ | refine plan_assign _ rfl rfl ?_ | refine plan_loadG 23 _ ⟨w.heap.size, 0, none⟩ (hV kd sz bk) rfl rfl rfl ldh ?_ | refine plan_makeFunc _ _ _ rfl rfl ?_)
    refine plan_step ?_
    go_wp2_with (go_at_call 41; refine (impl_copied _ v0 x0 (by omega) (b0.keep (hc0.trans hd0))).mono ?_; rintro e w2 ⟨u0, rfl, f0, n0⟩)
    have hd1 := hd0.trans f0.2.1
    refine HeldN.mk hd1 ?_
    refine plan_step ?_
    go_wp2_with (go_at_call 41; refine (impl_copied _ v2 x2 (by omega) (b2.keep (hc0.trans hd1))).mono ?_; rintro e w3 ⟨u2, rfl, f2, n2⟩)
    have hd2 := hd1.trans f2.2.1
    refine HeldN.mk hd2 ?_
    refine plan_step ?_
    go_wp2_with (go_at_call 48; refine (prf_own K (ownSz sz bk, ownBk sz bk) _ (freshV kd sz bk) [0] (maker_own (hK.chg (hc0.trans hd2) (by simp)) kd sz bk) x0 x2 s1 _ _ (by omega) (by omega) (by omega) i3 (by omega) (f0.bs0.keep f2.2.1) f2.bs0).mono ?_; rintro e wz ⟨uz, rfl, fz⟩)
    have hd3 := hd2.trans fz.2.1
    refine HeldN.mk hd3 ?_
    iterate 1 (first | refine plan_move _ rfl rfl ?_ | refine plan_assign _ rfl rfl ?_ | refine plan_loadG 23 _ ⟨w.heap.size, 0, none⟩ (hV kd sz bk) rfl rfl rfl ldh ?_ | refine plan_makeFunc _ _ _ rfl rfl ?_)
    refine plan_nil (Held2.mk ?_)
    go_wp2
    go_ret
    exact ⟨_, rfl, fz.from (hc0.trans hd2)⟩
set_option maxRecDepth 100000 in
set_option maxHeartbeats 2000000 in
theorem impl_Master (K : List UInt32) (w : World) (hK : KAt K w) (kd sz bk : Int) (v0 : Value) (x0 : Bs) (l0 : x0.length ≤ 16384) (b0 : BS [] w v0 x0) (v1 : Value) (x1 : Bs) (l1 : x1.length ≤ 16384) (b1 : BS [] w v1 x1) :
    Calls Try.prog 25 #[hV kd sz bk, v0, v1] w (Gives w (phashF (hfK K (kdOf kd sz bk)) x0 (sb extS ++ x1) 48)) := by
  have hc0 : Chg [] w (w.alloc (hObj kd sz bk)) := (Chg.refl [] w).alloc _
  by_cases hk : kd = 1
  · subst hk
    rw [kdOf_one]
    go_enter Try.func25, Try.ntmps25
    go_wp2_with (first | (go_at_call 41; refine (impl_copied _ v0 x0 (by omega) (b0.keep hc0)).mono ?_; rintro e w2 ⟨u0, rfl, f0, n0⟩; have hc1 := (hc0).trans f0.2.1) | (go_at_call 41; refine (impl_copied _ v1 x1 (by omega) (b1.keep hc1)).mono ?_; rintro e w3 ⟨u1, rfl, f1, n1⟩; have hc2 := (hc1).trans f1.2.1) | (go_at_call 49; refine (master_digest K _ newV [0] (maker_digest (hK.chg hc2 (by simp))) x0 x1 _ _ (by omega) (by omega) (f0.bs0.keep f1.2.1) f1.bs0).mono ?_; rintro e wz ⟨uz, rfl, fz⟩))
    go_ret
    exact ⟨_, rfl, fz.from hc2⟩
  · rw [kdOf_own hk]
    go_enter Try.func25, Try.ntmps25
    go_upto_region 3 with fail
    obtain ⟨wB, hwB⟩ : ∃ wB, wB = w.alloc (hObj kd sz bk) := ⟨_, rfl⟩
    rw [← hwB] at hc0 ⊢
    have hrow : wB.heap[w.heap.size]? = some (hObj kd sz bk) := hwB ▸ heap_alloc_new w _
    clear hwB
    have ldh : ∀ W, Chg [] wB W → (Instr.loadAt 23 (.pointer (some ⟨w.heap.size, 0, none⟩))).run Try.prog W = .ok (hV kd sz bk) W := fun W h => ld_hV (h.row hrow (by simp))
    have hd0 : Chg [] wB wB.drew := (Chg.refl [] wB).drew
    refine region_held (fun w' => Chg [] wB w') [(0, true), (1, true), (2, true), (4, true), (3, false), (5, false), (6, false), (7, true)] (by kernel_rfl) (by kernel_rfl) hd0 ?_
    change wpPlan _ _ _ _ [(_, true), (_, true), (_, true), (_, true), (_, false), (_, false), (_, false), (_, true)] _ _
    iterate 4 (first | refine plan_move _ rfl rfl ?_ | refine plan_assign _ rfl rfl ?_ | refine plan_loadG 23 _ ⟨w.heap.size, 0, none⟩ (hV kd sz bk) rfl rfl rfl ldh ?_ | refine plan_makeFunc _ _ _ rfl rfl ?_)
    refine plan_step ?_
    go_wp2_with (go_at_call 41; refine (impl_copied _ v0 x0 (by omega) (b0.keep (hc0.trans hd0))).mono ?_; rintro e w2 ⟨u0, rfl, f0, n0⟩)
    have hd1 := hd0.trans f0.2.1
    refine HeldN.mk hd1 ?_
    refine plan_step ?_
    go_wp2_with (go_at_call 41; refine (impl_copied _ v1 x1 (by omega) (b1.keep (hc0.trans hd1))).mono ?_; rintro e w3 ⟨u1, rfl, f1, n1⟩)
    have hd2 := hd1.trans f1.2.1
    refine HeldN.mk hd2 ?_
    refine plan_step ?_
    go_wp2_with (go_at_call 50; refine (master_own K (ownSz sz bk, ownBk sz bk) _ (freshV kd sz bk) [0] (maker_own (hK.chg (hc0.trans hd2) (by simp)) kd sz bk) x0 x1 _ _ (by omega) (by omega) (f0.bs0.keep f1.2.1) f1.bs0).mono ?_; rintro e wz ⟨uz, rfl, fz⟩)
    have hd3 := hd2.trans fz.2.1
    refine HeldN.mk hd3 ?_
    iterate 1 (first | refine plan_move _ rfl rfl ?_ | refine plan_assign _ rfl rfl ?_ | refine plan_loadG 23 _ ⟨w.heap.size, 0, none⟩ (hV kd sz bk) rfl rfl rfl ldh ?_ | refine plan_makeFunc _ _ _ rfl rfl ?_)
    refine plan_nil (Held2.mk ?_)
    go_wp2
    go_ret
    exact ⟨_, rfl, fz.from (hc0.trans hd2)⟩
set_option maxRecDepth 100000 in
set_option maxHeartbeats 2000000 in
theorem impl_PHash (K : List UInt32) (w : World) (hK : KAt K w) (kd sz bk : Int) (v0 : Value) (x0 : Bs) (l0 : x0.length ≤ 16384) (b0 : BS [] w v0 x0) (v1 : Value) (x1 : Bs) (l1 : x1.length ≤ 16384) (b1 : BS [] w v1 x1) (i2 : Nat) (l2 : i2 ≤ 100000) :
    Calls Try.prog 19 #[hV kd sz bk, v0, v1, .int .i64 (i2 : Int)] w (Gives w (phashF (hfK K (kdOf kd sz bk)) x0 x1 i2)) := by
  have hc0 : Chg [] w (w.alloc (hObj kd sz bk)) := (Chg.refl [] w).alloc _
  by_cases hk : kd = 1
  · subst hk
    rw [kdOf_one]
    go_enter Try.func19, Try.ntmps19
    go_wp2_with (first | (go_at_call 41; refine (impl_copied _ v0 x0 (by omega) (b0.keep hc0)).mono ?_; rintro e w2 ⟨u0, rfl, f0, n0⟩; have hc1 := (hc0).trans f0.2.1) | (go_at_call 41; refine (impl_copied _ v1 x1 (by omega) (b1.keep hc1)).mono ?_; rintro e w3 ⟨u1, rfl, f1, n1⟩; have hc2 := (hc1).trans f1.2.1) | (go_at_call 39; refine (zzphash_digest K _ newV [0] (maker_digest (hK.chg hc2 (by simp))) x0 x1 _ _ (by omega) (by omega) i2 (by omega) (f0.bs0.keep f1.2.1) f1.bs0).mono ?_; rintro e wz ⟨uz, rfl, fz⟩))
    go_ret
    exact ⟨_, rfl, fz.from hc2⟩
  · rw [kdOf_own hk]
    go_enter Try.func19, Try.ntmps19
    go_upto_region 3 with fail
    obtain ⟨wB, hwB⟩ : ∃ wB, wB = w.alloc (hObj kd sz bk) := ⟨_, rfl⟩
    rw [← hwB] at hc0 ⊢
    have hrow : wB.heap[w.heap.size]? = some (hObj kd sz bk) := hwB ▸ heap_alloc_new w _
    clear hwB
    have ldh : ∀ W, Chg [] wB W → (Instr.loadAt 23 (.pointer (some ⟨w.heap.size, 0, none⟩))).run Try.prog W = .ok (hV kd sz bk) W := fun W h => ld_hV (h.row hrow (by simp))
    have hd0 : Chg [] wB wB.drew := (Chg.refl [] wB).drew
    refine region_held (fun w' => Chg [] wB w') [(0, true), (1, true), (2, true), (4, true), (6, true), (3, false), (5, false), (7, false), (8, true)] (by kernel_rfl) (by kernel_rfl) hd0 ?_
    change wpPlan _ _ _ _ [(_, true), (_, true), (_, true), (_, true), (_, true), (_, false), (_, false), (_, false), (_, true)] _ _
    iterate 5 (first | refine plan_move _ rfl rfl ?_ | refine plan_assign _ rfl rfl ?_ | refine plan_loadG 23 _ ⟨w.heap.size, 0, none⟩ (hV kd sz bk) rfl rfl rfl ldh ?_ | refine plan_makeFunc _ _ _ rfl rfl ?_)
    refine plan_step ?_
    go_wp2_with (go_at_call 41; refine (impl_copied _ v0 x0 (by omega) (b0.keep (hc0.trans hd0))).mono ?_; rintro e w2 ⟨u0, rfl, f0, n0⟩)
    have hd1 := hd0.trans f0.2.1
    refine HeldN.mk hd1 ?_
    refine plan_step ?_
    go_wp2_with (go_at_call 41; refine (impl_copied _ v1 x1 (by omega) (b1.keep (hc0.trans hd1))).mono ?_; rintro e w3 ⟨u1, rfl, f1, n1⟩)
    have hd2 := hd1.trans f1.2.1
    refine HeldN.mk hd2 ?_
    refine plan_step ?_
    go_wp2_with (go_at_call 42; refine (zzphash_own K (ownSz sz bk, ownBk sz bk) _ (freshV kd sz bk) [0] (maker_own (hK.chg (hc0.trans hd2) (by simp)) kd sz bk) x0 x1 _ _ (by omega) (by omega) i2 (by omega) (f0.bs0.keep f1.2.1) f1.bs0).mono ?_; rintro e wz ⟨uz, rfl, fz⟩)
    have hd3 := hd2.trans fz.2.1
    refine HeldN.mk hd3 ?_
    iterate 1 (first | refine plan_move _ rfl rfl ?_ | refine plan_assign _ rfl rfl ?_ | refine plan_loadG 23 _ ⟨w.heap.size, 0, none⟩ (hV kd sz bk) rfl rfl rfl ldh ?_ | refine plan_makeFunc _ _ _ rfl rfl ?_)
    refine plan_nil (Held2.mk ?_)
    go_wp2
    go_ret
    exact ⟨_, rfl, fz.from (hc0.trans hd2)⟩
end Go.Proofs.Ytknoomndofnnmaa
