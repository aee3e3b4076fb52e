/- The thin package's functions over TLS 1.3's secrets. -/
import Derived.Test.YtknoomndofnnmaaDoorYSec
import Derived.Test.YtknoomndofnnmaaDoorYMakers
namespace Go.Proofs.YtknoomndofnnmaaDoor
open Go Go.RowKit

set_option maxRecDepth 100000 in
set_option maxHeartbeats 2000000 in
theorem impl_early (K : List UInt32) (w : World) (hK : KAt K w) (kd sz bk : Int) (v0 : Value) (x0 : Bs) (l0 : x0.length ≤ 16384) (b0 : BS [] w v0 x0) :
    Calls Tryd.prog 51 #[hV kd sz bk, v0] w (GivesSec K (kdOf kd sz bk) 93 w (earlyF (hfK K (kdOf kd sz bk)) x0)) := by
  have hc0 : Chg [] w (w.alloc (hObj kd sz bk)) := (Chg.refl [] w).alloc _
  by_cases hk : kd = 1
  · subst hk
    rw [kdOf_one]
    go_enter Tryd.func51, Tryd.ntmps51
    go_wp2_with (first | (go_at_call 44; refine (impl_copied _ v0 x0 (by omega) (b0.keep hc0)).mono ?_; rintro e w2 ⟨u0, rfl, f0, n0⟩; have hc1 := hc0.trans f0.2.1) | (go_at_call 82; refine (nes_digest K _ newV [0] (maker_digest (hK.chg hc1 (by simp))) x0 _ (by omega) f0.bs0 n0).mono ?_; rintro e wz ⟨pz, rfl, hsz, hcz⟩))
    go_ret
    exact ⟨_, rfl, hsz, hc1.trans hcz⟩
  · rw [kdOf_own hk]
    go_enter Tryd.func51, Tryd.ntmps51
    go_upto_region 3 with fail
    obtain ⟨wB, hwB⟩ : ∃ wB, wB = w.alloc (hObj kd sz bk) := ⟨_, rfl⟩
    rw [← hwB] at hc0 ⊢
    have hrow : wB.heap[w.heap.size]? = some (hObj kd sz bk) := hwB ▸ heap_alloc_new w _
    clear hwB
    have ldh : ∀ W, Chg [] wB W → (Instr.loadAt 23 (.pointer (some ⟨w.heap.size, 0, none⟩))).run Tryd.prog W = .ok (hV kd sz bk) W := fun W h => ld_hV (h.row hrow (by simp))
    have hd0 : Chg [] wB wB.drew := (Chg.refl [] wB).drew
    refine region_held (fun w' => Chg [] wB w') [(0, true), (1, true), (2, true), (3, false), (4, false), (5, true)] (by kernel_rfl) (by kernel_rfl) hd0 ?_
    change wpPlan _ _ _ _ [(_, true), (_, true), (_, true), (_, false), (_, false), (_, true)] _ _
    iterate 3 (first | refine plan_move _ rfl rfl ?_ | refine plan_assign _ rfl rfl ?_ | refine plan_loadG 23 _ ⟨w.heap.size, 0, none⟩ (hV kd sz bk) rfl rfl rfl ldh ?_ | refine plan_makeFunc _ _ _ rfl rfl ?_)
    refine plan_step ?_
    go_wp2_with (go_at_call 44; refine (impl_copied _ v0 x0 (by omega) (b0.keep (hc0.trans hd0))).mono ?_; rintro e w2 ⟨u0, rfl, f0, n0⟩)
    have hd1 := hd0.trans f0.2.1
    refine HeldN.mk hd1 ?_
    refine plan_step ?_
    go_wp2_with (go_at_call 83; refine (nes_own K (ownSz sz bk, ownBk sz bk) _ (freshV kd sz bk) [0] (maker_own (hK.chg (hc0.trans hd1) (by simp)) kd sz bk) x0 _ (by omega) f0.bs0 n0).mono ?_; rintro e wz ⟨pz, rfl, hsz, hcz⟩)
    have hd2 := hd1.trans hcz
    refine HeldN.mk hd2 ?_
    iterate 1 (first | refine plan_move _ rfl rfl ?_ | refine plan_assign _ rfl rfl ?_ | refine plan_loadG 23 _ ⟨w.heap.size, 0, none⟩ (hV kd sz bk) rfl rfl rfl ldh ?_ | refine plan_makeFunc _ _ _ rfl rfl ?_)
    refine plan_nil (Held2.mk ?_)
    go_wp2
    go_ret
    exact ⟨_, rfl, hsz, hc0.trans hd2⟩
set_option maxRecDepth 100000 in
set_option maxHeartbeats 2000000 in
theorem impl_handshake (K : List UInt32) (w : World) (hK : KAt K w) (kd sz bk : Int) (v0 : Value) (x0 : Bs) (l0 : x0.length ≤ 16384) (b0 : BS [] w v0 x0) (v1 : Value) (x1 : Bs) (l1 : x1.length ≤ 16384) (b1 : BS [] w v1 x1) :
    Calls Tryd.prog 54 #[hV kd sz bk, v0, v1] w (GivesSec K (kdOf kd sz bk) 95 w (handshakeF (hfK K (kdOf kd sz bk)) x0 x1)) := by
  have hc0 : Chg [] w (w.alloc (hObj kd sz bk)) := (Chg.refl [] w).alloc _
  go_enter Tryd.func54, Tryd.ntmps54
  go_wp2_with (first | (go_at_call 51; refine (impl_early K _ (hK.chg hc0 (by simp)) kd sz bk v0 x0 (by omega) (b0.keep hc0)).mono ?_; rintro e1 ws1 ⟨po1, rfl, hob, hcx⟩; have hd1 := Chg.trans hc0 hcx) | (go_at_call 44; refine (impl_copied _ v1 x1 (by omega) (b1.keep hd1)).mono ?_; rintro e2 ws2 ⟨uy, rfl, fy, ny⟩; have hd2 := Chg.trans hd1 fy.2.1; have hob := hob.keep fy.2.1) | (go_at_call 85; refine (sec_toHandshakeSecret K (kdOf kd sz bk) _ _ _ hob _ x1 (by omega) fy.bs0 ny).mono ?_; rintro e3 ws3 ⟨po3, rfl, hob, hcx⟩; have hd3 := Chg.trans hd2 hcx))
  go_ret
  exact ⟨_, rfl, hob, hd3⟩
set_option maxRecDepth 100000 in
set_option maxHeartbeats 2000000 in
theorem impl_EarlySecret (K : List UInt32) (w : World) (hK : KAt K w) (kd sz bk : Int) (v0 : Value) (x0 : Bs) (l0 : x0.length ≤ 16384) (b0 : BS [] w v0 x0) :
    Calls Tryd.prog 28 #[hV kd sz bk, v0] w (fun en w' => ∃ v, en = .returned v ∧ BS [] w' v (earlyF (hfK K (kdOf kd sz bk)) x0) ∧ Chg [] w w') := by
  have hc0 : Chg [] w (w.alloc (hObj kd sz bk)) := (Chg.refl [] w).alloc _
  go_enter Tryd.func28, Tryd.ntmps28
  go_wp2_with (first | (go_at_call 51; refine (impl_early K _ (hK.chg hc0 (by simp)) kd sz bk v0 x0 (by omega) (b0.keep hc0)).mono ?_; rintro e1 ws1 ⟨po1, rfl, hob, hcx⟩; have hd1 := Chg.trans hc0 hcx) | (go_at_call 62; refine (sec_ZZEarlySecret K (kdOf kd sz bk) _ _ _ hob).mono ?_; rintro e2 ws2 ⟨uz, rfl, bz, hcx⟩; have hd2 := Chg.trans hd1 hcx))
  go_ret
  exact ⟨_, rfl, bz, hd2⟩
set_option maxRecDepth 100000 in
set_option maxHeartbeats 2000000 in
theorem impl_HandshakeSecret (K : List UInt32) (w : World) (hK : KAt K w) (kd sz bk : Int) (v0 : Value) (x0 : Bs) (l0 : x0.length ≤ 16384) (b0 : BS [] w v0 x0) (v1 : Value) (x1 : Bs) (l1 : x1.length ≤ 16384) (b1 : BS [] w v1 x1) :
    Calls Tryd.prog 29 #[hV kd sz bk, v0, v1] w (fun en w' => ∃ v, en = .returned v ∧ BS [] w' v (handshakeF (hfK K (kdOf kd sz bk)) x0 x1) ∧ Chg [] w w') := by
  have hc0 : Chg [] w (w.alloc (hObj kd sz bk)) := (Chg.refl [] w).alloc _
  go_enter Tryd.func29, Tryd.ntmps29
  go_wp2_with (first | (go_at_call 54; refine (impl_handshake K _ (hK.chg hc0 (by simp)) kd sz bk v0 x0 (by omega) (b0.keep hc0) v1 x1 (by omega) (b1.keep hc0)).mono ?_; rintro e1 ws1 ⟨po1, rfl, hob, hcx⟩; have hd1 := Chg.trans hc0 hcx) | (go_at_call 63; refine (sec_ZZHandshakeSecret K (kdOf kd sz bk) _ _ _ hob).mono ?_; rintro e2 ws2 ⟨uz, rfl, bz, hcx⟩; have hd2 := Chg.trans hd1 hcx))
  go_ret
  exact ⟨_, rfl, bz, hd2⟩
set_option maxRecDepth 100000 in
set_option maxHeartbeats 2000000 in
theorem impl_MasterSecret (K : List UInt32) (w : World) (hK : KAt K w) (kd sz bk : Int) (v0 : Value) (x0 : Bs) (l0 : x0.length ≤ 16384) (b0 : BS [] w v0 x0) (v1 : Value) (x1 : Bs) (l1 : x1.length ≤ 16384) (b1 : BS [] w v1 x1) :
    Calls Tryd.prog 30 #[hV kd sz bk, v0, v1] w (fun en w' => ∃ v, en = .returned v ∧ BS [] w' v (masterF (hfK K (kdOf kd sz bk)) x0 x1) ∧ Chg [] w w') := by
  have hc0 : Chg [] w (w.alloc (hObj kd sz bk)) := (Chg.refl [] w).alloc _
  go_enter Tryd.func30, Tryd.ntmps30
  go_wp2_with (first | (go_at_call 54; refine (impl_handshake K _ (hK.chg hc0 (by simp)) kd sz bk v0 x0 (by omega) (b0.keep hc0) v1 x1 (by omega) (b1.keep hc0)).mono ?_; rintro e1 ws1 ⟨po1, rfl, hob, hcx⟩; have hd1 := Chg.trans hc0 hcx) | (go_at_call 55; refine (sec_toMasterSecret K (kdOf kd sz bk) _ _ _ hob).mono ?_; rintro e2 ws2 ⟨po2, rfl, hob, hcx⟩; have hd2 := Chg.trans hd1 hcx) | (go_at_call 64; refine (sec_ZZMasterSecret K (kdOf kd sz bk) _ _ _ hob).mono ?_; rintro e3 ws3 ⟨uz, rfl, bz, hcx⟩; have hd3 := Chg.trans hd2 hcx))
  go_ret
  exact ⟨_, rfl, bz, hd3⟩
set_option maxRecDepth 100000 in
set_option maxHeartbeats 2000000 in
theorem impl_Binder (K : List UInt32) (w : World) (hK : KAt K w) (kd sz bk : Int) (v0 : Value) (x0 : Bs) (l0 : x0.length ≤ 16384) (b0 : BS [] w v0 x0) :
    Calls Tryd.prog 33 #[hV kd sz bk, v0] w (Gives w (deriveF (hfK K (kdOf kd sz bk)) (earlyF (hfK K (kdOf kd sz bk)) x0) (sb lblRB) [])) := by
  have hc0 : Chg [] w (w.alloc (hObj kd sz bk)) := (Chg.refl [] w).alloc _
  go_enter Tryd.func33, Tryd.ntmps33
  go_wp2_with (first | (go_at_call 51; refine (impl_early K _ (hK.chg hc0 (by simp)) kd sz bk v0 x0 (by omega) (b0.keep hc0)).mono ?_; rintro e1 ws1 ⟨po1, rfl, hob, hcx⟩; have hd1 := Chg.trans hc0 hcx) | (go_at_call 69; refine (sec_ResumptionBinderKey K (kdOf kd sz bk) _ _ _ hob).mono ?_; rintro e2 ws2 ⟨uz, rfl, fz⟩; have hd2 := Chg.trans hd1 fz.2.1))
  go_ret
  exact ⟨_, rfl, fz.from hd1⟩
set_option maxRecDepth 100000 in
set_option maxHeartbeats 2000000 in
theorem impl_EarlyTraffic (K : List UInt32) (w : World) (hK : KAt K w) (kd sz bk : Int) (v0 : Value) (x0 : Bs) (l0 : x0.length ≤ 16384) (b0 : BS [] w v0 x0) (v1 : Value) (x1 : Bs) (l1 : x1.length ≤ 16384) (b1 : BS [] w v1 x1) :
    Calls Tryd.prog 21 #[hV kd sz bk, v0, v1] w (Gives w (deriveF (hfK K (kdOf kd sz bk)) (earlyF (hfK K (kdOf kd sz bk)) x0) (sb lblCE) x1)) := by
  have hc0 : Chg [] w (w.alloc (hObj kd sz bk)) := (Chg.refl [] w).alloc _
  go_enter Tryd.func21, Tryd.ntmps21
  go_upto_region 1 with fail
  obtain ⟨wB, hwB⟩ : ∃ wB, wB = w.alloc (hObj kd sz bk) := ⟨_, rfl⟩
  rw [← hwB] at hc0 ⊢
  have hrow : wB.heap[w.heap.size]? = some (hObj kd sz bk) := hwB ▸ heap_alloc_new w _
  clear hwB
  have ldh : ∀ W, Chg [] wB W → (Instr.loadAt 23 (.pointer (some ⟨w.heap.size, 0, none⟩))).run Tryd.prog W = .ok (hV kd sz bk) W := fun W h => ld_hV (h.row hrow (by simp))
  have hd0 : Chg [] wB wB.drew := (Chg.refl [] wB).drew
  refine region_held (fun w' => Chg [] wB w') [(0, true), (1, true), (3, true), (4, true), (2, false), (5, false), (6, false), (7, true)] (by kernel_rfl) (by kernel_rfl) hd0 ?_
  change wpPlan _ _ _ _ [(_, true), (_, true), (_, true), (_, true), (_, false), (_, false), (_, false), (_, true)] _ _
  iterate 4 (first | refine plan_move _ rfl rfl ?_ | refine plan_assign _ rfl rfl ?_ | refine plan_loadG 23 _ ⟨w.heap.size, 0, none⟩ (hV kd sz bk) rfl rfl rfl ldh ?_ | refine plan_makeFunc _ _ _ rfl rfl ?_)
  refine plan_step ?_
  go_wp2_with (go_at_call 51; refine (impl_early K _ (hK.chg (hc0.trans hd0) (by simp)) kd sz bk v0 x0 (by omega) (b0.keep (hc0.trans hd0))).mono ?_; rintro e1 ws1 ⟨po1, rfl, hob, hcx⟩)
  have hd1 := Chg.trans hd0 hcx
  refine HeldN.mk hd1 ?_
  refine plan_step ?_
  go_wp2_with (go_at_call 53; refine (impl_said K _ (hK.chg (hc0.trans hd1) (by simp)) kd sz bk v1 x1 (by omega) (b1.keep (hc0.trans hd1))).mono ?_; rintro e2 ws2 ⟨pq, qq, rfl, hh, hcx⟩)
  have hd2 := Chg.trans hd1 hcx
  have hob := hob.keep hcx
  have htr : TrAt K (kdOf kd sz bk) ws2 _ x1 := .inr ⟨pq, qq, rfl, hh⟩
  refine HeldN.mk hd2 ?_
  refine plan_step ?_
  go_wp2_with (go_at_call 52; refine (sec_ClientEarlyTrafficSecret K (kdOf kd sz bk) _ _ _ hob _ x1 (by omega) htr).mono ?_; rintro e3 ws3 ⟨uz, rfl, fz⟩)
  have hd3 := Chg.trans hd2 fz.2.1
  refine HeldN.mk hd3 ?_
  iterate 1 (first | refine plan_move _ rfl rfl ?_ | refine plan_assign _ rfl rfl ?_ | refine plan_loadG 23 _ ⟨w.heap.size, 0, none⟩ (hV kd sz bk) rfl rfl rfl ldh ?_ | refine plan_makeFunc _ _ _ rfl rfl ?_)
  refine plan_nil (Held2.mk ?_)
  go_wp2
  go_ret
  exact ⟨_, rfl, fz.from (hc0.trans hd2)⟩
set_option maxRecDepth 100000 in
set_option maxHeartbeats 2000000 in
theorem impl_ClientHandshake (K : List UInt32) (w : World) (hK : KAt K w) (kd sz bk : Int) (v0 : Value) (x0 : Bs) (l0 : x0.length ≤ 16384) (b0 : BS [] w v0 x0) (v1 : Value) (x1 : Bs) (l1 : x1.length ≤ 16384) (b1 : BS [] w v1 x1) (v2 : Value) (x2 : Bs) (l2 : x2.length ≤ 16384) (b2 : BS [] w v2 x2) :
    Calls Tryd.prog 34 #[hV kd sz bk, v0, v1, v2] w (Gives w (deriveF (hfK K (kdOf kd sz bk)) (handshakeF (hfK K (kdOf kd sz bk)) x0 x1) (sb lblCH) x2)) := by
  have hc0 : Chg [] w (w.alloc (hObj kd sz bk)) := (Chg.refl [] w).alloc _
  go_enter Tryd.func34, Tryd.ntmps34
  go_upto_region 1 with fail
  obtain ⟨wB, hwB⟩ : ∃ wB, wB = w.alloc (hObj kd sz bk) := ⟨_, rfl⟩
  rw [← hwB] at hc0 ⊢
  have hrow : wB.heap[w.heap.size]? = some (hObj kd sz bk) := hwB ▸ heap_alloc_new w _
  clear hwB
  have ldh : ∀ W, Chg [] wB W → (Instr.loadAt 23 (.pointer (some ⟨w.heap.size, 0, none⟩))).run Tryd.prog W = .ok (hV kd sz bk) W := fun W h => ld_hV (h.row hrow (by simp))
  have hd0 : Chg [] wB wB.drew := (Chg.refl [] wB).drew
  refine region_held (fun w' => Chg [] wB w') [(0, true), (1, true), (2, true), (4, true), (5, true), (3, false), (6, false), (7, false), (8, true)] (by kernel_rfl) (by kernel_rfl) hd0 ?_
  change wpPlan _ _ _ _ [(_, true), (_, true), (_, true), (_, true), (_, true), (_, false), (_, false), (_, false), (_, true)] _ _
  iterate 5 (first | refine plan_move _ rfl rfl ?_ | refine plan_assign _ rfl rfl ?_ | refine plan_loadG 23 _ ⟨w.heap.size, 0, none⟩ (hV kd sz bk) rfl rfl rfl ldh ?_ | refine plan_makeFunc _ _ _ rfl rfl ?_)
  refine plan_step ?_
  go_wp2_with (go_at_call 54; refine (impl_handshake K _ (hK.chg (hc0.trans hd0) (by simp)) kd sz bk v0 x0 (by omega) (b0.keep (hc0.trans hd0)) v1 x1 (by omega) (b1.keep (hc0.trans hd0))).mono ?_; rintro e1 ws1 ⟨po1, rfl, hob, hcx⟩)
  have hd1 := Chg.trans hd0 hcx
  refine HeldN.mk hd1 ?_
  refine plan_step ?_
  go_wp2_with (go_at_call 53; refine (impl_said K _ (hK.chg (hc0.trans hd1) (by simp)) kd sz bk v2 x2 (by omega) (b2.keep (hc0.trans hd1))).mono ?_; rintro e2 ws2 ⟨pq, qq, rfl, hh, hcx⟩)
  have hd2 := Chg.trans hd1 hcx
  have hob := hob.keep hcx
  have htr : TrAt K (kdOf kd sz bk) ws2 _ x2 := .inr ⟨pq, qq, rfl, hh⟩
  refine HeldN.mk hd2 ?_
  refine plan_step ?_
  go_wp2_with (go_at_call 70; refine (sec_ClientHandshakeTrafficSecret K (kdOf kd sz bk) _ _ _ hob _ x2 (by omega) htr).mono ?_; rintro e3 ws3 ⟨uz, rfl, fz⟩)
  have hd3 := Chg.trans hd2 fz.2.1
  refine HeldN.mk hd3 ?_
  iterate 1 (first | refine plan_move _ rfl rfl ?_ | refine plan_assign _ rfl rfl ?_ | refine plan_loadG 23 _ ⟨w.heap.size, 0, none⟩ (hV kd sz bk) rfl rfl rfl ldh ?_ | refine plan_makeFunc _ _ _ rfl rfl ?_)
  refine plan_nil (Held2.mk ?_)
  go_wp2
  go_ret
  exact ⟨_, rfl, fz.from (hc0.trans hd2)⟩
set_option maxRecDepth 100000 in
set_option maxHeartbeats 2000000 in
theorem impl_ServerHandshake (K : List UInt32) (w : World) (hK : KAt K w) (kd sz bk : Int) (v0 : Value) (x0 : Bs) (l0 : x0.length ≤ 16384) (b0 : BS [] w v0 x0) (v1 : Value) (x1 : Bs) (l1 : x1.length ≤ 16384) (b1 : BS [] w v1 x1) (v2 : Value) (x2 : Bs) (l2 : x2.length ≤ 16384) (b2 : BS [] w v2 x2) :
    Calls Tryd.prog 40 #[hV kd sz bk, v0, v1, v2] w (Gives w (deriveF (hfK K (kdOf kd sz bk)) (handshakeF (hfK K (kdOf kd sz bk)) x0 x1) (sb lblSH) x2)) := by
  have hc0 : Chg [] w (w.alloc (hObj kd sz bk)) := (Chg.refl [] w).alloc _
  go_enter Tryd.func40, Tryd.ntmps40
  go_upto_region 1 with fail
  obtain ⟨wB, hwB⟩ : ∃ wB, wB = w.alloc (hObj kd sz bk) := ⟨_, rfl⟩
  rw [← hwB] at hc0 ⊢
  have hrow : wB.heap[w.heap.size]? = some (hObj kd sz bk) := hwB ▸ heap_alloc_new w _
  clear hwB
  have ldh : ∀ W, Chg [] wB W → (Instr.loadAt 23 (.pointer (some ⟨w.heap.size, 0, none⟩))).run Tryd.prog W = .ok (hV kd sz bk) W := fun W h => ld_hV (h.row hrow (by simp))
  have hd0 : Chg [] wB wB.drew := (Chg.refl [] wB).drew
  refine region_held (fun w' => Chg [] wB w') [(0, true), (1, true), (2, true), (4, true), (5, true), (3, false), (6, false), (7, false), (8, true)] (by kernel_rfl) (by kernel_rfl) hd0 ?_
  change wpPlan _ _ _ _ [(_, true), (_, true), (_, true), (_, true), (_, true), (_, false), (_, false), (_, false), (_, true)] _ _
  iterate 5 (first | refine plan_move _ rfl rfl ?_ | refine plan_assign _ rfl rfl ?_ | refine plan_loadG 23 _ ⟨w.heap.size, 0, none⟩ (hV kd sz bk) rfl rfl rfl ldh ?_ | refine plan_makeFunc _ _ _ rfl rfl ?_)
  refine plan_step ?_
  go_wp2_with (go_at_call 54; refine (impl_handshake K _ (hK.chg (hc0.trans hd0) (by simp)) kd sz bk v0 x0 (by omega) (b0.keep (hc0.trans hd0)) v1 x1 (by omega) (b1.keep (hc0.trans hd0))).mono ?_; rintro e1 ws1 ⟨po1, rfl, hob, hcx⟩)
  have hd1 := Chg.trans hd0 hcx
  refine HeldN.mk hd1 ?_
  refine plan_step ?_
  go_wp2_with (go_at_call 53; refine (impl_said K _ (hK.chg (hc0.trans hd1) (by simp)) kd sz bk v2 x2 (by omega) (b2.keep (hc0.trans hd1))).mono ?_; rintro e2 ws2 ⟨pq, qq, rfl, hh, hcx⟩)
  have hd2 := Chg.trans hd1 hcx
  have hob := hob.keep hcx
  have htr : TrAt K (kdOf kd sz bk) ws2 _ x2 := .inr ⟨pq, qq, rfl, hh⟩
  refine HeldN.mk hd2 ?_
  refine plan_step ?_
  go_wp2_with (go_at_call 75; refine (sec_ServerHandshakeTrafficSecret K (kdOf kd sz bk) _ _ _ hob _ x2 (by omega) htr).mono ?_; rintro e3 ws3 ⟨uz, rfl, fz⟩)
  have hd3 := Chg.trans hd2 fz.2.1
  refine HeldN.mk hd3 ?_
  iterate 1 (first | refine plan_move _ rfl rfl ?_ | refine plan_assign _ rfl rfl ?_ | refine plan_loadG 23 _ ⟨w.heap.size, 0, none⟩ (hV kd sz bk) rfl rfl rfl ldh ?_ | refine plan_makeFunc _ _ _ rfl rfl ?_)
  refine plan_nil (Held2.mk ?_)
  go_wp2
  go_ret
  exact ⟨_, rfl, fz.from (hc0.trans hd2)⟩
set_option maxRecDepth 100000 in
set_option maxHeartbeats 2000000 in
theorem impl_ClientTraffic (K : List UInt32) (w : World) (hK : KAt K w) (kd sz bk : Int) (v0 : Value) (x0 : Bs) (l0 : x0.length ≤ 16384) (b0 : BS [] w v0 x0) (v1 : Value) (x1 : Bs) (l1 : x1.length ≤ 16384) (b1 : BS [] w v1 x1) (v2 : Value) (x2 : Bs) (l2 : x2.length ≤ 16384) (b2 : BS [] w v2 x2) :
    Calls Tryd.prog 41 #[hV kd sz bk, v0, v1, v2] w (Gives w (deriveF (hfK K (kdOf kd sz bk)) (masterF (hfK K (kdOf kd sz bk)) x0 x1) (sb lblCA) x2)) := by
  have hc0 : Chg [] w (w.alloc (hObj kd sz bk)) := (Chg.refl [] w).alloc _
  go_enter Tryd.func41, Tryd.ntmps41
  go_upto_region 1 with fail
  obtain ⟨wB, hwB⟩ : ∃ wB, wB = w.alloc (hObj kd sz bk) := ⟨_, rfl⟩
  rw [← hwB] at hc0 ⊢
  have hrow : wB.heap[w.heap.size]? = some (hObj kd sz bk) := hwB ▸ heap_alloc_new w _
  clear hwB
  have ldh : ∀ W, Chg [] wB W → (Instr.loadAt 23 (.pointer (some ⟨w.heap.size, 0, none⟩))).run Tryd.prog W = .ok (hV kd sz bk) W := fun W h => ld_hV (h.row hrow (by simp))
  have hd0 : Chg [] wB wB.drew := (Chg.refl [] wB).drew
  refine region_held (fun w' => Chg [] wB w') [(0, true), (1, true), (2, true), (5, true), (6, true), (3, false), (4, false), (7, false), (8, false), (9, true)] (by kernel_rfl) (by kernel_rfl) hd0 ?_
  change wpPlan _ _ _ _ [(_, true), (_, true), (_, true), (_, true), (_, true), (_, false), (_, false), (_, false), (_, false), (_, true)] _ _
  iterate 5 (first | refine plan_move _ rfl rfl ?_ | refine plan_assign _ rfl rfl ?_ | refine plan_loadG 23 _ ⟨w.heap.size, 0, none⟩ (hV kd sz bk) rfl rfl rfl ldh ?_ | refine plan_makeFunc _ _ _ rfl rfl ?_)
  refine plan_step ?_
  go_wp2_with (go_at_call 54; refine (impl_handshake K _ (hK.chg (hc0.trans hd0) (by simp)) kd sz bk v0 x0 (by omega) (b0.keep (hc0.trans hd0)) v1 x1 (by omega) (b1.keep (hc0.trans hd0))).mono ?_; rintro e1 ws1 ⟨po1, rfl, hob, hcx⟩)
  have hd1 := Chg.trans hd0 hcx
  refine HeldN.mk hd1 ?_
  refine plan_step ?_
  go_wp2_with (go_at_call 55; refine (sec_toMasterSecret K (kdOf kd sz bk) _ _ _ hob).mono ?_; rintro e2 ws2 ⟨po2, rfl, hob, hcx⟩)
  have hd2 := Chg.trans hd1 hcx
  refine HeldN.mk hd2 ?_
  refine plan_step ?_
  go_wp2_with (go_at_call 53; refine (impl_said K _ (hK.chg (hc0.trans hd2) (by simp)) kd sz bk v2 x2 (by omega) (b2.keep (hc0.trans hd2))).mono ?_; rintro e3 ws3 ⟨pq, qq, rfl, hh, hcx⟩)
  have hd3 := Chg.trans hd2 hcx
  have hob := hob.keep hcx
  have htr : TrAt K (kdOf kd sz bk) ws3 _ x2 := .inr ⟨pq, qq, rfl, hh⟩
  refine HeldN.mk hd3 ?_
  refine plan_step ?_
  go_wp2_with (go_at_call 76; refine (sec_ClientApplicationTrafficSecret K (kdOf kd sz bk) _ _ _ hob _ x2 (by omega) htr).mono ?_; rintro e4 ws4 ⟨uz, rfl, fz⟩)
  have hd4 := Chg.trans hd3 fz.2.1
  refine HeldN.mk hd4 ?_
  iterate 1 (first | refine plan_move _ rfl rfl ?_ | refine plan_assign _ rfl rfl ?_ | refine plan_loadG 23 _ ⟨w.heap.size, 0, none⟩ (hV kd sz bk) rfl rfl rfl ldh ?_ | refine plan_makeFunc _ _ _ rfl rfl ?_)
  refine plan_nil (Held2.mk ?_)
  go_wp2
  go_ret
  exact ⟨_, rfl, fz.from (hc0.trans hd3)⟩
set_option maxRecDepth 100000 in
set_option maxHeartbeats 2000000 in
theorem impl_ServerTraffic (K : List UInt32) (w : World) (hK : KAt K w) (kd sz bk : Int) (v0 : Value) (x0 : Bs) (l0 : x0.length ≤ 16384) (b0 : BS [] w v0 x0) (v1 : Value) (x1 : Bs) (l1 : x1.length ≤ 16384) (b1 : BS [] w v1 x1) (v2 : Value) (x2 : Bs) (l2 : x2.length ≤ 16384) (b2 : BS [] w v2 x2) :
    Calls Tryd.prog 22 #[hV kd sz bk, v0, v1, v2] w (Gives w (deriveF (hfK K (kdOf kd sz bk)) (masterF (hfK K (kdOf kd sz bk)) x0 x1) (sb lblSA) x2)) := by
  have hc0 : Chg [] w (w.alloc (hObj kd sz bk)) := (Chg.refl [] w).alloc _
  go_enter Tryd.func22, Tryd.ntmps22
  go_upto_region 1 with fail
  obtain ⟨wB, hwB⟩ : ∃ wB, wB = w.alloc (hObj kd sz bk) := ⟨_, rfl⟩
  rw [← hwB] at hc0 ⊢
  have hrow : wB.heap[w.heap.size]? = some (hObj kd sz bk) := hwB ▸ heap_alloc_new w _
  clear hwB
  have ldh : ∀ W, Chg [] wB W → (Instr.loadAt 23 (.pointer (some ⟨w.heap.size, 0, none⟩))).run Tryd.prog W = .ok (hV kd sz bk) W := fun W h => ld_hV (h.row hrow (by simp))
  have hd0 : Chg [] wB wB.drew := (Chg.refl [] wB).drew
  refine region_held (fun w' => Chg [] wB w') [(0, true), (1, true), (2, true), (5, true), (6, true), (3, false), (4, false), (7, false), (8, false), (9, true)] (by kernel_rfl) (by kernel_rfl) hd0 ?_
  change wpPlan _ _ _ _ [(_, true), (_, true), (_, true), (_, true), (_, true), (_, false), (_, false), (_, false), (_, false), (_, true)] _ _
  iterate 5 (first | refine plan_move _ rfl rfl ?_ | refine plan_assign _ rfl rfl ?_ | refine plan_loadG 23 _ ⟨w.heap.size, 0, none⟩ (hV kd sz bk) rfl rfl rfl ldh ?_ | refine plan_makeFunc _ _ _ rfl rfl ?_)
  refine plan_step ?_
  go_wp2_with (go_at_call 54; refine (impl_handshake K _ (hK.chg (hc0.trans hd0) (by simp)) kd sz bk v0 x0 (by omega) (b0.keep (hc0.trans hd0)) v1 x1 (by omega) (b1.keep (hc0.trans hd0))).mono ?_; rintro e1 ws1 ⟨po1, rfl, hob, hcx⟩)
  have hd1 := Chg.trans hd0 hcx
  refine HeldN.mk hd1 ?_
  refine plan_step ?_
  go_wp2_with (go_at_call 55; refine (sec_toMasterSecret K (kdOf kd sz bk) _ _ _ hob).mono ?_; rintro e2 ws2 ⟨po2, rfl, hob, hcx⟩)
  have hd2 := Chg.trans hd1 hcx
  refine HeldN.mk hd2 ?_
  refine plan_step ?_
  go_wp2_with (go_at_call 53; refine (impl_said K _ (hK.chg (hc0.trans hd2) (by simp)) kd sz bk v2 x2 (by omega) (b2.keep (hc0.trans hd2))).mono ?_; rintro e3 ws3 ⟨pq, qq, rfl, hh, hcx⟩)
  have hd3 := Chg.trans hd2 hcx
  have hob := hob.keep hcx
  have htr : TrAt K (kdOf kd sz bk) ws3 _ x2 := .inr ⟨pq, qq, rfl, hh⟩
  refine HeldN.mk hd3 ?_
  refine plan_step ?_
  go_wp2_with (go_at_call 56; refine (sec_ServerApplicationTrafficSecret K (kdOf kd sz bk) _ _ _ hob _ x2 (by omega) htr).mono ?_; rintro e4 ws4 ⟨uz, rfl, fz⟩)
  have hd4 := Chg.trans hd3 fz.2.1
  refine HeldN.mk hd4 ?_
  iterate 1 (first | refine plan_move _ rfl rfl ?_ | refine plan_assign _ rfl rfl ?_ | refine plan_loadG 23 _ ⟨w.heap.size, 0, none⟩ (hV kd sz bk) rfl rfl rfl ldh ?_ | refine plan_makeFunc _ _ _ rfl rfl ?_)
  refine plan_nil (Held2.mk ?_)
  go_wp2
  go_ret
  exact ⟨_, rfl, fz.from (hc0.trans hd3)⟩
set_option maxRecDepth 100000 in
set_option maxHeartbeats 2000000 in
theorem impl_Resumption (K : List UInt32) (w : World) (hK : KAt K w) (kd sz bk : Int) (v0 : Value) (x0 : Bs) (l0 : x0.length ≤ 16384) (b0 : BS [] w v0 x0) (v1 : Value) (x1 : Bs) (l1 : x1.length ≤ 16384) (b1 : BS [] w v1 x1) (v2 : Value) (x2 : Bs) (l2 : x2.length ≤ 16384) (b2 : BS [] w v2 x2) :
    Calls Tryd.prog 35 #[hV kd sz bk, v0, v1, v2] w (Gives w (deriveF (hfK K (kdOf kd sz bk)) (masterF (hfK K (kdOf kd sz bk)) x0 x1) (sb lblRM) x2)) := by
  have hc0 : Chg [] w (w.alloc (hObj kd sz bk)) := (Chg.refl [] w).alloc _
  go_enter Tryd.func35, Tryd.ntmps35
  go_upto_region 1 with fail
  obtain ⟨wB, hwB⟩ : ∃ wB, wB = w.alloc (hObj kd sz bk) := ⟨_, rfl⟩
  rw [← hwB] at hc0 ⊢
  have hrow : wB.heap[w.heap.size]? = some (hObj kd sz bk) := hwB ▸ heap_alloc_new w _
  clear hwB
  have ldh : ∀ W, Chg [] wB W → (Instr.loadAt 23 (.pointer (some ⟨w.heap.size, 0, none⟩))).run Tryd.prog W = .ok (hV kd sz bk) W := fun W h => ld_hV (h.row hrow (by simp))
  have hd0 : Chg [] wB wB.drew := (Chg.refl [] wB).drew
  refine region_held (fun w' => Chg [] wB w') [(0, true), (1, true), (2, true), (5, true), (6, true), (3, false), (4, false), (7, false), (8, false), (9, true)] (by kernel_rfl) (by kernel_rfl) hd0 ?_
  change wpPlan _ _ _ _ [(_, true), (_, true), (_, true), (_, true), (_, true), (_, false), (_, false), (_, false), (_, false), (_, true)] _ _
  iterate 5 (first | refine plan_move _ rfl rfl ?_ | refine plan_assign _ rfl rfl ?_ | refine plan_loadG 23 _ ⟨w.heap.size, 0, none⟩ (hV kd sz bk) rfl rfl rfl ldh ?_ | refine plan_makeFunc _ _ _ rfl rfl ?_)
  refine plan_step ?_
  go_wp2_with (go_at_call 54; refine (impl_handshake K _ (hK.chg (hc0.trans hd0) (by simp)) kd sz bk v0 x0 (by omega) (b0.keep (hc0.trans hd0)) v1 x1 (by omega) (b1.keep (hc0.trans hd0))).mono ?_; rintro e1 ws1 ⟨po1, rfl, hob, hcx⟩)
  have hd1 := Chg.trans hd0 hcx
  refine HeldN.mk hd1 ?_
  refine plan_step ?_
  go_wp2_with (go_at_call 55; refine (sec_toMasterSecret K (kdOf kd sz bk) _ _ _ hob).mono ?_; rintro e2 ws2 ⟨po2, rfl, hob, hcx⟩)
  have hd2 := Chg.trans hd1 hcx
  refine HeldN.mk hd2 ?_
  refine plan_step ?_
  go_wp2_with (go_at_call 53; refine (impl_said K _ (hK.chg (hc0.trans hd2) (by simp)) kd sz bk v2 x2 (by omega) (b2.keep (hc0.trans hd2))).mono ?_; rintro e3 ws3 ⟨pq, qq, rfl, hh, hcx⟩)
  have hd3 := Chg.trans hd2 hcx
  have hob := hob.keep hcx
  have htr : TrAt K (kdOf kd sz bk) ws3 _ x2 := .inr ⟨pq, qq, rfl, hh⟩
  refine HeldN.mk hd3 ?_
  refine plan_step ?_
  go_wp2_with (go_at_call 71; refine (sec_ResumptionMasterSecret K (kdOf kd sz bk) _ _ _ hob _ x2 (by omega) htr).mono ?_; rintro e4 ws4 ⟨uz, rfl, fz⟩)
  have hd4 := Chg.trans hd3 fz.2.1
  refine HeldN.mk hd4 ?_
  iterate 1 (first | refine plan_move _ rfl rfl ?_ | refine plan_assign _ rfl rfl ?_ | refine plan_loadG 23 _ ⟨w.heap.size, 0, none⟩ (hV kd sz bk) rfl rfl rfl ldh ?_ | refine plan_makeFunc _ _ _ rfl rfl ?_)
  refine plan_nil (Held2.mk ?_)
  go_wp2
  go_ret
  exact ⟨_, rfl, fz.from (hc0.trans hd3)⟩
set_option maxRecDepth 100000 in
set_option maxHeartbeats 2000000 in
theorem impl_EarlyExported (K : List UInt32) (w : World) (hK : KAt K w) (kd sz bk : Int) (v0 : Value) (x0 : Bs) (l0 : x0.length ≤ 16384) (b0 : BS [] w v0 x0) (v1 : Value) (x1 : Bs) (l1 : x1.length ≤ 16384) (b1 : BS [] w v1 x1) (s2 : ByteArray) (_l2 : s2.size ≤ 16384) (v3 : Value) (x3 : Bs) (l3 : x3.length ≤ 16384) (b3 : BS [] w v3 x3) (i4 : Nat) (_l4 : i4 ≤ 100000) (h1 : s2.size ≤ 249) (h3 : i4 ≤ 255 * (hfK K (kdOf kd sz bk)).sz) :
    Calls Tryd.prog 38 #[hV kd sz bk, v0, v1, .string s2, v3, .int .i64 (i4 : Int)] w (Gives w (exportedF (hfK K (kdOf kd sz bk)) (deriveF (hfK K (kdOf kd sz bk)) (earlyF (hfK K (kdOf kd sz bk)) x0) (sb lblEX) x1) (sb s2) x3 i4)) := by
  have hc0 : Chg [] w (w.alloc (hObj kd sz bk)) := (Chg.refl [] w).alloc _
  go_enter Tryd.func38, Tryd.ntmps38
  go_upto_region 1 with fail
  obtain ⟨wB, hwB⟩ : ∃ wB, wB = w.alloc (hObj kd sz bk) := ⟨_, rfl⟩
  rw [← hwB] at hc0 ⊢
  have hrow : wB.heap[w.heap.size]? = some (hObj kd sz bk) := hwB ▸ heap_alloc_new w _
  clear hwB
  have ldh : ∀ W, Chg [] wB W → (Instr.loadAt 23 (.pointer (some ⟨w.heap.size, 0, none⟩))).run Tryd.prog W = .ok (hV kd sz bk) W := fun W h => ld_hV (h.row hrow (by simp))
  have hd0 : Chg [] wB wB.drew := (Chg.refl [] wB).drew
  refine region_held (fun w' => Chg [] wB w') [(0, true), (1, true), (3, true), (4, true), (7, true), (8, true), (10, true), (2, false), (5, false), (6, false), (9, false), (11, false), (12, true)] (by kernel_rfl) (by kernel_rfl) hd0 ?_
  change wpPlan _ _ _ _ [(_, true), (_, true), (_, true), (_, true), (_, true), (_, true), (_, true), (_, false), (_, false), (_, false), (_, false), (_, false), (_, true)] _ _
  iterate 7 (first | refine plan_move _ rfl rfl ?_ | refine plan_assign _ rfl rfl ?_ | refine plan_loadG 23 _ ⟨w.heap.size, 0, none⟩ (hV kd sz bk) rfl rfl rfl ldh ?_ | refine plan_makeFunc _ _ _ rfl rfl ?_)
  refine plan_step ?_
  go_wp2_with (go_at_call 51; refine (impl_early K _ (hK.chg (hc0.trans hd0) (by simp)) kd sz bk v0 x0 (by omega) (b0.keep (hc0.trans hd0))).mono ?_; rintro e1 ws1 ⟨po1, rfl, hob, hcx⟩)
  have hd1 := Chg.trans hd0 hcx
  refine HeldN.mk hd1 ?_
  refine plan_step ?_
  go_wp2_with (go_at_call 53; refine (impl_said K _ (hK.chg (hc0.trans hd1) (by simp)) kd sz bk v1 x1 (by omega) (b1.keep (hc0.trans hd1))).mono ?_; rintro e2 ws2 ⟨pq, qq, rfl, hh, hcx⟩)
  have hd2 := Chg.trans hd1 hcx
  have hob := hob.keep hcx
  have htr : TrAt K (kdOf kd sz bk) ws2 _ x1 := .inr ⟨pq, qq, rfl, hh⟩
  refine HeldN.mk hd2 ?_
  refine plan_step ?_
  go_wp2_with (go_at_call 74; refine (sec_EarlyExporterMasterSecret K (kdOf kd sz bk) _ _ _ hob _ x1 (by omega) htr).mono ?_; rintro e3 ws3 ⟨po3, rfl, hob, hcx⟩)
  have hd3 := Chg.trans hd2 hcx
  refine HeldN.mk hd3 ?_
  refine plan_step ?_
  go_wp2_with (go_at_call 44; refine (impl_copied _ v3 x3 (by omega) (b3.keep (hc0.trans hd3))).mono ?_; rintro e4 ws4 ⟨uy, rfl, fy, ny⟩)
  have hd4 := Chg.trans hd3 fy.2.1
  have hob := hob.keep fy.2.1
  refine HeldN.mk hd4 ?_
  refine plan_step ?_
  go_wp2_with (go_at_call 61; refine (sec_Exporter K (kdOf kd sz bk) _ _ _ hob s2 h1 _ x3 (by omega) fy.bs0 i4 h3).mono ?_; rintro e5 ws5 ⟨uz, rfl, fz⟩)
  have hd5 := Chg.trans hd4 fz.2.1
  refine HeldN.mk hd5 ?_
  iterate 1 (first | refine plan_move _ rfl rfl ?_ | refine plan_assign _ rfl rfl ?_ | refine plan_loadG 23 _ ⟨w.heap.size, 0, none⟩ (hV kd sz bk) rfl rfl rfl ldh ?_ | refine plan_makeFunc _ _ _ rfl rfl ?_)
  refine plan_nil (Held2.mk ?_)
  go_wp2
  go_ret
  exact ⟨_, rfl, fz.from (hc0.trans hd4)⟩
set_option maxRecDepth 100000 in
set_option maxHeartbeats 2000000 in
theorem impl_Exported (K : List UInt32) (w : World) (hK : KAt K w) (kd sz bk : Int) (v0 : Value) (x0 : Bs) (l0 : x0.length ≤ 16384) (b0 : BS [] w v0 x0) (v1 : Value) (x1 : Bs) (l1 : x1.length ≤ 16384) (b1 : BS [] w v1 x1) (v2 : Value) (x2 : Bs) (l2 : x2.length ≤ 16384) (b2 : BS [] w v2 x2) (s3 : ByteArray) (_l3 : s3.size ≤ 16384) (v4 : Value) (x4 : Bs) (l4 : x4.length ≤ 16384) (b4 : BS [] w v4 x4) (i5 : Nat) (_l5 : i5 ≤ 100000) (h1 : s3.size ≤ 249) (h3 : i5 ≤ 255 * (hfK K (kdOf kd sz bk)).sz) :
    Calls Tryd.prog 26 #[hV kd sz bk, v0, v1, v2, .string s3, v4, .int .i64 (i5 : Int)] w (Gives w (exportedF (hfK K (kdOf kd sz bk)) (deriveF (hfK K (kdOf kd sz bk)) (masterF (hfK K (kdOf kd sz bk)) x0 x1) (sb lblXM) x2) (sb s3) x4 i5)) := by
  have hc0 : Chg [] w (w.alloc (hObj kd sz bk)) := (Chg.refl [] w).alloc _
  go_enter Tryd.func26, Tryd.ntmps26
  go_upto_region 1 with fail
  obtain ⟨wB, hwB⟩ : ∃ wB, wB = w.alloc (hObj kd sz bk) := ⟨_, rfl⟩
  rw [← hwB] at hc0 ⊢
  have hrow : wB.heap[w.heap.size]? = some (hObj kd sz bk) := hwB ▸ heap_alloc_new w _
  clear hwB
  have ldh : ∀ W, Chg [] wB W → (Instr.loadAt 23 (.pointer (some ⟨w.heap.size, 0, none⟩))).run Tryd.prog W = .ok (hV kd sz bk) W := fun W h => ld_hV (h.row hrow (by simp))
  have hd0 : Chg [] wB wB.drew := (Chg.refl [] wB).drew
  refine region_held (fun w' => Chg [] wB w') [(0, true), (1, true), (2, true), (5, true), (6, true), (9, true), (10, true), (12, true), (3, false), (4, false), (7, false), (8, false), (11, false), (13, false), (14, true)] (by kernel_rfl) (by kernel_rfl) hd0 ?_
  change wpPlan _ _ _ _ [(_, true), (_, true), (_, true), (_, true), (_, true), (_, true), (_, true), (_, true), (_, false), (_, false), (_, false), (_, false), (_, false), (_, false), (_, true)] _ _
  iterate 8 (first | refine plan_move _ rfl rfl ?_ | refine plan_assign _ rfl rfl ?_ | refine plan_loadG 23 _ ⟨w.heap.size, 0, none⟩ (hV kd sz bk) rfl rfl rfl ldh ?_ | refine plan_makeFunc _ _ _ rfl rfl ?_)
  refine plan_step ?_
  go_wp2_with (go_at_call 54; refine (impl_handshake K _ (hK.chg (hc0.trans hd0) (by simp)) kd sz bk v0 x0 (by omega) (b0.keep (hc0.trans hd0)) v1 x1 (by omega) (b1.keep (hc0.trans hd0))).mono ?_; rintro e1 ws1 ⟨po1, rfl, hob, hcx⟩)
  have hd1 := Chg.trans hd0 hcx
  refine HeldN.mk hd1 ?_
  refine plan_step ?_
  go_wp2_with (go_at_call 55; refine (sec_toMasterSecret K (kdOf kd sz bk) _ _ _ hob).mono ?_; rintro e2 ws2 ⟨po2, rfl, hob, hcx⟩)
  have hd2 := Chg.trans hd1 hcx
  refine HeldN.mk hd2 ?_
  refine plan_step ?_
  go_wp2_with (go_at_call 53; refine (impl_said K _ (hK.chg (hc0.trans hd2) (by simp)) kd sz bk v2 x2 (by omega) (b2.keep (hc0.trans hd2))).mono ?_; rintro e3 ws3 ⟨pq, qq, rfl, hh, hcx⟩)
  have hd3 := Chg.trans hd2 hcx
  have hob := hob.keep hcx
  have htr : TrAt K (kdOf kd sz bk) ws3 _ x2 := .inr ⟨pq, qq, rfl, hh⟩
  refine HeldN.mk hd3 ?_
  refine plan_step ?_
  go_wp2_with (go_at_call 60; refine (sec_ExporterMasterSecret K (kdOf kd sz bk) _ _ _ hob _ x2 (by omega) htr).mono ?_; rintro e4 ws4 ⟨po4, rfl, hob, hcx⟩)
  have hd4 := Chg.trans hd3 hcx
  refine HeldN.mk hd4 ?_
  refine plan_step ?_
  go_wp2_with (go_at_call 44; refine (impl_copied _ v4 x4 (by omega) (b4.keep (hc0.trans hd4))).mono ?_; rintro e5 ws5 ⟨uy, rfl, fy, ny⟩)
  have hd5 := Chg.trans hd4 fy.2.1
  have hob := hob.keep fy.2.1
  refine HeldN.mk hd5 ?_
  refine plan_step ?_
  go_wp2_with (go_at_call 61; refine (sec_Exporter K (kdOf kd sz bk) _ _ _ hob s3 h1 _ x4 (by omega) fy.bs0 i5 h3).mono ?_; rintro e6 ws6 ⟨uz, rfl, fz⟩)
  have hd6 := Chg.trans hd5 fz.2.1
  refine HeldN.mk hd6 ?_
  iterate 1 (first | refine plan_move _ rfl rfl ?_ | refine plan_assign _ rfl rfl ?_ | refine plan_loadG 23 _ ⟨w.heap.size, 0, none⟩ (hV kd sz bk) rfl rfl rfl ldh ?_ | refine plan_makeFunc _ _ _ rfl rfl ?_)
  refine plan_nil (Held2.mk ?_)
  go_wp2
  go_ret
  exact ⟨_, rfl, fz.from (hc0.trans hd5)⟩
end Go.Proofs.YtknoomndofnnmaaDoor
