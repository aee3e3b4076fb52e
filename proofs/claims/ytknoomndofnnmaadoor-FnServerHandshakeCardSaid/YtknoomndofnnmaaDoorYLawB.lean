/- The thin package: ExpandLabel, Extract, DeriveSecret. The thin package: Sum. The law's helper labelled; words for the laws on Derive-Secret. -/
import Derived.Test.YtknoomndofnnmaaDoorYTlsC
import Derived.Test.YtknoomndofnnmaaDoorYMakers
import Derived.Test.YtknoomndofnnmaaDoorYSpecE
import Derived.Test.YtknoomndofnnmaaDoorYShaF
import Derived.Test.YtknoomndofnnmaaDoorYOwn
import Derived.Test.YtknoomndofnnmaaDoorYHash
import Derived.Test.YtknoomndofnnmaaDoorYKit
namespace Go.Proofs.YtknoomndofnnmaaDoor
open Go Go.RowKit

set_option maxRecDepth 100000 in
set_option maxHeartbeats 2000000 in
theorem impl_ExpandLabel (K : List UInt32) (w : World) (hK : KAt K w) (kd sz bk : Int) (v0 : Value) (x0 : Bs) (l0 : x0.length ≤ 16384) (b0 : BS [] w v0 x0) (s1 : ByteArray) (_l1 : s1.size ≤ 16384) (v2 : Value) (x2 : Bs) (l2 : x2.length ≤ 16384) (b2 : BS [] w v2 x2) (i3 : Nat) (_l3 : i3 ≤ 100000) (h1 : s1.size ≤ 249) (h2 : x2.length ≤ 255) (h3 : i3 ≤ 255 * (hfK K (kdOf kd sz bk)).sz) :
    Calls Tryd.prog 36 #[hV kd sz bk, v0, .string s1, v2, .int .i64 (i3 : Int)] w (Gives w (expandLabelF (hfK K (kdOf kd sz bk)) x0 (sb s1) x2 i3)) := by
  have hc0 : Chg [] w (w.alloc (hObj kd sz bk)) := (Chg.refl [] w).alloc _
  by_cases hk : kd = 1
  · subst hk
    rw [kdOf_one]
    go_enter Tryd.func36, Tryd.ntmps36
    go_wp2_with (first | (go_at_call 44; refine (impl_copied _ v0 x0 (by omega) (b0.keep hc0)).mono ?_; rintro e w2 ⟨u0, rfl, f0, n0⟩; have hc1 := (hc0).trans f0.2.1) | (go_at_call 44; refine (impl_copied _ v2 x2 (by omega) (b2.keep hc1)).mono ?_; rintro e w3 ⟨u2, rfl, f2, n2⟩; have hc2 := (hc1).trans f2.2.1) | (go_at_call 72; refine (xlabel_digest K _ newV [0] (maker_digest (hK.chg hc2 (by simp))) x0 _ s1 x2 _ (by omega) (by omega) (by omega) i3 h3 (f0.bs0.keep f2.2.1) f2.bs0).mono ?_; rintro e wz ⟨uz, rfl, fz⟩))
    go_ret
    exact ⟨_, rfl, fz.from hc2⟩
  · rw [kdOf_own hk]
    go_enter Tryd.func36, Tryd.ntmps36
    go_upto_region 3 with fail
    obtain ⟨wB, hwB⟩ : ∃ wB, wB = w.alloc (hObj kd sz bk) := ⟨_, rfl⟩
    rw [← hwB] at hc0 ⊢
    have hrow : wB.heap[w.heap.size]? = some (hObj kd sz bk) := hwB ▸ heap_alloc_new w _
    clear hwB
    have ldh : ∀ W, Chg [] wB W → (Instr.loadAt 23 (.pointer (some ⟨w.heap.size, 0, none⟩))).run Tryd.prog W = .ok (hV kd sz bk) W := fun W h => ld_hV (h.row hrow (by simp))
    have hd0 : Chg [] wB wB.drew := (Chg.refl [] wB).drew
    refine region_held (fun w' => Chg [] wB w') [(0, true), (1, true), (2, true), (4, true), (5, true), (7, true), (3, false), (6, false), (8, false), (9, true)] (by kernel_rfl) (by kernel_rfl) hd0 ?_
    change wpPlan _ _ _ _ [(_, true), (_, true), (_, true), (_, true), (_, true), (_, true), (_, false), (_, false), (_, false), (_, true)] _ _
    iterate 6 (first | refine plan_move _ rfl rfl ?_ | refine plan_assign _ rfl rfl ?_ | refine plan_loadG 23 _ ⟨w.heap.size, 0, none⟩ (hV kd sz bk) rfl rfl rfl ldh ?_ | refine plan_makeFunc _ _ _ rfl rfl ?_)
    refine plan_step ?_
    go_wp2_with (go_at_call 44; refine (impl_copied _ v0 x0 (by omega) (b0.keep (hc0.trans hd0))).mono ?_; rintro e w2 ⟨u0, rfl, f0, n0⟩)
    have hd1 := hd0.trans f0.2.1
    refine HeldN.mk hd1 ?_
    refine plan_step ?_
    go_wp2_with (go_at_call 44; refine (impl_copied _ v2 x2 (by omega) (b2.keep (hc0.trans hd1))).mono ?_; rintro e w3 ⟨u2, rfl, f2, n2⟩)
    have hd2 := hd1.trans f2.2.1
    refine HeldN.mk hd2 ?_
    refine plan_step ?_
    go_wp2_with (go_at_call 73; refine (xlabel_own K (ownSz sz bk, ownBk sz bk) _ (freshV kd sz bk) [0] (maker_own (hK.chg (hc0.trans hd2) (by simp)) kd sz bk) x0 _ s1 x2 _ (by omega) (by omega) (by omega) i3 (by rw [kdOf_own hk] at h3; exact h3) (f0.bs0.keep f2.2.1) f2.bs0).mono ?_; rintro e wz ⟨uz, rfl, fz⟩)
    have hd3 := hd2.trans fz.2.1
    refine HeldN.mk hd3 ?_
    iterate 1 (first | refine plan_move _ rfl rfl ?_ | refine plan_assign _ rfl rfl ?_ | refine plan_loadG 23 _ ⟨w.heap.size, 0, none⟩ (hV kd sz bk) rfl rfl rfl ldh ?_ | refine plan_makeFunc _ _ _ rfl rfl ?_)
    refine plan_nil (Held2.mk ?_)
    go_wp2
    go_ret
    exact ⟨_, rfl, fz.from (hc0.trans hd2)⟩
set_option maxRecDepth 100000 in
set_option maxHeartbeats 2000000 in
theorem impl_Extract (K : List UInt32) (w : World) (hK : KAt K w) (kd sz bk : Int) (v0 : Value) (x0 : Bs) (l0 : x0.length ≤ 16384) (b0 : BS [] w v0 x0) (v1 : Value) (x1 : Bs) (l1 : x1.length ≤ 16384) (b1 : BS [] w v1 x1) :
    Calls Tryd.prog 31 #[hV kd sz bk, v0, v1] w (Gives w (extractF (hfK K (kdOf kd sz bk)) (orZeros (hfK K (kdOf kd sz bk)) x0) x1)) := by
  have hc0 : Chg [] w (w.alloc (hObj kd sz bk)) := (Chg.refl [] w).alloc _
  by_cases hk : kd = 1
  · subst hk
    rw [kdOf_one]
    go_enter Tryd.func31, Tryd.ntmps31
    go_wp2_with (first | (go_at_call 44; refine (impl_copied _ v0 x0 (by omega) (b0.keep hc0)).mono ?_; rintro e w2 ⟨u0, rfl, f0, n0⟩; have hc1 := (hc0).trans f0.2.1) | (go_at_call 44; refine (impl_copied _ v1 x1 (by omega) (b1.keep hc1)).mono ?_; rintro e w3 ⟨u1, rfl, f1, n1⟩; have hc2 := (hc1).trans f1.2.1) | (go_at_call 65; refine (zzextract_digest K _ newV [0] (maker_digest (hK.chg hc2 (by simp))) x0 x1 _ _ (by omega) (by omega) (f0.bs0.keep f1.2.1) f1.bs0 n0).mono ?_; rintro e wz ⟨uz, rfl, fz⟩))
    go_ret
    exact ⟨_, rfl, fz.from hc2⟩
  · rw [kdOf_own hk]
    go_enter Tryd.func31, Tryd.ntmps31
    go_upto_region 3 with fail
    obtain ⟨wB, hwB⟩ : ∃ wB, wB = w.alloc (hObj kd sz bk) := ⟨_, rfl⟩
    rw [← hwB] at hc0 ⊢
    have hrow : wB.heap[w.heap.size]? = some (hObj kd sz bk) := hwB ▸ heap_alloc_new w _
    clear hwB
    have ldh : ∀ W, Chg [] wB W → (Instr.loadAt 23 (.pointer (some ⟨w.heap.size, 0, none⟩))).run Tryd.prog W = .ok (hV kd sz bk) W := fun W h => ld_hV (h.row hrow (by simp))
    have hd0 : Chg [] wB wB.drew := (Chg.refl [] wB).drew
    refine region_held (fun w' => Chg [] wB w') [(0, true), (1, true), (2, true), (4, true), (3, false), (5, false), (6, false), (7, true)] (by kernel_rfl) (by kernel_rfl) hd0 ?_
    change wpPlan _ _ _ _ [(_, true), (_, true), (_, true), (_, true), (_, false), (_, false), (_, false), (_, true)] _ _
    iterate 4 (first | refine plan_move _ rfl rfl ?_ | refine plan_assign _ rfl rfl ?_ | refine plan_loadG 23 _ ⟨w.heap.size, 0, none⟩ (hV kd sz bk) rfl rfl rfl ldh ?_ | refine plan_makeFunc _ _ _ rfl rfl ?_)
    refine plan_step ?_
    go_wp2_with (go_at_call 44; refine (impl_copied _ v0 x0 (by omega) (b0.keep (hc0.trans hd0))).mono ?_; rintro e w2 ⟨u0, rfl, f0, n0⟩)
    have hd1 := hd0.trans f0.2.1
    refine HeldN.mk hd1 ?_
    refine plan_step ?_
    go_wp2_with (go_at_call 44; refine (impl_copied _ v1 x1 (by omega) (b1.keep (hc0.trans hd1))).mono ?_; rintro e w3 ⟨u1, rfl, f1, n1⟩)
    have hd2 := hd1.trans f1.2.1
    refine HeldN.mk hd2 ?_
    refine plan_step ?_
    go_wp2_with (go_at_call 66; refine (zzextract_own K (ownSz sz bk, ownBk sz bk) _ (freshV kd sz bk) [0] (maker_own (hK.chg (hc0.trans hd2) (by simp)) kd sz bk) x0 x1 _ _ (by omega) (by omega) (f0.bs0.keep f1.2.1) f1.bs0 n0).mono ?_; rintro e wz ⟨uz, rfl, fz⟩)
    have hd3 := hd2.trans fz.2.1
    refine HeldN.mk hd3 ?_
    iterate 1 (first | refine plan_move _ rfl rfl ?_ | refine plan_assign _ rfl rfl ?_ | refine plan_loadG 23 _ ⟨w.heap.size, 0, none⟩ (hV kd sz bk) rfl rfl rfl ldh ?_ | refine plan_makeFunc _ _ _ rfl rfl ?_)
    refine plan_nil (Held2.mk ?_)
    go_wp2
    go_ret
    exact ⟨_, rfl, fz.from (hc0.trans hd2)⟩
set_option maxRecDepth 100000 in
set_option maxHeartbeats 2000000 in
theorem impl_DeriveSecret (K : List UInt32) (w : World) (hK : KAt K w) (kd sz bk : Int) (v0 : Value) (x0 : Bs) (l0 : x0.length ≤ 16384) (b0 : BS [] w v0 x0) (s1 : ByteArray) (_l1 : s1.size ≤ 16384) (v2 : Value) (x2 : Bs) (l2 : x2.length ≤ 16384) (b2 : BS [] w v2 x2) (h1 : s1.size ≤ 249) :
    Calls Tryd.prog 32 #[hV kd sz bk, v0, .string s1, v2] w (Gives w (deriveF (hfK K (kdOf kd sz bk)) x0 (sb s1) x2)) := by
  have hc0 : Chg [] w (w.alloc (hObj kd sz bk)) := (Chg.refl [] w).alloc _
  by_cases hk : kd = 1
  · subst hk
    rw [kdOf_one]
    go_enter Tryd.func32, Tryd.ntmps32
    go_upto_region 2 with fail
    obtain ⟨wB, hwB⟩ : ∃ wB, wB = w.alloc (hObj 1 sz bk) := ⟨_, rfl⟩
    rw [← hwB] at hc0 ⊢
    have hrow : wB.heap[w.heap.size]? = some (hObj 1 sz bk) := hwB ▸ heap_alloc_new w _
    clear hwB
    have ldh : ∀ W, Chg [] wB W → (Instr.loadAt 23 (.pointer (some ⟨w.heap.size, 0, none⟩))).run Tryd.prog W = .ok (hV 1 sz bk) W := fun W h => ld_hV (h.row hrow (by simp))
    have hd0 : Chg [] wB wB.drew := (Chg.refl [] wB).drew
    refine region_held (fun w' => Chg [] wB w') [(0, true), (2, true), (3, true), (4, true), (1, false), (5, false), (6, false), (7, true)] (by kernel_rfl) (by kernel_rfl) hd0 ?_
    change wpPlan _ _ _ _ [(_, true), (_, true), (_, true), (_, true), (_, false), (_, false), (_, false), (_, true)] _ _
    iterate 4 (first | refine plan_move _ rfl rfl ?_ | refine plan_assign _ rfl rfl ?_ | refine plan_loadG 23 _ ⟨w.heap.size, 0, none⟩ (hV 1 sz bk) rfl rfl rfl ldh ?_ | refine plan_makeFunc _ _ _ rfl rfl ?_)
    refine plan_step ?_
    go_wp2_with (go_at_call 44; refine (impl_copied _ v0 x0 (by omega) (b0.keep (hc0.trans hd0))).mono ?_; rintro e w2 ⟨u0, rfl, f0, n0⟩)
    have hd1 := hd0.trans f0.2.1
    refine HeldN.mk hd1 ?_
    refine plan_step ?_
    go_wp2_with (go_at_call 53; refine (impl_said K _ (hK.chg (hc0.trans hd1) (by simp)) 1 sz bk _ x2 (by omega) (b2.keep (hc0.trans hd1))).mono ?_; rintro e w3 ⟨pq, qq, rfl, hh, hcs⟩)
    have hd2 := hd1.trans hcs
    refine HeldN.mk hd2 ?_
    rw [kdOf_one] at hh
    refine plan_step ?_
    go_wp2_with (go_at_call 67; refine (zzderive_digest K _ newV [0] (maker_digest (hK.chg (hc0.trans hd2) (by simp))) x0 _ s1 _ x2 (by omega) h1 (by omega) (f0.bs0.keep hcs) (.inr ⟨pq, qq, rfl, hh⟩)).mono ?_; rintro e wz ⟨uz, rfl, fz⟩)
    have hd3 := hd2.trans fz.2.1
    refine HeldN.mk hd3 ?_
    iterate 1 (first | refine plan_move _ rfl rfl ?_ | refine plan_assign _ rfl rfl ?_ | refine plan_loadG 23 _ ⟨w.heap.size, 0, none⟩ (hV 1 sz bk) rfl rfl rfl ldh ?_ | refine plan_makeFunc _ _ _ rfl rfl ?_)
    refine plan_nil (Held2.mk ?_)
    go_wp2
    go_ret
    exact ⟨_, rfl, fz.from (hc0.trans hd2)⟩
  · rw [kdOf_own hk]
    go_enter Tryd.func32, Tryd.ntmps32
    go_upto_region 3 with fail
    obtain ⟨wB, hwB⟩ : ∃ wB, wB = w.alloc (hObj kd sz bk) := ⟨_, rfl⟩
    rw [← hwB] at hc0 ⊢
    have hrow : wB.heap[w.heap.size]? = some (hObj kd sz bk) := hwB ▸ heap_alloc_new w _
    clear hwB
    have ldh : ∀ W, Chg [] wB W → (Instr.loadAt 23 (.pointer (some ⟨w.heap.size, 0, none⟩))).run Tryd.prog W = .ok (hV kd sz bk) W := fun W h => ld_hV (h.row hrow (by simp))
    have hd0 : Chg [] wB wB.drew := (Chg.refl [] wB).drew
    refine region_held (fun w' => Chg [] wB w') [(0, true), (1, true), (2, true), (4, true), (5, true), (6, true), (3, false), (7, false), (8, false), (9, true)] (by kernel_rfl) (by kernel_rfl) hd0 ?_
    change wpPlan _ _ _ _ [(_, true), (_, true), (_, true), (_, true), (_, true), (_, true), (_, false), (_, false), (_, false), (_, true)] _ _
    iterate 6 (first | refine plan_move _ rfl rfl ?_ | refine plan_assign _ rfl rfl ?_ | refine plan_loadG 23 _ ⟨w.heap.size, 0, none⟩ (hV kd sz bk) rfl rfl rfl ldh ?_ | refine plan_makeFunc _ _ _ rfl rfl ?_)
    refine plan_step ?_
    go_wp2_with (go_at_call 44; refine (impl_copied _ v0 x0 (by omega) (b0.keep (hc0.trans hd0))).mono ?_; rintro e w2 ⟨u0, rfl, f0, n0⟩)
    have hd1 := hd0.trans f0.2.1
    refine HeldN.mk hd1 ?_
    refine plan_step ?_
    go_wp2_with (go_at_call 53; refine (impl_said K _ (hK.chg (hc0.trans hd1) (by simp)) kd sz bk _ x2 (by omega) (b2.keep (hc0.trans hd1))).mono ?_; rintro e w3 ⟨pq, qq, rfl, hh, hcs⟩)
    have hd2 := hd1.trans hcs
    refine HeldN.mk hd2 ?_
    rw [kdOf_own hk] at hh
    refine plan_step ?_
    go_wp2_with (go_at_call 68; refine (zzderive_own K (ownSz sz bk, ownBk sz bk) _ (freshV kd sz bk) [0] (maker_own (hK.chg (hc0.trans hd2) (by simp)) kd sz bk) x0 _ s1 _ x2 (by omega) h1 (by omega) (f0.bs0.keep hcs) (.inr ⟨pq, qq, by rw [kdOf_own hk], hh⟩)).mono ?_; rintro e wz ⟨uz, rfl, fz⟩)
    have hd3 := hd2.trans fz.2.1
    refine HeldN.mk hd3 ?_
    iterate 1 (first | refine plan_move _ rfl rfl ?_ | refine plan_assign _ rfl rfl ?_ | refine plan_loadG 23 _ ⟨w.heap.size, 0, none⟩ (hV kd sz bk) rfl rfl rfl ldh ?_ | refine plan_makeFunc _ _ _ rfl rfl ?_)
    refine plan_nil (Held2.mk ?_)
    go_wp2
    go_ret
    exact ⟨_, rfl, fz.from (hc0.trans hd2)⟩
end Go.Proofs.YtknoomndofnnmaaDoor

namespace Go.Proofs.YtknoomndofnnmaaDoor
open Go Go.RowKit

theorem hfK_K0 (kd sz bk : Int) : hfK K0 (kdOf kd sz bk) = HS kd sz bk := by
  unfold kdOf HS
  split <;> rfl
set_option maxRecDepth 100000 in
set_option maxHeartbeats 1000000 in
theorem impl_sum (K : List UInt32) (w : World) (hK : KAt K w) (kd sz bk : Int) (v : Value) (d : Bs) (hd : d.length ≤ 20000) (hv : BS [] w v d) :
    Calls Tryd.prog 18 #[hV kd sz bk, v] w (Gives w ((hfK K (kdOf kd sz bk)).sum d)) := by
  have h0 := ld_hV (heap_alloc_new w (hObj kd sz bk))
  have hp : 0 < w.heap.size := blk_lt hK.2
  have hc0 : Chg [] w (w.alloc (hObj kd sz bk)) := (Chg.refl [] w).alloc _
  by_cases hk : kd = 1
  · have e : kdOf kd sz bk = none := if_pos hk
    rw [e]
    subst hk
    go_enter Tryd.func18, Tryd.ntmps18
    go_upto_region 3 with (go_at_call 42; refine (dig_new K _ (by simp)).mono ?_; rintro e w1 ⟨p, rfl, hp1, hd1, hc1⟩)
    have hw1 : Chg [] w w1 := hc0.trans hc1
    have hpw : w.heap.size < p := by simp at hp1; omega
    have hv1 := hv.keep hw1
    have hK1 := hK.chg hw1 (by simp)
    have hpl : p < w1.heap.size := by obtain ⟨_, _, _, _, _, _, h⟩ := hd1.raw; exact blk_lt h
    clear hc0 hc1 h0 hp1
    go_upto_region 4 with (first | (go_at_call 44; refine (impl_copied _ v d (by omega) hv1).mono ?_; rintro e w2 ⟨x, rfl, hx, hxn⟩) | (go_at_call 43; refine (dig_write K _ p [] (hK1.chg hx.2.1 (by simp)) (hd1.chg hx.2.1 (by simp)) (by simp) x d (by omega) (hx.bs (by simp; exact hpl))).mono ?_; rintro e w3 ⟨rfl, hd3, hc3⟩))
    rw [List.nil_append] at hd3
    have hc4 : Chg [] w w3 := (hw1.trans hx.2.1).and hc3 (by simp; omega)
    go_wp2_with (go_at_call 45; refine (dig_sum K _ p d (hK.chg hc4 (by simp)) hd3 (by omega) _ (Own.nil _) (by simp [Value.ownBlock])).mono ?_; rintro e w5 ⟨y, rfl, hy, hc5, hf5⟩)
    go_ret
    have hc5' : Chg [] w3 w5 := hc5.mono (by simp [Value.ownBlock])
    exact ⟨y, rfl, hy, hc4.trans hc5', fun g hg => by
      rcases hf5 g hg with h | h
      · simp [Value.ownBlock] at h
      · exact Nat.le_trans hc4.size h⟩
  · have e : kdOf kd sz bk = some (ownSz sz bk, ownBk sz bk) := if_neg hk
    rw [e]
    show Calls Tryd.prog 18 #[hV kd sz bk, v] w (Gives w (ownSum (ownSz sz bk) d))
    go_enter Tryd.func18, Tryd.ntmps18
    go_upto_region 6 with (go_at_call 46; refine (own_fresh _ kd sz bk).mono ?_; rintro e w1 ⟨o, s, rfl, ho1, hs1, hd1, hc1⟩)
    have hw1 : Chg [] w w1 := hc0.trans hc1
    have how : w.heap.size < o := by simp at ho1; omega
    have hsw : w.heap.size < s := by simp at hs1; omega
    have hv1 := hv.keep hw1
    have hol : o < w1.heap.size := blk_lt hd1.2.2.2.2.1
    have hsl : s < w1.heap.size := blk_lt hd1.2.2.2.2.2
    obtain ⟨n, hn⟩ : ∃ n, n = ownSz sz bk := ⟨_, rfl⟩
    obtain ⟨k, hkk⟩ : ∃ k, k = ownBk sz bk := ⟨_, rfl⟩
    rw [← hn, ← hkk] at hd1
    have Hn := Lib.hid hn
    clear hn hkk hc0 hc1 h0 ho1 hs1 e
    go_upto_region 7 with (first | (go_at_call 44; refine (impl_copied _ v d (by omega) hv1).mono ?_; rintro e w2 ⟨x, rfl, hx, hxn⟩) | (go_at_call 47; refine (own_write _ o s n k [] (by simp) (OwnAt.chg hd1 hx.2.1 (by simp) (by simp)) x d (by omega) (hx.bs (by simp; exact ⟨hol, hsl⟩))).mono ?_; rintro e w3 ⟨rfl, hd3, hc3⟩))
    rw [List.nil_append] at hd3
    have hc4 : Chg [] w w3 := (hw1.trans hx.2.1).and hc3 (by simp; omega)
    go_wp2_with (go_at_call 48; refine (own_sum _ o s n k d hd3 _ (Own.nil _) (by simp [Value.ownBlock])).mono ?_; rintro e w5 ⟨y, rfl, hy, hc5, hf5⟩)
    go_ret
    have hc5' : Chg [] w3 w5 := hc5.mono (by simp [Value.ownBlock])
    exact ⟨y, rfl, Hn.out ▸ hy, hc4.trans hc5', fun g hg => by
      rcases hf5 g hg with h | h
      · simp [Value.ownBlock] at h
      · exact Nat.le_trans hc4.size h⟩
end Go.Proofs.YtknoomndofnnmaaDoor

namespace Go.Proofs.YtknoomndofnnmaaDoor
open Go Go.RowKit

theorem kSz_eq (K : List UInt32) (kd sz bk : Int) : (hfK K (kdOf kd sz bk)).sz = kSz kd sz bk := by
  unfold kdOf kSz
  split <;> rfl
theorem kSz_le (kd sz bk : Int) : 1 ≤ kSz kd sz bk ∧ kSz kd sz bk ≤ 32 := by
  have := own_range sz bk
  unfold kSz
  split <;> omega
/-- What labelled says. -/
def Labelled (w : World) (z : Nat) (s : ByteArray) (x : Bs) (n : Int) (e : Ending) (w' : World) : Prop := ∃ b, e = .returned (.bool b) ∧ (b = true → 1 ≤ s.size ∧ s.size ≤ 249 ∧ x.length ≤ 255 ∧ 0 ≤ n ∧ n ≤ 255 * (z : Int)) ∧ Chg [] w w'
set_option maxRecDepth 100000 in
set_option maxHeartbeats 1000000 in
theorem laws_labelled (w : World) (kd sz bk : Int) (s : ByteArray) (v : Value) (x : Bs) (hb : BS [] w v x) (n : Int) :
    Calls Tryd.prog 23 #[hV kd sz bk, .string s, v, .int .i64 n] w (Labelled w (kSz kd sz bk) s x n) := by
  obtain ⟨a, c, hf⟩ := hb.form
  subst hf
  have hc0 : Chg [] w (w.alloc (hObj kd sz bk)) := (Chg.refl [] w).alloc _
  have hk := kSz_le kd sz bk
  have hcases : s.size = 0 ∨ (0 < s.size ∧ 249 < s.size) ∨ (0 < s.size ∧ s.size ≤ 249 ∧ 255 < x.length) ∨ (0 < s.size ∧ s.size ≤ 249 ∧ x.length ≤ 255 ∧ n < 0) ∨ (0 < s.size ∧ s.size ≤ 249 ∧ x.length ≤ 255 ∧ 0 ≤ n) := by omega
  rcases hcases with h1 | ⟨h1, h2⟩ | ⟨h1, h2, h3⟩ | ⟨h1, h2, h3, h4⟩ | ⟨h1, h2, h3, h4⟩
  · have f1 : ¬ (0 : Int) < (s.size : Int) := by omega
    have H1 := Lib.hid h1
    clear h1
    go_enter Tryd.func23, Tryd.ntmps23
    go_wp2
    go_ret
    exact ⟨false, rfl, by simp, hc0⟩
  · have f1 : (0 : Int) < (s.size : Int) := by omega
    have f2 : ¬ (s.size : Int) ≤ 249 := by omega
    go_enter Tryd.func23, Tryd.ntmps23
    go_wp2
    go_ret
    exact ⟨false, rfl, by simp, hc0⟩
  · have f1 : (0 : Int) < (s.size : Int) := by omega
    have f2 : (s.size : Int) ≤ 249 := by omega
    have f3 : ¬ (x.length : Int) ≤ 255 := by omega
    go_enter Tryd.func23, Tryd.ntmps23
    go_wp2
    go_ret
    exact ⟨false, rfl, by simp, hc0⟩
  · have f1 : (0 : Int) < (s.size : Int) := by omega
    have f2 : (s.size : Int) ≤ 249 := by omega
    have f3 : (x.length : Int) ≤ 255 := by omega
    have f4 : ¬ (0 : Int) ≤ n := by omega
    go_enter Tryd.func23, Tryd.ntmps23
    go_wp2
    go_ret
    exact ⟨false, rfl, by simp, hc0⟩
  · have f1 : (0 : Int) < (s.size : Int) := by omega
    have f2 : (s.size : Int) ≤ 249 := by omega
    have f3 : (x.length : Int) ≤ 255 := by omega
    obtain ⟨z, hz⟩ : ∃ z, z = kSz kd sz bk := ⟨_, rfl⟩
    rw [← hz] at hk ⊢
    have hsz := spec_size (w.alloc (hObj kd sz bk)) kd sz bk
    rw [← hz] at hsz
    have HS := Lib.hid hsz
    clear hsz hz
    go_enter Tryd.func23, Tryd.ntmps23
    go_wp2_with (go_at_call 20; refine HS.out.mono ?_; rintro e w2 ⟨rfl, hc2⟩)
    go_ret
    exact ⟨_, rfl, fun h => ⟨h1, h2, h3, h4, of_decide_eq_true h⟩, hc0.trans hc2⟩
end Go.Proofs.YtknoomndofnnmaaDoor
