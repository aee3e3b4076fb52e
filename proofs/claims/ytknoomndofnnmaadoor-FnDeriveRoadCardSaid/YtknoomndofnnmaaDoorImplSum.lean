/- The thin package: Sum. -/
import Derived.Test.YtknoomndofnnmaaDoorMakers
import Derived.Test.YtknoomndofnnmaaDoorGive
import Derived.Test.YtknoomndofnnmaaDoorShaF
import Derived.Test.YtknoomndofnnmaaDoorOwnB
import Derived.Test.YtknoomndofnnmaaDoorHash
namespace Go.Proofs.YtknoomndofnnmaaDoor
open Go Go.RowKit

theorem hfK_K0 (kd sz bk : Int) : hfK K0 (kdOf kd sz bk) = HS kd sz bk := by
  unfold kdOf HS
  split <;> rfl
set_option maxRecDepth 100000 in
set_option maxHeartbeats 1000000 in
theorem impl_sum (K : List UInt32) (w : World) (hK : KAt K w) (kd sz bk : Int) (v : Value) (d : Bs) (hd : d.length ≤ 20000) (hv : BS [] w v d) :
    Calls Tryd.prog 18 #[hV kd sz bk, v] w (Gives w ((hfK K (kdOf kd sz bk)).sum d)) := by
  have h0 := ld_hV (heap_alloc_new w (hObj kd sz bk))
  have hp : 0 < w.heap.size := blk_lt hK.2
  have hc0 : Chg [] w (w.alloc (hObj kd sz bk)) := (Chg.refl [] w).alloc _
  by_cases hk : kd = 1
  · have e : kdOf kd sz bk = none := if_pos hk
    rw [e]
    subst hk
    go_enter Tryd.func18, Tryd.ntmps18
    go_upto_region 3 with (go_at_call 42; refine (dig_new K _ (by simp)).mono ?_; rintro e w1 ⟨p, rfl, hp1, hd1, hc1⟩)
    have hw1 : Chg [] w w1 := hc0.trans hc1
    have hpw : w.heap.size < p := by simp at hp1; omega
    have hv1 := hv.keep hw1
    have hK1 := hK.chg hw1 (by simp)
    have hpl : p < w1.heap.size := by obtain ⟨_, _, _, _, _, _, h⟩ := hd1.raw; exact blk_lt h
    clear hc0 hc1 h0 hp1
    go_upto_region 4 with (first | (go_at_call 44; refine (impl_copied _ v d (by omega) hv1).mono ?_; rintro e w2 ⟨x, rfl, hx, hxn⟩) | (go_at_call 43; refine (dig_write K _ p [] (hK1.chg hx.2.1 (by simp)) (hd1.chg hx.2.1 (by simp)) (by simp) x d (by omega) (hx.bs (by simp; exact hpl))).mono ?_; rintro e w3 ⟨rfl, hd3, hc3⟩))
    rw [List.nil_append] at hd3
    have hc4 : Chg [] w w3 := (hw1.trans hx.2.1).and hc3 (by simp; omega)
    go_wp2_with (go_at_call 45; refine (dig_sum K _ p d (hK.chg hc4 (by simp)) hd3 (by omega) _ (Own.nil _) (by simp [Value.ownBlock])).mono ?_; rintro e w5 ⟨y, rfl, hy, hc5, hf5⟩)
    go_ret
    have hc5' : Chg [] w3 w5 := hc5.mono (by simp [Value.ownBlock])
    exact ⟨y, rfl, hy, hc4.trans hc5', fun g hg => by
      rcases hf5 g hg with h | h
      · simp [Value.ownBlock] at h
      · exact Nat.le_trans hc4.size h⟩
  · have e : kdOf kd sz bk = some (ownSz sz bk, ownBk sz bk) := if_neg hk
    rw [e]
    show Calls Tryd.prog 18 #[hV kd sz bk, v] w (Gives w (ownSum (ownSz sz bk) d))
    go_enter Tryd.func18, Tryd.ntmps18
    go_upto_region 6 with (go_at_call 46; refine (own_fresh _ kd sz bk).mono ?_; rintro e w1 ⟨o, s, rfl, ho1, hs1, hd1, hc1⟩)
    have hw1 : Chg [] w w1 := hc0.trans hc1
    have how : w.heap.size < o := by simp at ho1; omega
    have hsw : w.heap.size < s := by simp at hs1; omega
    have hv1 := hv.keep hw1
    have hol : o < w1.heap.size := blk_lt hd1.2.2.2.2.1
    have hsl : s < w1.heap.size := blk_lt hd1.2.2.2.2.2
    obtain ⟨n, hn⟩ : ∃ n, n = ownSz sz bk := ⟨_, rfl⟩
    obtain ⟨k, hkk⟩ : ∃ k, k = ownBk sz bk := ⟨_, rfl⟩
    rw [← hn, ← hkk] at hd1
    have Hn := Lib.hid hn
    clear hn hkk hc0 hc1 h0 ho1 hs1 e
    go_upto_region 7 with (first | (go_at_call 44; refine (impl_copied _ v d (by omega) hv1).mono ?_; rintro e w2 ⟨x, rfl, hx, hxn⟩) | (go_at_call 47; refine (own_write _ o s n k [] (by simp) (OwnAt.chg hd1 hx.2.1 (by simp) (by simp)) x d (by omega) (hx.bs (by simp; exact ⟨hol, hsl⟩))).mono ?_; rintro e w3 ⟨rfl, hd3, hc3⟩))
    rw [List.nil_append] at hd3
    have hc4 : Chg [] w w3 := (hw1.trans hx.2.1).and hc3 (by simp; omega)
    go_wp2_with (go_at_call 48; refine (own_sum _ o s n k d hd3 _ (Own.nil _) (by simp [Value.ownBlock])).mono ?_; rintro e w5 ⟨y, rfl, hy, hc5, hf5⟩)
    go_ret
    have hc5' : Chg [] w3 w5 := hc5.mono (by simp [Value.ownBlock])
    exact ⟨y, rfl, Hn.out ▸ hy, hc4.trans hc5', fun g hg => by
      rcases hf5 g hg with h | h
      · simp [Value.ownBlock] at h
      · exact Nat.le_trans hc4.size h⟩
end Go.Proofs.YtknoomndofnnmaaDoor
