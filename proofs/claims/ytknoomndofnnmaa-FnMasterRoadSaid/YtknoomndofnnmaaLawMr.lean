/- The law FnMasterRoad, walked. -/
import Derived.Test.YtknoomndofnnmaaImplTls
namespace Go.Proofs.Ytknoomndofnnmaa
open Go Go.RowKit

set_option maxRecDepth 100000 in
set_option maxHeartbeats 2000000 in
theorem law_master_road (K : List UInt32) (w : World) (hK : KAt K w) (kd sz bk : Int) (v1 : Value) (x1 : Bs) (b1 : BS [] w v1 x1) (v2 : Value) (x2 : Bs) (b2 : BS [] w v2 x2) :
    Calls Try.prog 10 #[hV kd sz bk, v1, v2] w fun e w' => e = .returned (.bool true) ∧ Chg [] w w' := by
  obtain ⟨a1, c1, e1⟩ := b1.form
  obtain ⟨a2, c2, e2⟩ := b2.form
  subst e1 e2
  have hc0 : Chg [] w (w.alloc (hObj kd sz bk)) := (Chg.refl [] w).alloc _
  by_cases g1 : (2147483647 : Int) < (x1.length : Int)
  · go_enter Try.func10, Try.ntmps10
    go_wp2
    go_ret
    exact ⟨rfl, hc0⟩
  by_cases g2 : (2147483647 : Int) < (x2.length : Int)
  · go_enter Try.func10, Try.ntmps10
    go_wp2
    go_ret
    exact ⟨rfl, hc0⟩
  go_enter Try.func10, Try.ntmps10
  go_upto_region 3 with fail
  obtain ⟨wB, hwB⟩ : ∃ wB, wB = w.alloc (hObj kd sz bk) := ⟨_, rfl⟩
  rw [← hwB] at hc0 ⊢
  have hrow : wB.heap[w.heap.size]? = some (hObj kd sz bk) := hwB ▸ heap_alloc_new w _
  have hKB := hK.chg hc0 (by simp)
  have bB1 := b1.keep hc0
  have bB2 := b2.keep hc0
  clear hwB b1 b2 hK g1 g2
  have hlong := laws_long2 (W := wB.alloc (.cells #[.slice a1 x1.length c1, .slice a2 x2.length c2] 24)) x1 x2 (heap_alloc_new wB _)
  go_upto_region 5 with (go_at_call 17; refine hlong.mono ?_; rintro e w2 ⟨b, rfl, hb, hcL⟩; cases b)
  · have hl := hb (by first | rfl | trivial)
    have hB2 : Chg [] wB w2 := ((Chg.refl [] wB).alloc _).trans hcL
    have hr2 := fun j => blk_cell (hB2.row hrow (by simp)) j
    have hcall := impl_Master K w2 (hKB.chg hB2 (by simp)) kd sz bk _ x1 (by omega) (bB1.keep hB2) _ x2 (by omega) (bB2.keep hB2)
    have HC := Lib.hid hcall
    clear hlong hb hcL hcall
    go_upto_region 6 with (go_at_call 25; go_loud (refine HC.out.mono ?_); rintro e w3 ⟨u3, rfl, f3⟩)
    have hlen3 := phashF_length (hfK_ok K (kdOf_ok kd sz bk)) x1 (sb extS ++ x2) 48
    obtain ⟨a3, c3, e3⟩ := f3.1.form
    rw [hlen3] at e3
    subst e3
    clear HC hr2 hlen3
    have hB3 := hB2.trans f3.2.1
    have hr3 := fun j => blk_cell (hB3.row hrow (by simp)) j
    have hcall := impl_PRF K w3 (hKB.chg hB3 (by simp)) kd sz bk _ x1 (by omega) (bB1.keep hB3) extS (by rw [extS_size]; omega) _ x2 (by omega) (bB2.keep hB3) 48 (by omega)
    have HC := Lib.hid hcall
    clear hcall
    go_wp2_with (first | (go_at_call 24; refine HC.out.mono ?_; rintro e w4 ⟨u4, rfl, f4⟩) | (go_at_call 18; refine (laws_same _ _ _ _ (f3.bs0.keep f4.2.1) f4.bs0).mono ?_; rintro e w5 ⟨rfl, hc5⟩))
    go_ret
    exact ⟨rfl, hc0.trans ((hB3.trans f4.2.1).trans hc5)⟩
  · go_ret
    exact ⟨rfl, hc0.trans (((Chg.refl [] wB).alloc _).trans hcL)⟩
end Go.Proofs.Ytknoomndofnnmaa
