/- The law FnPRFPrefix, walked. -/
import Derived.Test.YtknoomndofnnmaaImplTls
import Derived.Test.YtknoomndofnnmaaLong
namespace Go.Proofs.Ytknoomndofnnmaa
open Go Go.RowKit

set_option maxRecDepth 100000 in
set_option maxHeartbeats 1000000 in
theorem law_prf_prefix (K : List UInt32) (w : World) (hK : KAt K w) (kd sz bk : Int) (v1 : Value) (x1 : Bs) (b1 : BS [] w v1 x1) (s : ByteArray) (v3 : Value) (x3 : Bs) (b3 : BS [] w v3 x3) (n m : Int) :
    Calls Try.prog 7 #[hV kd sz bk, v1, .string s, v3, .int .i64 n, .int .i64 m] w fun e w' => e = .returned (.bool true) ∧ Chg [] w w' := by
  obtain ⟨a1, c1, e1⟩ := b1.form
  obtain ⟨a3, c3, e3⟩ := b3.form
  subst e1 e3
  have hc0 : Chg [] w (w.alloc (hObj kd sz bk)) := (Chg.refl [] w).alloc _
  by_cases g1 : (2147483647 : Int) < (x1.length : Int)
  · go_enter Try.func7, Try.ntmps7
    go_wp2
    go_ret
    exact ⟨rfl, hc0⟩
  by_cases g2 : (2147483647 : Int) < (s.size : Int)
  · go_enter Try.func7, Try.ntmps7
    go_wp2
    go_ret
    exact ⟨rfl, hc0⟩
  by_cases g3 : (2147483647 : Int) < (x3.length : Int)
  · go_enter Try.func7, Try.ntmps7
    go_wp2
    go_ret
    exact ⟨rfl, hc0⟩
  obtain ⟨wB, hwB⟩ : ∃ wB, wB = w.alloc (hObj kd sz bk) := ⟨_, rfl⟩
  have hrow : wB.heap[w.heap.size]? = some (hObj kd sz bk) := hwB ▸ heap_alloc_new w _
  rw [← hwB] at hc0
  have hKB := hK.chg hc0 (by simp)
  have HwB := Lib.hid hwB
  clear hwB
  have bB1 := b1.keep hc0
  have bB3 := b3.keep hc0
  obtain ⟨c, wC, cur, mm, hcv, hcC, hbC, -⟩ := conv_bytes wB s (by omega)
  have hlong := long_n3 (W := wC.alloc (.cells #[.slice a1 x1.length c1, .slice (some ⟨wB.heap.size, 0, none⟩) s.size c, .slice a3 x3.length c3] 24)) x1.length s.size x3.length (heap_alloc_new wC _)
  have HL := Lib.hid hlong
  have hcD : Chg [] wB (wC.alloc (.cells #[.slice a1 x1.length c1, .slice (some ⟨wB.heap.size, 0, none⟩) s.size c, .slice a3 x3.length c3] 24)) := hcC.alloc _
  clear hlong hbC b1 b3 hK hcC
  have hcases : n < 0 ∨ (¬ n < 0 ∧ m < n) ∨ (¬ n < 0 ∧ ¬ m < n ∧ 5000 < m) ∨ (0 ≤ n ∧ n ≤ m ∧ m ≤ 5000) := by omega
  rcases hcases with h1 | ⟨h1, h2⟩ | ⟨h1, h2, h3⟩ | ⟨h1, h2, h3⟩
  · go_enter Try.func7, Try.ntmps7
    go_upto_region 3 with fail
    rw [← HwB.out]
    go_wp2_with (go_at_call 17; refine HL.out.mono ?_; rintro e w2 ⟨b, rfl, hb, hcL⟩; cases b)
    all_goals
      go_ret
      exact ⟨rfl, hc0.trans (hcD.trans hcL)⟩
  · go_enter Try.func7, Try.ntmps7
    go_upto_region 3 with fail
    rw [← HwB.out]
    go_wp2_with (go_at_call 17; refine HL.out.mono ?_; rintro e w2 ⟨b, rfl, hb, hcL⟩; cases b)
    all_goals
      go_ret
      exact ⟨rfl, hc0.trans (hcD.trans hcL)⟩
  · go_enter Try.func7, Try.ntmps7
    go_upto_region 3 with fail
    rw [← HwB.out]
    go_wp2_with (go_at_call 17; refine HL.out.mono ?_; rintro e w2 ⟨b, rfl, hb, hcL⟩; cases b)
    all_goals
      go_ret
      exact ⟨rfl, hc0.trans (hcD.trans hcL)⟩
  · obtain ⟨k, rfl⟩ := Int.eq_ofNat_of_zero_le h1
    obtain ⟨j, rfl⟩ := Int.eq_ofNat_of_zero_le (show 0 ≤ m by omega)
    have f1 : ¬ (k : Int) < 0 := by omega
    have f2 : ¬ (j : Int) < (k : Int) := by omega
    have f3 : ¬ (5000 : Int) < (j : Int) := by omega
    have hk : k ≤ j := by omega
    have hj : j ≤ 5000 := by omega
    clear h1 h2 h3
    go_enter Try.func7, Try.ntmps7
    go_upto_region 3 with fail
    rw [← HwB.out]
    go_upto_region 5 with (go_at_call 17; refine HL.out.mono ?_; rintro e w2 ⟨b, rfl, hb, hcL⟩; cases b)
    · have hl := hb (by first | rfl | trivial)
      have hB2 := hcD.trans hcL
      clear hb hcL hcv HL hcD f1 f2 f3
      have hr2 := fun j => blk_cell (hB2.row hrow (by simp)) j
      have hcall := impl_PRF K w2 (hKB.chg hB2 (by simp)) kd sz bk _ x1 (by omega) (bB1.keep hB2) s (by omega) _ x3 (by omega) (bB3.keep hB2) j (by omega)
      have HC := Lib.hid hcall
      clear hcall
      go_upto_region 6 with (go_at_call 24; refine HC.out.mono ?_; rintro e w3 ⟨u3, rfl, f3⟩)
      have hB3 := hB2.trans f3.2.1
      have hok := hfK_ok K (kdOf_ok kd sz bk)
      have hlen3 := phashF_length hok x1 (sb s ++ x3) j
      obtain ⟨a5, c5, e5⟩ := f3.1.form
      rw [hlen3] at e5
      subst e5
      have hb5 := f3.bs0
      have hcap : k ≤ c5 := by
        obtain ⟨_, c', he, hle, _⟩ := id hb5
        simp only [Value.slice.injEq] at he
        obtain ⟨_, _, rfl⟩ := he
        rw [hlen3] at hle
        omega
      have hhd := fun W => run_head a5 j c5 k hcap W
      have hb6 : BS [] w3 (.slice a5 k c5) (phashF (hfK K (kdOf kd sz bk)) x1 (sb s ++ x3) k) := by
        have e : BS [] w3 (.slice a5 (phashF (hfK K (kdOf kd sz bk)) x1 (sb s ++ x3) j).length c5) (phashF (hfK K (kdOf kd sz bk)) x1 (sb s ++ x3) j) := by rw [hlen3]; exact hb5
        have := e.head k (by omega)
        rwa [phashF_prefix hok _ _ k j hk] at this
      have HH := Lib.hid hhd
      clear HC hlen3 hr2 hhd hb5 f3
      have ldh : ∀ W, Chg [] wB W → (Instr.loadAt 23 (.pointer (some ⟨w.heap.size, 0, none⟩))).run Try.prog W = .ok (hV kd sz bk) W := fun W h => ld_hV (h.row hrow (by simp))
      refine region_held (fun w' => Chg [] wB w') [(0, true), (2, true), (1, false), (3, false), (4, true), (5, true), (6, true), (7, true), (8, true), (9, true), (11, true), (12, true), (13, true), (10, false), (14, false), (15, false), (16, true), (17, true), (18, false), (19, false), (20, false), (21, false), (22, true)] (by kernel_rfl) (by kernel_rfl) hB3.drew ?_
      change wpPlan _ _ _ _ [(_, true), (_, true), (_, false), (_, false), (_, true), (_, true), (_, true), (_, true), (_, true), (_, true), (_, true), (_, true), (_, true), (_, false), (_, false), (_, false), (_, true), (_, true), (_, false), (_, false), (_, false), (_, false), (_, true)] _ _
      iterate 2 (refine plan_uniG (by kernel_rfl) rfl ?_; go_wp2; refine HeldU.mk ?_)
      iterate 2 (refine plan_step ?_; go_wp2; refine HeldN.mk hB3.drew ?_)
      refine plan_uniG (by kernel_rfl) rfl ?_
      go_wp2
      refine HeldU.mk ?_
      refine plan_loadG 23 _ ⟨w.heap.size, 0, none⟩ (hV kd sz bk) rfl rfl rfl ldh ?_
      iterate 6 (refine plan_uniG (by kernel_rfl) rfl ?_; go_wp2; refine HeldU.mk ?_)
      refine plan_slice_b (.slice a5 k c5) _ _ _ _ rfl rfl HH.out rfl rfl rfl rfl ?_
      obtain ⟨wD, hwD⟩ : ∃ wD, wD = w3.drew := ⟨_, rfl⟩
      rw [← hwD]
      have hBD : Chg [] wB wD := hwD ▸ hB3.drew
      have hb7 : BS [] wD (.slice a5 k c5) (phashF (hfK K (kdOf kd sz bk)) x1 (sb s ++ x3) k) := hb6.keep (hwD ▸ (Chg.refl [] w3).drew)
      clear hwD hb6
      have hcall := impl_PRF K wD (hKB.chg hBD (by simp)) kd sz bk _ x1 (by omega) (bB1.keep hBD) s (by omega) _ x3 (by omega) (bB3.keep hBD) k (by omega)
      have HC := Lib.hid hcall
      clear hcall
      refine plan_step ?_
      go_wp2_with (go_at_call 24; refine HC.out.mono ?_; rintro e w4 ⟨u4, rfl, f4⟩)
      have hB4 := hBD.trans f4.2.1
      refine HeldN.mk hB4 ?_
      refine plan_step ?_
      go_wp2_with (go_at_call 18; refine (laws_same _ _ _ _ f4.bs0 (hb7.keep f4.2.1)).mono ?_; rintro e w5 ⟨rfl, hc5⟩)
      have hB5 := hB4.trans hc5
      refine HeldN.mk hB5 ?_
      refine plan_step ?_
      go_wp2
      refine HeldN.mk hB5 ?_
      refine plan_uniG (by kernel_rfl) rfl ?_
      go_wp2
      refine HeldU.mk ?_
      refine plan_loadG 23 _ ⟨w.heap.size, 0, none⟩ (hV kd sz bk) rfl rfl rfl ldh ?_
      have hcall := impl_PRF K w5 (hKB.chg hB5 (by simp)) kd sz bk (.slice none 0 0) [] (by simp) (BS.nil _ _) ⟨#[]⟩ (Nat.zero_le _) (.slice none 0 0) [] (by simp) (BS.nil _ _) 1 (by omega)
      have HC2 := Lib.hid hcall
      clear hcall HC
      refine plan_step ?_
      go_wp2_with (go_at_call 24; refine HC2.out.mono ?_; rintro e w6 ⟨u6, rfl, f6⟩)
      have hB6 := hB5.trans f6.2.1
      obtain ⟨a7, c7, e7⟩ := f6.1.form
      rw [phashF_length hok] at e7
      subst e7
      refine HeldN.mk hB6 ?_
      iterate 3 (refine plan_step ?_; go_wp2; refine HeldN.mk hB6 ?_)
      refine plan_assign _ rfl rfl ?_
      refine plan_nil (Held2.mk ?_)
      go_wp2
      go_ret
      exact ⟨rfl, hc0.trans hB6⟩
    · go_ret
      exact ⟨rfl, hc0.trans (hcD.trans hcL)⟩
end Go.Proofs.Ytknoomndofnnmaa
