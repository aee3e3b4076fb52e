/- The laws FnPRFCut, FnPRFPrefix, FnPRFRoad, walked. -/
import Derived.Test.YtknoomndofnnmaaImplTls
import Derived.Test.YtknoomndofnnmaaLong
namespace Go.Proofs.Ytknoomndofnnmaa
open Go Go.RowKit

set_option maxRecDepth 100000 in
set_option maxHeartbeats 1000000 in
theorem law_prf_cut (K : List UInt32) (w : World) (hK : KAt K w) (kd sz bk : Int) (v1 : Value) (x1 : Bs) (b1 : BS [] w v1 x1) (s : ByteArray) (cut n : Int) :
    Calls Try.prog 6 #[hV kd sz bk, v1, .string s, .int .i64 cut, .int .i64 n] w fun e w' => e = .returned (.bool true) ∧ Chg [] w w' := by
  obtain ⟨a1, c1, e1⟩ := b1.form
  subst e1
  have hc0 : Chg [] w (w.alloc (hObj kd sz bk)) := (Chg.refl [] w).alloc _
  by_cases g1 : (2147483647 : Int) < (x1.length : Int)
  · go_enter Try.func6, Try.ntmps6
    go_wp2
    go_ret
    exact ⟨rfl, hc0⟩
  by_cases g2 : (2147483647 : Int) < (s.size : Int)
  · go_enter Try.func6, Try.ntmps6
    go_wp2
    go_ret
    exact ⟨rfl, hc0⟩
  obtain ⟨wB, hwB⟩ : ∃ wB, wB = w.alloc (hObj kd sz bk) := ⟨_, rfl⟩
  have hrow : wB.heap[w.heap.size]? = some (hObj kd sz bk) := hwB ▸ heap_alloc_new w _
  rw [← hwB] at hc0
  have hKB := hK.chg hc0 (by simp)
  have HwB := Lib.hid hwB
  clear hwB
  have bB1 := b1.keep hc0
  obtain ⟨c, wC, cur, m, hcv, hcC, hbC, -⟩ := conv_bytes wB s (by omega)
  have hlong := long_n2 (W := wC.alloc (.cells #[.slice a1 x1.length c1, .slice (some ⟨wB.heap.size, 0, none⟩) s.size c] 24)) x1.length s.size (heap_alloc_new wC _)
  have HL := Lib.hid hlong
  have hcD : Chg [] wB (wC.alloc (.cells #[.slice a1 x1.length c1, .slice (some ⟨wB.heap.size, 0, none⟩) s.size c] 24)) := hcC.alloc _
  clear hlong hbC b1 hK hcC
  have hcases : cut < 0 ∨ (¬ cut < 0 ∧ (s.size : Int) < cut) ∨ (¬ cut < 0 ∧ ¬ (s.size : Int) < cut ∧ n < 1) ∨ (¬ cut < 0 ∧ ¬ (s.size : Int) < cut ∧ ¬ n < 1 ∧ 5000 < n) ∨ (0 ≤ cut ∧ cut ≤ s.size ∧ 1 ≤ n ∧ n ≤ 5000) := by omega
  rcases hcases with h1 | ⟨h1, h2⟩ | ⟨h1, h2, h3⟩ | ⟨h1, h2, h3, h4⟩ | ⟨h1, h2, h3, h4⟩
  · go_enter Try.func6, Try.ntmps6
    go_upto_region 3 with fail
    rw [← HwB.out]
    go_wp2_with (go_at_call 17; refine HL.out.mono ?_; rintro e w2 ⟨b, rfl, hb, hcL⟩; cases b)
    all_goals
      go_ret
      exact ⟨rfl, hc0.trans (hcD.trans hcL)⟩
  · go_enter Try.func6, Try.ntmps6
    go_upto_region 3 with fail
    rw [← HwB.out]
    go_wp2_with (go_at_call 17; refine HL.out.mono ?_; rintro e w2 ⟨b, rfl, hb, hcL⟩; cases b)
    all_goals
      go_ret
      exact ⟨rfl, hc0.trans (hcD.trans hcL)⟩
  · go_enter Try.func6, Try.ntmps6
    go_upto_region 3 with fail
    rw [← HwB.out]
    go_wp2_with (go_at_call 17; refine HL.out.mono ?_; rintro e w2 ⟨b, rfl, hb, hcL⟩; cases b)
    all_goals
      go_ret
      exact ⟨rfl, hc0.trans (hcD.trans hcL)⟩
  · go_enter Try.func6, Try.ntmps6
    go_upto_region 3 with fail
    rw [← HwB.out]
    go_wp2_with (go_at_call 17; refine HL.out.mono ?_; rintro e w2 ⟨b, rfl, hb, hcL⟩; cases b)
    all_goals
      go_ret
      exact ⟨rfl, hc0.trans (hcD.trans hcL)⟩
  · obtain ⟨k, rfl⟩ := Int.eq_ofNat_of_zero_le h1
    obtain ⟨j, rfl⟩ := Int.eq_ofNat_of_zero_le (show 0 ≤ n by omega)
    have f1 : ¬ (k : Int) < 0 := by omega
    have f2 : ¬ (s.size : Int) < (k : Int) := by omega
    have f3 : ¬ (j : Int) < 1 := by omega
    have f4 : ¬ (5000 : Int) < (j : Int) := by omega
    have hk : k ≤ s.size := by omega
    have hj : j ≤ 5000 := by omega
    clear h1 h2 h3 h4
    go_enter Try.func6, Try.ntmps6
    go_upto_region 3 with fail
    rw [← HwB.out]
    go_upto_region 5 with (go_at_call 17; refine HL.out.mono ?_; rintro e w2 ⟨b, rfl, hb, hcL⟩; cases b)
    · have hl := hb (by first | rfl | trivial)
      have hB2 := hcD.trans hcL
      clear hb hcL hcv HL hcD f1 f2 f3 f4
      have ldh : ∀ W, Chg [] wB W → (Instr.loadAt 23 (.pointer (some ⟨w.heap.size, 0, none⟩))).run Try.prog W = .ok (hV kd sz bk) W := fun W h => ld_hV (h.row hrow (by simp))
      have hs1 := fun W => str_head s k hk W
      have hs2 := fun W => str_tail s k hk W
      have z1 : (s.extract 0 k).size ≤ 16384 := by rw [ByteArray.size_extract]; omega
      have z2 : (s.extract k s.size).size ≤ 16384 := by rw [ByteArray.size_extract]; omega
      have hcat := sb_cut s k hk
      obtain ⟨sA, hsA⟩ : ∃ sA, sA = s.extract 0 k := ⟨_, rfl⟩
      obtain ⟨sZ, hsZ⟩ : ∃ sZ, sZ = s.extract k s.size := ⟨_, rfl⟩
      rw [← hsA] at hs1 z1 hcat
      rw [← hsZ] at hs2 z2 hcat
      have Hcat := Lib.hid hcat
      have HS1 := Lib.hid hs1
      have HS2 := Lib.hid hs2
      clear hsA hsZ hcat hs1 hs2
      refine region_held (fun w' => Chg [] wB w') [(0, true), (2, true), (3, true), (4, true), (5, true), (6, true), (7, true), (1, true), (9, true), (8, false), (10, false), (11, true)] (by kernel_rfl) (by kernel_rfl) hB2.drew ?_
      change wpPlan _ _ _ _ [(_, true), (_, true), (_, true), (_, true), (_, true), (_, true), (_, true), (_, true), (_, true), (_, false), (_, false), (_, true)] _ _
      refine plan_loadG 23 _ ⟨w.heap.size, 0, none⟩ (hV kd sz bk) rfl rfl rfl ldh ?_
      refine plan_uni (by kernel_rfl) rfl ?_
      go_wp2
      refine HeldU.mk ?_
      refine plan_uni (by kernel_rfl) rfl ?_
      go_wp2
      refine HeldU.mk ?_
      refine plan_slice_s (.string sA) _ _ _ _ rfl rfl HS1.out rfl rfl rfl rfl ?_
      refine plan_uni (by kernel_rfl) rfl ?_
      go_wp2
      refine HeldU.mk ?_
      refine plan_uni (by kernel_rfl) rfl ?_
      go_wp2
      refine HeldU.mk ?_
      refine plan_slice_s (.string sZ) _ _ _ _ rfl rfl HS2.out rfl rfl rfl rfl ?_
      refine plan_uni (by kernel_rfl) rfl ?_
      go_wp2
      refine HeldU.mk ?_
      refine plan_uni (by kernel_rfl) rfl ?_
      go_wp2
      refine HeldU.mk ?_
      obtain ⟨wD, hwD⟩ : ∃ wD, wD = w2.drew := ⟨_, rfl⟩
      rw [← hwD]
      have hBD : Chg [] wB wD := hwD ▸ hB2.drew
      obtain ⟨cc, wE, _, _, hcv2, hcE, hbE, -⟩ := conv_bytes wD sZ (by omega)
      clear hwD
      refine plan_step ?_
      go_wp2
      have hBE := hBD.trans hcE
      refine HeldN.mk hBE ?_
      have hcall := impl_PRF K wE (hKB.chg hBE (by simp)) kd sz bk _ x1 (by omega) (bB1.keep hBE) sA (by omega) _ (sb sZ) (by rw [sb_length]; omega) hbE j (by omega)
      rw [Hcat.out] at hcall
      have HC := Lib.hid hcall
      clear hcall hcv2
      refine plan_step ?_
      go_wp2_with (go_at_call 24; refine HC.out.mono ?_; rintro e w3 ⟨u3, rfl, f3⟩)
      have hB3 := hBE.trans f3.2.1
      refine HeldN.mk hB3 ?_
      refine plan_assign _ rfl rfl ?_
      refine plan_nil (Held2.mk ?_)
      have hlen3 := phashF_length (hfK_ok K (kdOf_ok kd sz bk)) x1 (sb s) j
      obtain ⟨a3, c3, e3⟩ := f3.1.form
      rw [hlen3] at e3
      subst e3
      clear HC hlen3
      have hr3 := fun j => blk_cell (hB3.row hrow (by simp)) j
      have hcall := impl_PRF K w3 (hKB.chg hB3 (by simp)) kd sz bk _ x1 (by omega) (bB1.keep hB3) s (by omega) (.slice none 0 0) [] (by simp) (BS.nil _ _) j (by omega)
      rw [List.append_nil] at hcall
      have HC := Lib.hid hcall
      clear hcall
      go_wp2_with (first | (go_at_call 24; refine HC.out.mono ?_; rintro e w4 ⟨u4, rfl, f4⟩) | (go_at_call 18; refine (laws_same _ _ _ _ (f3.bs0.keep f4.2.1) f4.bs0).mono ?_; rintro e w5 ⟨rfl, hc5⟩))
      go_ret
      exact ⟨rfl, hc0.trans ((hB3.trans f4.2.1).trans hc5)⟩
    · go_ret
      exact ⟨rfl, hc0.trans (hcD.trans hcL)⟩
end Go.Proofs.Ytknoomndofnnmaa
