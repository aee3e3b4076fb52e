/- The reference: pieces together, a key padded, HMAC. The reference: HMAC, HKDF. The reference: TLS 1.3. The reference: the key schedule. -/
import Derived.Test.YtknoomndofnnmaaDoorYSpecE
import Derived.Test.YtknoomndofnnmaaDoorYHkdf
import Derived.Test.YtknoomndofnnmaaDoorYTlsA
import Derived.Lib.SlBytesConst
import Derived.Test.YtknoomndofnnmaaDoorYSec
namespace Go.Proofs.YtknoomndofnnmaaDoor
open Go Go.RowKit

/-- The pieces, one behind the other. -/
def joinB (l : List (Value × Bs)) : Bs := (l.map (·.2)).flatten
theorem joinB_take (l : List (Value × Bs)) (k : Nat) (h : k < l.length) : joinB (l.take (k + 1)) = joinB (l.take k) ++ l[k].2 := by
  unfold joinB
  rw [List.take_succ_eq_append_getElem h, List.map_append, List.flatten_append]
  simp
theorem joinB_le (l : List (Value × Bs)) (k : Nat) : (joinB (l.take k)).length ≤ (joinB l).length := by
  have e : joinB l = joinB (l.take k) ++ joinB (l.drop k) := by
    unfold joinB
    rw [← List.flatten_append, ← List.map_append, List.take_append_drop]
  rw [e, List.length_append]
  omega
set_option maxRecDepth 100000 in
theorem spec_joined (w : World) (g n : Nat) (l : List (Value × Bs)) (t : TypeId) (hn : n = l.length) (hl : n ≤ 1000) (hg : w.heap[g]? = some (.cells (l.map (·.1)).toArray t (0, 0))) (hs : ∀ p ∈ l, BS [] w p.1 p.2) (hsum : (joinB l).length ≤ 1000000) :
    Calls Tryd.prog 87 #[.slice (some ⟨g, 0, none⟩) n n] w (Gives w (joinB l)) := by
  have HS := Lib.hid hs
  have HG := Lib.hid hg
  have HNl := Lib.hid hn
  have hnl : n ≤ l.length := by omega
  clear hs hn hg
  go_enter Tryd.func87, Tryd.ntmps87
  go_wp2
  go_loopw [3, 9] (fun x i wr => ∃ k : Nat, k ≤ n ∧ i = .int .i64 k ∧ Fr w (joinB (l.take k)) wr x) (fun _ i _ => n - (intOf i).toNat)
  case atStart => exact ⟨0, by omega, rfl, own_empty w _ rfl, (Chg.refl [] w).alloc _, fun g hg => by simp [Value.ownBlock] at hg; omega⟩
  case round =>
    obtain ⟨k, hk, rfl, hfr⟩ := hrel
    by_cases hlt : k < n
    · have hkl : k < l.length := Nat.lt_of_lt_of_le hlt hnl
      have hb := (HS.out l[k] (List.getElem_mem _)).keep hfr.2.1
      obtain ⟨a, c, he⟩ := hb.form
      have ck : wr.cell? ⟨g, k, none⟩ = some (.slice a l[k].2.length c) := by
        rw [blk_cell (hfr.2.1.row HG.out (by simp)), ← he]; simp [List.getElem?_eq_getElem hkl]
      rw [he] at hb
      have hdd : decide ((k : Int) < (n : Int)) = true := by simpa using hlt
      have hst := joinB_take l k hkl
      have hle := joinB_le l (k + 1)
      obtain ⟨p, hp⟩ : ∃ p, p = l[k].2 := ⟨_, rfl⟩
      rw [← hp] at ck hst hb
      rw [hst, List.length_append] at hle
      obtain ⟨xa, xc, hxe⟩ := hfr.1.form
      have HK := Lib.hid hst
      clear hst hp he
      subst hxe
      go_wp2_with (at_builtin; refine append_bytes (v := .slice xa (joinB (l.take k)).length xc) (xs := joinB (l.take k)) (ys := p) (u := .slice a p.length c) rfl _ _ rfl rfl hfr.1 rfl hb.src (by omega) ?_; intro v1 w1 hown1 hchg1 hsame1 hnil1)
      go_roundw
      case rel => exact ⟨k + 1, by omega, by go_num, by rw [HK.out]; exact hfr.app (Chg.refl [] _) hown1 hchg1 hsame1⟩
      case measure => simp [intOf]; omega
    · obtain rfl : k = n := by omega
      go_wp2
      go_ret
      rw [HNl.out, List.take_length] at hfr
      exact ⟨_, rfl, hfr⟩
theorem joined2 {W : World} {g : Nat} {t : TypeId} {v1 v2 : Value} {x1 x2 : Bs} (h : W.heap[g]? = some (.cells #[v1, v2] t (0, 0))) (b1 : BS [] W v1 x1) (b2 : BS [] W v2 x2) (hl : x1.length + x2.length ≤ 1000000) :
    Calls Tryd.prog 87 #[.slice (some ⟨g, 0, none⟩) 2 2] W (Gives W (x1 ++ x2)) := by
  have := spec_joined W g 2 [(v1, x1), (v2, x2)] t rfl (by omega) h (by intro p hp; simp at hp; rcases hp with rfl | rfl <;> assumption) (by simp [joinB]; omega)
  simpa [joinB] using this
theorem joined3 {W : World} {g : Nat} {t : TypeId} {v1 v2 v3 : Value} {x1 x2 x3 : Bs} (h : W.heap[g]? = some (.cells #[v1, v2, v3] t (0, 0))) (b1 : BS [] W v1 x1) (b2 : BS [] W v2 x2) (b3 : BS [] W v3 x3) (hl : x1.length + x2.length + x3.length ≤ 1000000) :
    Calls Tryd.prog 87 #[.slice (some ⟨g, 0, none⟩) 3 3] W (Gives W (x1 ++ x2 ++ x3)) := by
  have := spec_joined W g 3 [(v1, x1), (v2, x2), (v3, x3)] t rfl (by omega) h (by intro p hp; simp at hp; rcases hp with rfl | rfl | rfl <;> assumption) (by simp [joinB]; omega)
  simpa [joinB] using this
theorem joined4 {W : World} {g : Nat} {t : TypeId} {v1 v2 v3 v4 : Value} {x1 x2 x3 x4 : Bs} (h : W.heap[g]? = some (.cells #[v1, v2, v3, v4] t (0, 0))) (b1 : BS [] W v1 x1) (b2 : BS [] W v2 x2) (b3 : BS [] W v3 x3) (b4 : BS [] W v4 x4) (hl : x1.length + x2.length + x3.length + x4.length ≤ 1000000) :
    Calls Tryd.prog 87 #[.slice (some ⟨g, 0, none⟩) 4 4] W (Gives W (x1 ++ x2 ++ x3 ++ x4)) := by
  have := spec_joined W g 4 [(v1, x1), (v2, x2), (v3, x3), (v4, x4)] t rfl (by omega) h (by intro p hp; simp at hp; rcases hp with rfl | rfl | rfl | rfl <;> assumption) (by simp [joinB]; omega)
  simpa [joinB] using this

set_option maxRecDepth 100000 in
set_option maxHeartbeats 1000000 in
theorem spec_padded (w : World) (kd sz bk : Int) (v : Value) (key : Bs) (x : UInt8) (hk : key.length ≤ 200000) (hv : BS [] w v key) :
    Calls Tryd.prog 106 #[hV kd sz bk, v, .int .u8 (x.toNat : Int)] w (Gives w (padX (HS kd sz bk) key x)) := by
  have hok := HS_ok kd sz bk
  have hb64 := hok.bk64
  rw [HS_bk] at hb64
  have hc0 : Chg [] w (w.alloc (hObj kd sz bk)) := (Chg.refl [] w).alloc _
  obtain ⟨n, hn⟩ : ∃ n, n = kBk kd sz bk := ⟨_, rfl⟩
  obtain ⟨a, c, rfl⟩ := hv.form
  have hrow := heap_alloc_new w (hObj kd sz bk)
  have h0 := fun j => blk_cell hrow j
  have hk0 := key0_length hok key
  rw [HS_bk] at hk0
  rw [← hn] at hb64 hk0
  have HV := Lib.hid hv
  have HN := Lib.hid hn
  have hpk : ∀ k0, k0 = key0 (HS kd sz bk) key → (padTo n k0).map (· ^^^ x) = padX (HS kd sz bk) key x := by
    intro k0 he
    unfold padX
    rw [← he, HS_bk, HN.out]
  have HPK := Lib.hid hpk
  have HK0 := Lib.hid hk0
  clear hv hn hpk hk0 hok
  go_enter Tryd.func106, Tryd.ntmps106
  go_upto_if 13 with (go_at_call 118; refine (spec_blockSz _ kd sz bk).mono ?_; rintro e w1 ⟨rfl, hc⟩; rw [← HN.out])
  have hc1 := hc0.trans hc
  have hrow1 := hc.row hrow (by simp)
  have h1 := fun j => blk_cell hrow1 j
  clear h0 hc hrow hc0
  go_cut [1] (fun v1 wx => ∃ k0, BS [] wx v1 k0 ∧ Hid (k0 = key0 (HS kd sz bk) key) ∧ Chg [] w wx ∧ wx.heap[w.heap.size]? = some (hObj kd sz bk))
  case first =>
    by_cases hgt : n < key.length
    · have hdd : decide ((n : Int) < (key.length : Int)) = true := by simpa using hgt
      go_wp2_with (go_at_call 19; refine (spec_hash w1 kd sz bk _ key hk (HV.out.keep hc1)).mono ?_; rintro e w2 ⟨u, rfl, fu⟩)
      go_meet
      refine ⟨_, fu.bs0, Lib.hid ?_, hc1.trans fu.2.1, fu.2.1.row hrow1 (by simp)⟩
      unfold key0
      rw [HS_bk, ← HN.out, if_pos hgt]
    · have hdd : decide ((n : Int) < (key.length : Int)) = false := by simpa using hgt
      go_wp2
      go_meet
      refine ⟨key, HV.out.keep hc1, Lib.hid ?_, hc1, hrow1⟩
      unfold key0
      rw [HS_bk, ← HN.out, if_neg hgt]
  case rest =>
    obtain ⟨k0, hb0, hk0, hcw, hrw⟩ := hcut
    have hkl : k0.length ≤ n := by rw [hk0.out]; exact HK0.out
    have hwc := fun j => blk_cell hrw j
    have hmk := mk_bytes n (by omega)
    obtain ⟨ka, kc, rfl⟩ := hb0.form
    clear hc1 hrow1 h1
    go_upto_region 4 with (go_at_call 118; refine (spec_blockSz _ kd sz bk).mono ?_; rintro e w2 ⟨rfl, hc2⟩; rw [← HN.out])
    obtain ⟨s, hs⟩ : ∃ s, s = w2.heap.size := ⟨_, rfl⟩
    rw [← hs]
    have hc2' := hcw.trans hc2
    have hws : w.heap.size ≤ s := by have := hc2'.size; omega
    obtain ⟨w3, hw3⟩ : ∃ w3, w3 = w2.alloc (.cells (brow (zN n)).toArray 5) := ⟨_, rfl⟩
    have hr3 : w3.heap[s]? = some (.cells (brow (zN n)).toArray 5 (0, 0)) := by rw [hw3, hs]; exact heap_alloc_new w2 _
    have hc3 : Chg [] w w3 := hw3 ▸ hc2'.alloc _
    have hb3 : BS [] w3 (.slice ka k0.length kc) k0 := hw3 ▸ (hb0.keep hc2).keep ((Chg.refl [] w2).alloc _)
    refine gen_wp (fun w' => w' = w3) hw3.symm (fun wq hwq => ?_)
    subst hwq
    clear hw3 hs
    obtain ⟨w4, hr4, hw4, hc4⟩ := run_copy_bytes (ty := 3) (off := 0) (dLen := n) (dCap := n) hr3 (by rw [brow_length, zN_length]; omega) hb3
    rw [pad_row n k0 hkl] at hw4
    obtain ⟨P, hP⟩ : ∃ P, P = padTo n k0 := ⟨_, rfl⟩
    have hPl : P.length = n := by rw [hP]; exact padTo_length n k0 hkl
    rw [← hP] at hw4
    have hc04 : Chg [] w w4 := hc3.and hc4 (by simp; omega)
    have HP := Lib.hid hP
    have HPl := Lib.hid hPl
    clear hP hPl hr3 hc3 hb3 hc4 hmk hwc
    go_wp2
    go_loopw [25] (fun i wr => ∃ k : Nat, k ≤ n ∧ i = .int .i64 k ∧ wr.heap[s]? = some (.cells (brow (xorN x P k)).toArray 5 (0, 0)) ∧ Chg [] w wr) (fun i _ => n - (intOf i).toNat)
    case atStart => exact ⟨0, by omega, rfl, by simpa [xorN] using hw4, hc04⟩
    case round =>
      obtain ⟨k, hkn, rfl, hr, hcr⟩ := hrel
      clear hr4 hw4 hc04
      have fi := fun j => blk_frozen hr j
      by_cases hlt : k < n
      · have hlt' : decide ((k : Int) < (n : Int)) = true := decide_eq_true (by omega)
        have cb := (blk_cell hr k).trans (bv_cell (xorN x P k) k (by rw [xorN_length, HPl.out]; exact hlt))
        rw [xorN_gt _ _ _ (by rw [HPl.out]; exact hlt)] at cb
        go_wp2
        go_roundw
        case rel =>
          refine ⟨k + 1, by omega, by go_num, ?_, hcr.setCell (.inr hws) _⟩
          rw [u8_xor', blk_bset hr, xorN_step _ _ _ (by rw [HPl.out]; exact hlt)]
        case measure => simp [intOf]; omega
      · obtain rfl : k = n := by omega
        go_wp2
        go_ret
        rw [show xorN x P k = P.map (· ^^^ x) from by rw [← HPl.out]; exact xorN_all _ _, HP.out, HPK.out k0 hk0.out] at hr
        have hpl : (padX (HS kd sz bk) key x).length = k := by rw [padX_length (HS_ok kd sz bk), HS_bk, HN.out]
        exact ⟨_, rfl, own_row hr (by omega) hpl.symm, hcr, fun g hg => by simp [Value.ownBlock] at hg; omega⟩
end Go.Proofs.YtknoomndofnnmaaDoor

namespace Go.Proofs.YtknoomndofnnmaaDoor
open Go Go.RowKit

theorem Own.take {w : World} {a : Option Addr} {c : Nat} {xs : Bs} (h : Own w (.slice a xs.length c) xs) (n : Nat) (hn : n ≤ xs.length) : Own w (.slice a n c) (xs.take n) := by
  have hl : (xs.take n).length = n := by rw [List.length_take]; exact Nat.min_eq_left hn
  rcases h with ⟨h, h0⟩ | ⟨g, cap, cur, h, hg, hc, hm, hs, ht⟩
  · simp only [Value.slice.injEq] at h
    obtain ⟨rfl, h1, rfl⟩ := h
    exact .inl ⟨by rw [show n = 0 by omega], by rw [h0]; simp⟩
  · simp only [Value.slice.injEq] at h
    obtain ⟨rfl, -, rfl⟩ := h
    refine .inr ⟨g, c, cur, by rw [hl], hg, by rw [hl]; omega, hm, hs, ?_⟩
    have e : brow (xs.take n) = (brow xs).take n := by simp [brow]
    rw [hl, e, ← ht, List.take_take, Nat.min_eq_left hn]
set_option maxRecDepth 100000 in
set_option maxHeartbeats 2000000 in
theorem spec_mac (w : World) (kd sz bk : Int) (kv : Value) (key : Bs) (dv : Value) (d : Bs) (hk : key.length ≤ 200000) (hd : d.length ≤ 100000) (hkv : BS [] w kv key) (hdv : BS [] w dv d) :
    Calls Tryd.prog 89 #[hV kd sz bk, kv, dv] w (Gives w (mac (HS kd sz bk) key d)) := by
  have hok := HS_ok kd sz bk
  have hb64 := hok.bk64
  have hs32 := hok.sz32
  have HPL := Lib.hid (fun x => padX_length hok key x)
  have HSL := Lib.hid hok.len
  obtain ⟨da, dc, hde⟩ := hdv.form
  subst hde
  have hc0 : Chg [] w (w.alloc (hObj kd sz bk)) := (Chg.refl [] w).alloc _
  go_enter Tryd.func89, Tryd.ntmps89
  go_upto_region 1 with fail
  obtain ⟨wB, hwB⟩ : ∃ wB, wB = w.alloc (hObj kd sz bk) := ⟨_, rfl⟩
  rw [← hwB] at hc0 ⊢
  have hrow : wB.heap[w.heap.size]? = some (hObj kd sz bk) := hwB ▸ heap_alloc_new w _
  clear hwB
  have ldh : ∀ W, Chg [] wB W → (Instr.loadAt 23 (.pointer (some ⟨w.heap.size, 0, none⟩))).run Tryd.prog W = .ok (hV kd sz bk) W := fun W h => ld_hV (h.row hrow (by simp))
  have hd0 : Chg [] wB wB.drew := (Chg.refl [] wB).drew
  refine region_held (fun w' => Chg [] wB w') [(0, true), (1, true), (2, true), (4, true), (3, false), (5, false), (6, false), (7, false), (8, true)] (by kernel_rfl) (by kernel_rfl) hd0 ?_
  change wpPlan _ _ _ _ [(_, true), (_, true), (_, true), (_, true), (_, false), (_, false), (_, false), (_, false), (_, true)] _ _
  iterate 4 (first | refine plan_move _ rfl rfl ?_ | refine plan_assign _ rfl rfl ?_ | refine plan_loadG 23 _ ⟨w.heap.size, 0, none⟩ (hV kd sz bk) rfl rfl rfl ldh ?_ | refine plan_makeFunc _ _ _ rfl rfl ?_)
  refine plan_step ?_
  go_wp2_with (go_at_call 106; refine (spec_padded _ kd sz bk kv key 0x36 hk (hkv.keep (hc0.trans hd0))).mono ?_; rintro e1 w1 ⟨u1, rfl, f1⟩)
  obtain ⟨a1, c1, q1⟩ := f1.bs0.form
  subst q1
  have hd1 := hd0.trans f1.2.1
  refine HeldN.mk hd1 ?_
  refine plan_step ?_
  go_wp2
  refine HeldN.mk (Chg.alloc hd1 _) ?_
  refine plan_step ?_
  go_wp2_with (go_at_call 87; refine (joined2 (heap_alloc_new w1 _) (f1.bs0.keep ((Chg.refl [] w1).alloc _)) (hdv.keep (hc0.trans (hd1.alloc _))) (by rw [HPL.out]; omega)).mono ?_; rintro e2 w2 ⟨u2, rfl, f2⟩)
  have hd2 := (hd1.alloc _).trans f2.2.1
  refine HeldN.mk hd2 ?_
  refine plan_step ?_
  go_wp2_with (go_at_call 19; refine (spec_hash _ kd sz bk _ _ (by rw [List.length_append, HPL.out]; omega) f2.bs0).mono ?_; rintro e3 w3 ⟨u3, rfl, f3⟩)
  obtain ⟨a3, c3, q3⟩ := f3.bs0.form
  subst q3
  have hd3 := hd2.trans f3.2.1
  refine HeldN.mk hd3 ?_
  iterate 1 (first | refine plan_move _ rfl rfl ?_ | refine plan_assign _ rfl rfl ?_ | refine plan_loadG 23 _ ⟨w.heap.size, 0, none⟩ (hV kd sz bk) rfl rfl rfl ldh ?_ | refine plan_makeFunc _ _ _ rfl rfl ?_)
  refine plan_nil (Held2.mk ?_)
  go_upto_region 2 with fail
  have hd4 := Chg.drew hd3
  refine region_held (fun w' => Chg [] wB w') [(0, true), (1, true), (2, true), (4, true), (3, false), (5, false), (6, false), (7, false), (8, true)] (by kernel_rfl) (by kernel_rfl) hd4 ?_
  change wpPlan _ _ _ _ [(_, true), (_, true), (_, true), (_, true), (_, false), (_, false), (_, false), (_, false), (_, true)] _ _
  iterate 4 (first | refine plan_move _ rfl rfl ?_ | refine plan_assign _ rfl rfl ?_ | refine plan_loadG 23 _ ⟨w.heap.size, 0, none⟩ (hV kd sz bk) rfl rfl rfl ldh ?_ | refine plan_makeFunc _ _ _ rfl rfl ?_)
  refine plan_step ?_
  go_wp2_with (go_at_call 106; refine (spec_padded _ kd sz bk kv key 0x5c hk (hkv.keep (hc0.trans hd4))).mono ?_; rintro e5 w5 ⟨u5, rfl, f5⟩)
  obtain ⟨a5, c5, q5⟩ := f5.bs0.form
  subst q5
  have hd5 := hd4.trans f5.2.1
  refine HeldN.mk hd5 ?_
  refine plan_step ?_
  go_wp2
  refine HeldN.mk (Chg.alloc hd5 _) ?_
  refine plan_step ?_
  go_wp2_with (go_at_call 87; refine (joined2 (heap_alloc_new w5 _) (f5.bs0.keep ((Chg.refl [] w5).alloc _)) (f3.bs0.keep (((Chg.refl [] w3).drew).trans (f5.2.1.alloc _))) (by rw [HPL.out, HSL.out]; omega)).mono ?_; rintro e6 w6 ⟨u6, rfl, f6⟩)
  have hd6 := (hd5.alloc _).trans f6.2.1
  refine HeldN.mk hd6 ?_
  refine plan_step ?_
  go_wp2_with (go_at_call 19; refine (spec_hash _ kd sz bk _ _ (by rw [List.length_append, HPL.out, HSL.out]; omega) f6.bs0).mono ?_; rintro e7 w7 ⟨u7, rfl, f7⟩)
  have hd7 := hd6.trans f7.2.1
  refine HeldN.mk hd7 ?_
  iterate 1 (first | refine plan_move _ rfl rfl ?_ | refine plan_assign _ rfl rfl ?_ | refine plan_loadG 23 _ ⟨w.heap.size, 0, none⟩ (hV kd sz bk) rfl rfl rfl ldh ?_ | refine plan_makeFunc _ _ _ rfl rfl ?_)
  refine plan_nil (Held2.mk ?_)
  go_wp2
  go_ret
  exact ⟨_, rfl, f7.from (hc0.trans hd6)⟩
set_option maxRecDepth 100000 in
set_option maxHeartbeats 2000000 in
theorem spec_extract (w : World) (kd sz bk : Int) (sv : Value) (s : Bs) (tv : Value) (salt : Bs) (hs : s.length ≤ 100000) (ht : salt.length ≤ 200000) (hsv : BS [] w sv s) (htv : BS [] w tv salt) :
    Calls Tryd.prog 58 #[hV kd sz bk, sv, tv] w (Gives w (extractF (HS kd sz bk) s salt)) := by
  have hs32 := (HS_ok kd sz bk).sz32
  rw [HS_sz] at hs32
  obtain ⟨ta, tc, hte⟩ := htv.form
  subst hte
  have hc0 : Chg [] w (w.alloc (hObj kd sz bk)) := (Chg.refl [] w).alloc _
  have hrow := heap_alloc_new w (hObj kd sz bk)
  have h0 := fun j => blk_cell hrow j
  have hmk := mk_bytes (kSz kd sz bk) (by omega)
  obtain ⟨z, hz⟩ : ∃ z, z = kSz kd sz bk := ⟨_, rfl⟩
  rw [← hz] at hmk hs32
  have HZ := Lib.hid hz
  have HT := Lib.hid htv
  clear hz htv
  go_enter Tryd.func58, Tryd.ntmps58
  go_upto_if 9 with fail
  go_cut [2] (fun v wx => ∃ x, BS [] wx v x ∧ Hid (x = orZeros (HS kd sz bk) salt) ∧ x.length ≤ 200000 ∧ Chg [] w wx ∧ wx.heap[w.heap.size]? = some (hObj kd sz bk))
  case first =>
    by_cases h0l : salt.length = 0
    · have hs0 : salt = [] := List.eq_nil_of_length_eq_zero h0l
      have hdd : decide ((salt.length : Int) = 0) = true := by simpa using hs0
      go_wp2_with (go_at_call 20; refine (spec_size _ kd sz bk).mono ?_; rintro e w1 ⟨rfl, hc1⟩; rw [← HZ.out])
      go_meet
      refine ⟨List.replicate z 0, Own.bs (own_row (heap_alloc_new w1 _) (by simp; omega) (by simp)) (by simp), Lib.hid ?_, by simp; omega, (hc0.trans hc1).alloc _, ((hc1.alloc _).row hrow (by simp))⟩
      unfold orZeros
      rw [if_pos hs0]
      unfold zeros
      rw [HS_sz, HZ.out]
    · have hdd : decide ((salt.length : Int) = 0) = false := by simp; intro h; exact h0l (by rw [h]; rfl)
      go_wp2
      go_meet
      refine ⟨salt, HT.out.keep hc0, Lib.hid ?_, ht, hc0, hrow⟩
      unfold orZeros
      rw [if_neg (fun h => h0l (by rw [h]; rfl))]
  case rest =>
    obtain ⟨x, hx, hxe, hxl, hcw, hrw⟩ := hcut
    have hwc := fun j => blk_cell hrw j
    clear h0 hrow hmk
    go_wp2_with (go_at_call 89; refine (spec_mac wc kd sz bk _ x sv s hxl hs hx (hsv.keep hcw)).mono ?_; rintro e w2 ⟨u, rfl, fu⟩)
    go_ret
    rw [hxe.out] at fu
    exact ⟨_, rfl, fu.from hcw⟩
set_option maxRecDepth 100000 in
set_option maxHeartbeats 2000000 in
theorem spec_expand (w : World) (kd sz bk : Int) (pv : Value) (prk : Bs) (iv : Value) (info : Bs) (n : Nat) (hk : prk.length ≤ 200000) (hi : info.length ≤ 90000) (hn : n ≤ 100000) (hpv : BS [] w pv prk) (hiv : BS [] w iv info) :
    Calls Tryd.prog 88 #[hV kd sz bk, pv, iv, .int .i64 (n : Int)] w (Gives w (expandF (HS kd sz bk) prk info n)) := by
  have hok := HS_ok kd sz bk
  have hs32 := hok.sz32
  have hpos := hok.pos
  obtain ⟨ia, ic, hie⟩ := hiv.form
  subst hie
  have hc0 : Chg [] w (w.alloc (hObj kd sz bk)) := (Chg.refl [] w).alloc _
  have hrow := heap_alloc_new w (hObj kd sz bk)
  obtain ⟨H, hH⟩ : ∃ H, H = HS kd sz bk := ⟨_, rfl⟩
  rw [← hH] at hok hs32 hpos ⊢
  have HH := Lib.hid hH
  have HOK := Lib.hid hok
  have HP := Lib.hid hpv
  have HI := Lib.hid hiv
  clear hH hok hpv hiv
  go_enter Tryd.func88, Tryd.ntmps88
  go_upto_region 1 with fail
  obtain ⟨wB, hwB⟩ : ∃ wB, wB = w.alloc (hObj kd sz bk) := ⟨_, rfl⟩
  rw [← hwB] at hc0 ⊢
  have hrow : wB.heap[w.heap.size]? = some (hObj kd sz bk) := hwB ▸ heap_alloc_new w _
  clear hwB
  have ldh : ∀ W, Chg [] wB W → (Instr.loadAt 23 (.pointer (some ⟨w.heap.size, 0, none⟩))).run Tryd.prog W = .ok (hV kd sz bk) W := fun W h => ld_hV (h.row hrow (by simp))
  have hd0 : Chg [] wB wB.drew := (Chg.refl [] wB).drew
  clear ldh hd0
  have hl0 := hc0.size
  go_wp2
  go_loopw [9, 10, 11] (fun x l i wr => ∃ k : Nat, k ≤ n ∧ i = .int .i64 ((k + 1 : Nat) : Int) ∧ Fr wB (expN H prk info k).1 wr x ∧ BS x.ownBlock.toList wr l (expN H prk info k).2) (fun x _ _ _ => n - slLen x)
  case atStart =>
    refine ⟨0, by omega, rfl, ⟨(own_empty wB _ rfl).chg ((Chg.refl [] _).alloc _) (by simp), ((Chg.refl [] wB).alloc _).alloc _, fun g hg => by simp [Value.ownBlock] at hg; omega⟩, ?_⟩
    have h := (own_empty (wB.alloc (.cells #[] 5)) _ rfl).bs (S := (Value.slice (some ⟨wB.heap.size, 0, none⟩) 0 0).ownBlock.toList) (by simp [Value.ownBlock])
    rw [World.size_alloc] at h
    exact h
  case round =>
    obtain ⟨k, hkn, rfl, hfr, hbl⟩ := hrel
    have hr := hfr.2.1.row hrow (by simp)
    have hA : (expN H prk info k).1.length = k * H.sz := expN_length HOK.out prk info k
    have hL : (expN H prk info k).2.length ≤ 32 := expN_buf HOK.out prk info k
    have hst := expandF_of HOK.out prk info n k
    obtain ⟨A, hAe⟩ : ∃ A, A = (expN H prk info k).1 := ⟨_, rfl⟩
    obtain ⟨L, hLe⟩ : ∃ L, L = (expN H prk info k).2 := ⟨_, rfl⟩
    have hA' : (expN H prk info (k + 1)).1 = A ++ mac H prk (L ++ info ++ [UInt8.ofNat (k + 1)]) := by rw [hAe, hLe]; rfl
    have hL' : (expN H prk info (k + 1)).2 = mac H prk (L ++ info ++ [UInt8.ofNat (k + 1)]) := by rw [hLe]; rfl
    rw [← hAe] at hA hfr hst
    rw [← hLe] at hL hbl
    have HA' := Lib.hid hA'
    have HL' := Lib.hid hL'
    have HST := Lib.hid hst
    have HA := Lib.hid hA
    obtain ⟨xa, xc, hxe⟩ := hfr.1.form
    subst hxe
    obtain ⟨la, lc, hle⟩ := hbl.form
    subst hle
    clear hAe hLe hA' hL' hst hA
    by_cases hlt : A.length < n
    · have hdd : decide ((A.length : Int) < (n : Int)) = true := by simpa using hlt
      have ldh : ∀ W, Chg [] wr W → (Instr.loadAt 23 (.pointer (some ⟨w.heap.size, 0, none⟩))).run Tryd.prog W = .ok (hV kd sz bk) W := fun W h => ld_hV (h.row hr (by simp))
      have hd0 : Chg [] wr wr.drew := (Chg.refl [] wr).drew
      have hk1 : k + 1 ≤ n := by
        have h1 := HA.out
        have h2 : k ≤ k * H.sz := Nat.le_mul_of_pos_right k hpos
        omega
      have hw := hc0.trans hfr.2.1
      go_upto_region 5 with fail
      refine region_held (fun w' => Chg [] wr w') [(0, true), (1, true), (2, true), (3, true), (4, true), (5, false), (6, false), (7, false), (8, false), (9, false), (10, true)] (by kernel_rfl) (by kernel_rfl) hd0 ?_
      change wpPlan _ _ _ _ [(_, true), (_, true), (_, true), (_, true), (_, true), (_, false), (_, false), (_, false), (_, false), (_, false), (_, true)] _ _
      iterate 5 (first | refine plan_move _ rfl rfl ?_ | refine plan_assign _ rfl rfl ?_ | refine plan_loadG 23 _ ⟨w.heap.size, 0, none⟩ (hV kd sz bk) rfl rfl rfl ldh ?_ | refine plan_makeFunc _ _ _ rfl rfl ?_)
      refine plan_step ?_
      go_wp2
      refine HeldN.mk hd0 ?_
      refine plan_step ?_
      go_wp2
      refine HeldN.mk (Chg.alloc hd0 _) ?_
      refine plan_step ?_
      go_wp2
      refine HeldN.mk (Chg.alloc (Chg.alloc hd0 _) _) ?_
      refine plan_step ?_
      have hd1 : Chg [] wr ((wr.alloc (.cells #[.int .u8 (((k : Int) + 1) % 256)] 5)).alloc (.cells #[.slice la L.length lc, .slice ia info.length ic, .slice (some ⟨wr.heap.size, 0, none⟩) 1 1] 24)).drew := (((Chg.refl [] wr).alloc _).alloc _).drew
      have hr3 : ((wr.alloc (.cells #[.int .u8 (((k : Int) + 1) % 256)] 5)).alloc (.cells #[.slice la L.length lc, .slice ia info.length ic, .slice (some ⟨wr.heap.size, 0, none⟩) 1 1] 24)).drew.heap[wr.heap.size + 1]? = some (.cells #[.slice la L.length lc, .slice ia info.length ic, .slice (some ⟨wr.heap.size, 0, none⟩) 1 1] 24) := by
        have h := heap_alloc_new (wr.alloc (.cells #[.int .u8 (((k : Int) + 1) % 256)] 5)) (.cells #[.slice la L.length lc, .slice ia info.length ic, .slice (some ⟨wr.heap.size, 0, none⟩) 1 1] 24)
        rw [World.size_alloc] at h
        exact h
      have hb1 := one_bs wr (UInt8.ofNat (k + 1)) (((k : Int) + 1) % 256) (by simp [UInt8.toNat_ofNat']) [] (by simp)
      have hb1' := hb1.keep (((Chg.refl [] _).alloc (.cells #[.slice la L.length lc, .slice ia info.length ic, .slice (some ⟨wr.heap.size, 0, none⟩) 1 1] 24)).drew)
      have hcall := joined3 (x1 := L) (x2 := info) (x3 := [UInt8.ofNat (k + 1)]) hr3 (hbl.any.keep hd1) ((HI.out.keep hw).keep hd1) hb1' (by simp; omega)
      have HC := Lib.hid hcall
      clear hcall hb1 hb1' hr3
      go_wp2_with (go_at_call 87; refine HC.out.mono ?_; rintro e2 w2 ⟨u2, rfl, f2⟩)
      have hd2 := hd1.trans f2.2.1
      refine HeldN.mk hd2 ?_
      refine plan_step ?_
      go_wp2_with (go_at_call 89; refine (spec_mac _ kd sz bk pv prk _ _ hk (by simp; omega) ((HP.out.keep hw).keep hd2) f2.bs0).mono ?_; rintro e3 w3 ⟨u3, rfl, f3⟩)
      have hd3 := hd2.trans f3.2.1
      refine HeldN.mk hd3 ?_
      iterate 1 (first | refine plan_move _ rfl rfl ?_ | refine plan_assign _ rfl rfl ?_ | refine plan_loadG 23 _ ⟨w.heap.size, 0, none⟩ (hV kd sz bk) rfl rfl rfl ldh ?_ | refine plan_makeFunc _ _ _ rfl rfl ?_)
      refine plan_nil (Held2.mk ?_)
      obtain ⟨M, hM⟩ : ∃ M, M = mac H prk (L ++ info ++ [UInt8.ofNat (k + 1)]) := ⟨_, rfl⟩
      have hml : M.length = H.sz := by rw [hM]; exact mac_length HOK.out _ _
      rw [← HH.out, ← hM] at f3
      obtain ⟨a3, c3, he3⟩ := f3.bs0.form
      subst he3
      have hfr3 := hfr.then hd3
      have hbs3 := f3.bs (S := (Value.slice xa A.length xc).ownBlock.toList) (fun g hg => by
        have h1 := hfr.1.lt g (by simpa using hg)
        have h2 := hd2.size
        omega)
      have HM := Lib.hid hM
      have HML := Lib.hid hml
      clear hM hml hbl hr ldh hdd
      go_wp2_with (at_builtin; refine append_bytes (v := .slice xa A.length xc) (xs := A) (ys := M) (u := .slice a3 M.length c3) rfl _ _ rfl rfl hfr3.1 rfl f3.bs0.src (by have := HML.out; omega) ?_; intro v1 w4 hown1 hchg1 hsame1 hnil1)
      go_roundw
      case rel =>
        refine ⟨k + 1, hk1, by go_num, ?_, ?_⟩
        · rw [HA'.out, ← HM.out]
          exact hfr3.app (Chg.refl [] _) hown1 hchg1 hsame1
        · rw [HL'.out, ← HM.out]
          refine hbs3.to hchg1 (fun i hi => .inl hi) (fun i hi => ?_)
          rcases hsame1 i (by simpa using hi) with h | h
          · exact .inl (by simpa using h)
          · exact .inr h
      case measure =>
        have h1 := hown1.len
        rw [List.length_append, HML.out] at h1
        show n - slLen v1 < n - A.length
        omega
    · have hcap : n ≤ xc := by
        obtain ⟨_, _, he, h1, _⟩ := hfr.bs0
        cases he
        omega
      have hh := run_head xa A.length xc n hcap
      have ho := hfr.1.take n (by omega)
      have hdd : decide ((A.length : Int) < (n : Int)) = false := by simpa using hlt
      have hfrc := hfr.2.1
      have hfrb := hfr.2.2
      have HF := Lib.hid hfr
      clear hfr hbl
      go_wp2
      go_ret
      rw [HST.out (by have := HA.out; omega)] at ho
      exact ⟨_, rfl, ho, hc0.trans hfrc, fun g hg => Nat.le_trans hl0 (hfrb g (by rw [← hg]; exact own_blk _ _ _ _))⟩
end Go.Proofs.YtknoomndofnnmaaDoor

namespace Go.Proofs.YtknoomndofnnmaaDoor
open Go Go.RowKit

theorem row3 (x y : Nat) : #[Value.int .u8 ((x : Int) / 256 % 256), .int .u8 ((x : Int) % 256), .int .u8 ((y : Int) % 256)] = (brow [UInt8.ofNat (x / 256), UInt8.ofNat x, UInt8.ofNat y]).toArray := by
  simp [brow, bv, UInt8.toNat_ofNat']
set_option maxRecDepth 100000 in
set_option maxHeartbeats 2000000 in
theorem spec_expandLabel (w : World) (kd sz bk : Int) (sv : Value) (x : Bs) (s : ByteArray) (cv : Value) (c : Bs) (n : Nat) (hx : x.length ≤ 200000) (hl : s.size ≤ 60000) (hcl : c.length ≤ 20000) (hn : n ≤ 100000) (hsv : BS [] w sv x) (hcv : BS [] w cv c) :
    Calls Tryd.prog 57 #[hV kd sz bk, sv, .string s, cv, .int .i64 (n : Int)] w (Gives w (expandLabelF (HS kd sz bk) x (sb s) c n)) := by
  obtain ⟨ca, cc, hce⟩ := hcv.form
  subst hce
  have hc0 : Chg [] w (w.alloc (hObj kd sz bk)) := (Chg.refl [] w).alloc _
  go_enter Tryd.func57, Tryd.ntmps57
  go_upto_region 1 with fail
  obtain ⟨wB, hwB⟩ : ∃ wB, wB = w.alloc (hObj kd sz bk) := ⟨_, rfl⟩
  rw [← hwB] at hc0 ⊢
  have hrow : wB.heap[w.heap.size]? = some (hObj kd sz bk) := hwB ▸ heap_alloc_new w _
  clear hwB
  have ldh : ∀ W, Chg [] wB W → (Instr.loadAt 23 (.pointer (some ⟨w.heap.size, 0, none⟩))).run Tryd.prog W = .ok (hV kd sz bk) W := fun W h => ld_hV (h.row hrow (by simp))
  have hd0 : Chg [] wB wB.drew := (Chg.refl [] wB).drew
  clear ldh hd0
  have kc : (convert 24 24 (.slice (some ⟨wB.heap.size, 0, none⟩) 6 6)).run Tryd.prog (wB.alloc (.cells #[.int .u8 116, .int .u8 108, .int .u8 115, .int .u8 49, .int .u8 51, .int .u8 32] 5)) = .ok (.slice (some ⟨wB.heap.size, 0, none⟩) 6 6) (wB.alloc (.cells #[.int .u8 116, .int .u8 108, .int .u8 115, .int .u8 49, .int .u8 51, .int .u8 32] 5 (6, 7))) := Go.Lib.run_convert_bytes_const (P := Tryd.prog) wB 24 5 #[.int .u8 116, .int .u8 108, .int .u8 115, .int .u8 49, .int .u8 51, .int .u8 32] 6 6 Tryd.underlying24 Tryd.underlying5
  obtain ⟨sc, w1, _, _, hcs, hc1, hb1, -⟩ := conv_bytes (wB.alloc (.cells #[.int .u8 116, .int .u8 108, .int .u8 115, .int .u8 49, .int .u8 51, .int .u8 32] 5 (6, 7))) s (by omega)
  have hsz : (wB.alloc (.cells #[.int .u8 116, .int .u8 108, .int .u8 115, .int .u8 49, .int .u8 51, .int .u8 32] 5 (6, 7))).heap.size = wB.heap.size + 1 := World.size_alloc _ _
  rw [hsz] at hcs hb1
  have hb0 : BS [] (wB.alloc (.cells #[.int .u8 116, .int .u8 108, .int .u8 115, .int .u8 49, .int .u8 51, .int .u8 32] 5 (6, 7))) (.slice (some ⟨wB.heap.size, 0, none⟩) 6 6) tls13 :=
    ⟨_, 6, rfl, Nat.le_refl _, by unfold maxLen; omega, fun h => (by cases h), .inr ⟨_, 0, rfl, by simp, fun j hj => by rw [Nat.zero_add]; exact (World.cell?_alloc_mark wB _ _ _ j).trans (bv_cell tls13 j hj)⟩⟩
  have hcB : Chg [] wB w1 := ((Chg.refl [] wB).alloc _).trans hc1
  have hb0' := hb0.keep hc1
  have HX := Lib.hid hsv
  have HCV := Lib.hid hcv
  clear hb0 hsv hcv
  go_upto_region 2 with (go_at_call 87; refine (joined2 (x1 := tls13) (x2 := sb s) (heap_alloc_new _ _) (hb0'.keep ((Chg.refl [] w1).alloc _)) (hb1.keep ((Chg.refl [] w1).alloc _)) (by rw [sb_length]; simp [tls13]; omega)).mono ?_; rintro e2 w2 ⟨u2, rfl, f2⟩)
  have hcB2 := (hcB.alloc _).trans f2.2.1
  obtain ⟨a2, c2, he2⟩ := f2.bs0.form
  have hnl : (tls13 ++ sb s).length = 6 + (sb s).length := by simp [tls13]; omega
  have hnb : (sb s).length ≤ 60000 := by rw [sb_length]; exact hl
  obtain ⟨nm, hnm⟩ : ∃ nm, nm = tls13 ++ sb s := ⟨_, rfl⟩
  rw [← hnm] at f2 he2 hnl
  subst he2
  have HNM := Lib.hid hnm
  have HNL := Lib.hid hnl
  clear kc hsz hcs hb0' hb1 hnm hnl hc1 hcB
  have hb3 : BS [] (w2.alloc (.cells #[.int .u8 ((n : Int) / 256 % 256), .int .u8 ((n : Int) % 256), .int .u8 ((nm.length : Int) % 256)] 5)) (.slice (some ⟨w2.heap.size, 0, none⟩) 3 3) [UInt8.ofNat (n / 256), UInt8.ofNat n, UInt8.ofNat nm.length] := lit_bs w2 _ _ (row3 n nm.length) (by simp) [] (by simp)
  have hb4 := one_bs (w2.alloc (.cells #[.int .u8 ((n : Int) / 256 % 256), .int .u8 ((n : Int) % 256), .int .u8 ((nm.length : Int) % 256)] 5)) (UInt8.ofNat c.length) ((c.length : Int) % 256) (by simp [UInt8.toNat_ofNat']) [] (by simp)
  rw [World.size_alloc] at hb4
  have hr4 : (((w2.alloc (.cells #[.int .u8 ((n : Int) / 256 % 256), .int .u8 ((n : Int) % 256), .int .u8 ((nm.length : Int) % 256)] 5)).alloc (.cells #[.int .u8 ((c.length : Int) % 256)] 5)).alloc (.cells #[.slice (some ⟨w2.heap.size, 0, none⟩) 3 3, .slice a2 nm.length c2, .slice (some ⟨w2.heap.size + 1, 0, none⟩) 1 1, .slice ca c.length cc] 24)).heap[w2.heap.size + 1 + 1]? = some (.cells #[.slice (some ⟨w2.heap.size, 0, none⟩) 3 3, .slice a2 nm.length c2, .slice (some ⟨w2.heap.size + 1, 0, none⟩) 1 1, .slice ca c.length cc] 24) := by
    have h := heap_alloc_new ((w2.alloc (.cells #[.int .u8 ((n : Int) / 256 % 256), .int .u8 ((n : Int) % 256), .int .u8 ((nm.length : Int) % 256)] 5)).alloc (.cells #[.int .u8 ((c.length : Int) % 256)] 5)) (.cells #[.slice (some ⟨w2.heap.size, 0, none⟩) 3 3, .slice a2 nm.length c2, .slice (some ⟨w2.heap.size + 1, 0, none⟩) 1 1, .slice ca c.length cc] 24)
    rw [World.size_alloc, World.size_alloc] at h
    exact h
  have hk3 : Chg [] (w2.alloc (.cells #[.int .u8 ((n : Int) / 256 % 256), .int .u8 ((n : Int) % 256), .int .u8 ((nm.length : Int) % 256)] 5)) (((w2.alloc (.cells #[.int .u8 ((n : Int) / 256 % 256), .int .u8 ((n : Int) % 256), .int .u8 ((nm.length : Int) % 256)] 5)).alloc (.cells #[.int .u8 ((c.length : Int) % 256)] 5)).alloc (.cells #[.slice (some ⟨w2.heap.size, 0, none⟩) 3 3, .slice a2 nm.length c2, .slice (some ⟨w2.heap.size + 1, 0, none⟩) 1 1, .slice ca c.length cc] 24)) := ((Chg.refl [] _).alloc _).alloc _
  have hk4 : Chg [] ((w2.alloc (.cells #[.int .u8 ((n : Int) / 256 % 256), .int .u8 ((n : Int) % 256), .int .u8 ((nm.length : Int) % 256)] 5)).alloc (.cells #[.int .u8 ((c.length : Int) % 256)] 5)) (((w2.alloc (.cells #[.int .u8 ((n : Int) / 256 % 256), .int .u8 ((n : Int) % 256), .int .u8 ((nm.length : Int) % 256)] 5)).alloc (.cells #[.int .u8 ((c.length : Int) % 256)] 5)).alloc (.cells #[.slice (some ⟨w2.heap.size, 0, none⟩) 3 3, .slice a2 nm.length c2, .slice (some ⟨w2.heap.size + 1, 0, none⟩) 1 1, .slice ca c.length cc] 24)) := (Chg.refl [] _).alloc _
  have hk2 : Chg [] w2 (((w2.alloc (.cells #[.int .u8 ((n : Int) / 256 % 256), .int .u8 ((n : Int) % 256), .int .u8 ((nm.length : Int) % 256)] 5)).alloc (.cells #[.int .u8 ((c.length : Int) % 256)] 5)).alloc (.cells #[.slice (some ⟨w2.heap.size, 0, none⟩) 3 3, .slice a2 nm.length c2, .slice (some ⟨w2.heap.size + 1, 0, none⟩) 1 1, .slice ca c.length cc] 24)) := ((Chg.refl [] w2).alloc _).trans hk3
  have hcB3 := hcB2.trans hk2
  have hcall := joined4 (x1 := [UInt8.ofNat (n / 256), UInt8.ofNat n, UInt8.ofNat nm.length]) (x2 := nm) (x3 := [UInt8.ofNat c.length]) (x4 := c) hr4 (hb3.keep hk3) (f2.bs0.keep hk2) (hb4.keep hk4) (HCV.out.keep (hc0.trans hcB3)) (by rw [HNL.out]; simp; omega)
  have HC := Lib.hid hcall
  clear hcall hb3 hb4 hr4 hk2 hk3 hk4
  go_upto_region 3 with (go_at_call 87; refine HC.out.mono ?_; rintro e3 w3 ⟨u3, rfl, f3⟩)
  have hcB4 := hcB3.trans f3.2.1
  have hrow4 := hcB4.row hrow (by simp)
  have h4 := fun j => blk_cell hrow4 j
  have hcall := spec_expand w3 kd sz bk sv x u3 _ n hx (by have := HNL.out; simp; omega) hn (HX.out.keep (hc0.trans hcB4)) f3.bs0
  have HC2 := Lib.hid hcall
  clear hcall HC
  go_wp2_with (go_at_call 88; refine HC2.out.mono ?_; rintro e5 w5 ⟨u5, rfl, f5⟩)
  go_ret
  rw [HNL.out, HNM.out] at f5
  exact ⟨_, rfl, f5.from (hc0.trans hcB4)⟩
end Go.Proofs.YtknoomndofnnmaaDoor

namespace Go.Proofs.YtknoomndofnnmaaDoor
open Go Go.RowKit

theorem orZeros_le (H : HF) (x : Bs) : (orZeros H x).length ≤ x.length + H.sz := by
  unfold orZeros
  split
  · rw [zeros_length]; omega
  · omega
set_option maxRecDepth 100000 in
set_option maxHeartbeats 2000000 in
theorem spec_given (w : World) (kd sz bk : Int) (v : Value) (x : Bs) (hv : BS [] w v x) :
    Calls Tryd.prog 59 #[hV kd sz bk, v] w fun e w' => ∃ u, e = .returned u ∧ BS [] w' u (orZeros (HS kd sz bk) x) ∧ Chg [] w w' := by
  have hs32 := (HS_ok kd sz bk).sz32
  rw [HS_sz] at hs32
  obtain ⟨ta, tc, hte⟩ := hv.form
  subst hte
  have hc0 : Chg [] w (w.alloc (hObj kd sz bk)) := (Chg.refl [] w).alloc _
  have hrow := heap_alloc_new w (hObj kd sz bk)
  have h0 := fun j => blk_cell hrow j
  have hmk := mk_bytes (kSz kd sz bk) (by omega)
  obtain ⟨z, hz⟩ : ∃ z, z = kSz kd sz bk := ⟨_, rfl⟩
  rw [← hz] at hmk hs32
  have HZ := Lib.hid hz
  have HT := Lib.hid hv
  clear hz hv
  by_cases h0l : x.length = 0
  · have hs0 : x = [] := List.eq_nil_of_length_eq_zero h0l
    have hdd : decide ((x.length : Int) = 0) = true := by simpa using hs0
    go_enter Tryd.func59, Tryd.ntmps59
    go_wp2_with (go_at_call 20; refine (spec_size _ kd sz bk).mono ?_; rintro e w1 ⟨rfl, hc1⟩; rw [← HZ.out])
    go_ret
    have e0 : orZeros (HS kd sz bk) x = List.replicate z 0 := by
      unfold orZeros
      rw [if_pos hs0]
      unfold zeros
      rw [HS_sz, HZ.out]
    rw [e0]
    exact ⟨_, rfl, Own.bs (own_row (heap_alloc_new w1 _) (by simp; omega) (by simp)) (by simp), (hc0.trans hc1).alloc _⟩
  · have hdd : decide ((x.length : Int) = 0) = false := by simp; intro h; exact h0l (by rw [h]; rfl)
    go_enter Tryd.func59, Tryd.ntmps59
    go_wp2
    go_ret
    have e0 : orZeros (HS kd sz bk) x = x := by
      unfold orZeros
      rw [if_neg (fun h => h0l (by rw [h]; rfl))]
    rw [e0]
    exact ⟨_, rfl, HT.out.keep hc0, hc0⟩
set_option maxRecDepth 100000 in
set_option maxHeartbeats 2000000 in
theorem spec_DeriveSecret (w : World) (kd sz bk : Int) (v0 : Value) (x0 : Bs) (lx0 : x0.length ≤ 200000) (bx0 : BS [] w v0 x0) (s : ByteArray) (hl : s.size ≤ 60000) (v2 : Value) (x2 : Bs) (lx2 : x2.length ≤ 200000) (bx2 : BS [] w v2 x2) :
    Calls Tryd.prog 24 #[hV kd sz bk, v0, .string s, v2] w (Gives w (deriveF (HS kd sz bk) x0 (sb s) x2)) := by
  have hok := HS_ok kd sz bk
  have hs32 := hok.sz32
  have hc0 : Chg [] w (w.alloc (hObj kd sz bk)) := (Chg.refl [] w).alloc _
  obtain ⟨z, hz⟩ : ∃ z, z = kSz kd sz bk := ⟨_, rfl⟩
  have hz32 : z ≤ 32 := by rw [hz, ← HS_sz]; exact hs32
  have HZ := Lib.hid hz
  clear hz
  go_enter Tryd.func24, Tryd.ntmps24
  go_upto_region 1 with fail
  obtain ⟨wB, hwB⟩ : ∃ wB, wB = w.alloc (hObj kd sz bk) := ⟨_, rfl⟩
  rw [← hwB] at hc0 ⊢
  have hrow : wB.heap[w.heap.size]? = some (hObj kd sz bk) := hwB ▸ heap_alloc_new w _
  clear hwB
  have ldh : ∀ W, Chg [] wB W → (Instr.loadAt 23 (.pointer (some ⟨w.heap.size, 0, none⟩))).run Tryd.prog W = .ok (hV kd sz bk) W := fun W h => ld_hV (h.row hrow (by simp))
  have hd0 : Chg [] wB wB.drew := (Chg.refl [] wB).drew
  refine region_held (fun w' => Chg [] wB w') [(0, true), (1, true), (2, true), (3, true), (4, true), (6, true), (5, false), (7, false), (8, false), (9, true)] (by kernel_rfl) (by kernel_rfl) hd0 ?_
  change wpPlan _ _ _ _ [(_, true), (_, true), (_, true), (_, true), (_, true), (_, true), (_, false), (_, false), (_, false), (_, true)] _ _
  iterate 6 (first | refine plan_move _ rfl rfl ?_ | refine plan_assign _ rfl rfl ?_ | refine plan_loadG 23 _ ⟨w.heap.size, 0, none⟩ (hV kd sz bk) rfl rfl rfl ldh ?_ | refine plan_makeFunc _ _ _ rfl rfl ?_)
  refine plan_step ?_
  go_wp2_with (go_at_call 19; refine (spec_hash _ kd sz bk v2 x2 lx2 (bx2.keep (hc0.trans hd0))).mono ?_; rintro e1 w1 ⟨u1, rfl, f1⟩)
  have hd1 := Chg.trans hd0 f1.2.1
  refine HeldN.mk hd1 ?_
  refine plan_step ?_
  go_wp2_with (go_at_call 20; refine (spec_size _ kd sz bk).mono ?_; rintro e2 w2 ⟨rfl, hcs⟩; rw [← HZ.out])
  have hd2 := Chg.trans hd1 hcs
  refine HeldN.mk hd2 ?_
  refine plan_step ?_
  go_wp2_with (go_at_call 57; refine (spec_expandLabel _ kd sz bk v0 x0 s u1 _ z lx0 hl (by rw [hok.len]; omega) (by omega) (bx0.keep (hc0.trans hd2)) (f1.bs0.keep hcs)).mono ?_; rintro e3 w3 ⟨uz, rfl, fz⟩)
  have hd3 := Chg.trans hd2 fz.2.1
  refine HeldN.mk hd3 ?_
  iterate 1 (first | refine plan_move _ rfl rfl ?_ | refine plan_assign _ rfl rfl ?_ | refine plan_loadG 23 _ ⟨w.heap.size, 0, none⟩ (hV kd sz bk) rfl rfl rfl ldh ?_ | refine plan_makeFunc _ _ _ rfl rfl ?_)
  refine plan_nil (Held2.mk ?_)
  go_wp2
  go_ret
  have hE : z = (HS kd sz bk).sz := by rw [HS_sz]; exact HZ.out
  rw [hE] at fz
  exact ⟨_, rfl, fz.from (hc0.trans hd2)⟩
set_option maxRecDepth 100000 in
set_option maxHeartbeats 2000000 in
theorem spec_Early (w : World) (kd sz bk : Int) (v0 : Value) (x0 : Bs) (lx0 : x0.length ≤ 90000) (bx0 : BS [] w v0 x0) :
    Calls Tryd.prog 37 #[hV kd sz bk, v0] w (Gives w (earlyF (HS kd sz bk) x0)) := by
  have hok := HS_ok kd sz bk
  have hs32 := hok.sz32
  have hc0 : Chg [] w (w.alloc (hObj kd sz bk)) := (Chg.refl [] w).alloc _
  go_enter Tryd.func37, Tryd.ntmps37
  go_upto_region 1 with fail
  obtain ⟨wB, hwB⟩ : ∃ wB, wB = w.alloc (hObj kd sz bk) := ⟨_, rfl⟩
  rw [← hwB] at hc0 ⊢
  have hrow : wB.heap[w.heap.size]? = some (hObj kd sz bk) := hwB ▸ heap_alloc_new w _
  clear hwB
  have ldh : ∀ W, Chg [] wB W → (Instr.loadAt 23 (.pointer (some ⟨w.heap.size, 0, none⟩))).run Tryd.prog W = .ok (hV kd sz bk) W := fun W h => ld_hV (h.row hrow (by simp))
  have hd0 : Chg [] wB wB.drew := (Chg.refl [] wB).drew
  refine region_held (fun w' => Chg [] wB w') [(0, true), (1, true), (2, true), (3, false), (4, false), (5, true)] (by kernel_rfl) (by kernel_rfl) hd0 ?_
  change wpPlan _ _ _ _ [(_, true), (_, true), (_, true), (_, false), (_, false), (_, true)] _ _
  iterate 3 (first | refine plan_move _ rfl rfl ?_ | refine plan_assign _ rfl rfl ?_ | refine plan_loadG 23 _ ⟨w.heap.size, 0, none⟩ (hV kd sz bk) rfl rfl rfl ldh ?_ | refine plan_makeFunc _ _ _ rfl rfl ?_)
  refine plan_step ?_
  go_wp2_with (go_at_call 59; refine (spec_given _ kd sz bk v0 _ (bx0.keep (hc0.trans hd0))).mono ?_; rintro e1 w1 ⟨g1, rfl, bg1, cg1⟩)
  have hd1 := Chg.trans hd0 cg1
  refine HeldN.mk hd1 ?_
  refine plan_step ?_
  go_wp2_with (go_at_call 58; refine (spec_extract _ kd sz bk g1 (orZeros (HS kd sz bk) x0) (.slice none 0 0) [] (by have := orZeros_le (HS kd sz bk) x0; omega) (by simp) bg1 (BS.nil _ _)).mono ?_; rintro e2 w2 ⟨uz, rfl, fz⟩)
  have hd2 := Chg.trans hd1 fz.2.1
  refine HeldN.mk hd2 ?_
  iterate 1 (first | refine plan_move _ rfl rfl ?_ | refine plan_assign _ rfl rfl ?_ | refine plan_loadG 23 _ ⟨w.heap.size, 0, none⟩ (hV kd sz bk) rfl rfl rfl ldh ?_ | refine plan_makeFunc _ _ _ rfl rfl ?_)
  refine plan_nil (Held2.mk ?_)
  go_wp2
  go_ret
  exact ⟨_, rfl, fz.from (hc0.trans hd1)⟩
set_option maxRecDepth 100000 in
set_option maxHeartbeats 2000000 in
theorem spec_Handshake (w : World) (kd sz bk : Int) (v0 : Value) (x0 : Bs) (lx0 : x0.length ≤ 90000) (bx0 : BS [] w v0 x0) (v1 : Value) (x1 : Bs) (lx1 : x1.length ≤ 90000) (bx1 : BS [] w v1 x1) :
    Calls Tryd.prog 39 #[hV kd sz bk, v0, v1] w (Gives w (handshakeF (HS kd sz bk) x0 x1)) := by
  have hok := HS_ok kd sz bk
  have hs32 := hok.sz32
  have hc0 : Chg [] w (w.alloc (hObj kd sz bk)) := (Chg.refl [] w).alloc _
  go_enter Tryd.func39, Tryd.ntmps39
  go_upto_region 1 with fail
  obtain ⟨wB, hwB⟩ : ∃ wB, wB = w.alloc (hObj kd sz bk) := ⟨_, rfl⟩
  rw [← hwB] at hc0 ⊢
  have hrow : wB.heap[w.heap.size]? = some (hObj kd sz bk) := hwB ▸ heap_alloc_new w _
  clear hwB
  have ldh : ∀ W, Chg [] wB W → (Instr.loadAt 23 (.pointer (some ⟨w.heap.size, 0, none⟩))).run Tryd.prog W = .ok (hV kd sz bk) W := fun W h => ld_hV (h.row hrow (by simp))
  have hd0 : Chg [] wB wB.drew := (Chg.refl [] wB).drew
  refine region_held (fun w' => Chg [] wB w') [(0, true), (1, true), (2, true), (4, true), (5, true), (6, true), (3, false), (7, false), (8, false), (9, false), (10, true)] (by kernel_rfl) (by kernel_rfl) hd0 ?_
  change wpPlan _ _ _ _ [(_, true), (_, true), (_, true), (_, true), (_, true), (_, true), (_, false), (_, false), (_, false), (_, false), (_, true)] _ _
  iterate 6 (first | refine plan_move _ rfl rfl ?_ | refine plan_assign _ rfl rfl ?_ | refine plan_loadG 23 _ ⟨w.heap.size, 0, none⟩ (hV kd sz bk) rfl rfl rfl ldh ?_ | refine plan_makeFunc _ _ _ rfl rfl ?_)
  refine plan_step ?_
  go_wp2_with (go_at_call 59; refine (spec_given _ kd sz bk v1 _ (bx1.keep (hc0.trans hd0))).mono ?_; rintro e1 w1 ⟨g1, rfl, bg1, cg1⟩)
  have hd1 := Chg.trans hd0 cg1
  refine HeldN.mk hd1 ?_
  refine plan_step ?_
  go_wp2_with (go_at_call 37; refine (spec_Early _ kd sz bk v0 x0 lx0 (bx0.keep (hc0.trans hd1))).mono ?_; rintro e2 w2 ⟨u2, rfl, f2⟩)
  have hd2 := Chg.trans hd1 f2.2.1
  refine HeldN.mk hd2 ?_
  refine plan_step ?_
  go_wp2_with (go_at_call 24; refine (spec_DeriveSecret _ kd sz bk u2 (earlyF (HS kd sz bk) x0) (Nat.le_trans (extractF_le hok _ _) (by omega)) f2.bs0 lblD (Nat.le_trans lblD_size (by omega)) (.slice none 0 0) [] (by simp) (BS.nil _ _)).mono ?_; rintro e3 w3 ⟨u3, rfl, f3⟩)
  have hd3 := Chg.trans hd2 f3.2.1
  refine HeldN.mk hd3 ?_
  refine plan_step ?_
  go_wp2_with (go_at_call 58; refine (spec_extract _ kd sz bk g1 (orZeros (HS kd sz bk) x1) u3 _ (by have := orZeros_le (HS kd sz bk) x1; omega) (Nat.le_trans (deriveF_le hok _ _ _) (by omega)) ((bg1.keep f2.2.1).keep f3.2.1) f3.bs0).mono ?_; rintro e4 w4 ⟨uz, rfl, fz⟩)
  have hd4 := Chg.trans hd3 fz.2.1
  refine HeldN.mk hd4 ?_
  iterate 1 (first | refine plan_move _ rfl rfl ?_ | refine plan_assign _ rfl rfl ?_ | refine plan_loadG 23 _ ⟨w.heap.size, 0, none⟩ (hV kd sz bk) rfl rfl rfl ldh ?_ | refine plan_makeFunc _ _ _ rfl rfl ?_)
  refine plan_nil (Held2.mk ?_)
  go_wp2
  go_ret
  exact ⟨_, rfl, fz.from (hc0.trans hd3)⟩
set_option maxRecDepth 100000 in
set_option maxHeartbeats 2000000 in
theorem spec_Master (w : World) (kd sz bk : Int) (v0 : Value) (x0 : Bs) (lx0 : x0.length ≤ 90000) (bx0 : BS [] w v0 x0) (v1 : Value) (x1 : Bs) (lx1 : x1.length ≤ 90000) (bx1 : BS [] w v1 x1) :
    Calls Tryd.prog 25 #[hV kd sz bk, v0, v1] w (Gives w (masterF (HS kd sz bk) x0 x1)) := by
  have hok := HS_ok kd sz bk
  have hs32 := hok.sz32
  have hc0 : Chg [] w (w.alloc (hObj kd sz bk)) := (Chg.refl [] w).alloc _
  go_enter Tryd.func25, Tryd.ntmps25
  go_upto_region 1 with fail
  obtain ⟨wB, hwB⟩ : ∃ wB, wB = w.alloc (hObj kd sz bk) := ⟨_, rfl⟩
  rw [← hwB] at hc0 ⊢
  have hrow : wB.heap[w.heap.size]? = some (hObj kd sz bk) := hwB ▸ heap_alloc_new w _
  clear hwB
  have ldh : ∀ W, Chg [] wB W → (Instr.loadAt 23 (.pointer (some ⟨w.heap.size, 0, none⟩))).run Tryd.prog W = .ok (hV kd sz bk) W := fun W h => ld_hV (h.row hrow (by simp))
  have hd0 : Chg [] wB wB.drew := (Chg.refl [] wB).drew
  refine region_held (fun w' => Chg [] wB w') [(0, true), (1, true), (3, true), (4, true), (5, true), (6, true), (2, false), (7, false), (8, false), (9, false), (10, true)] (by kernel_rfl) (by kernel_rfl) hd0 ?_
  change wpPlan _ _ _ _ [(_, true), (_, true), (_, true), (_, true), (_, true), (_, true), (_, false), (_, false), (_, false), (_, false), (_, true)] _ _
  iterate 6 (first | refine plan_move _ rfl rfl ?_ | refine plan_assign _ rfl rfl ?_ | refine plan_loadG 23 _ ⟨w.heap.size, 0, none⟩ (hV kd sz bk) rfl rfl rfl ldh ?_ | refine plan_makeFunc _ _ _ rfl rfl ?_)
  refine plan_step ?_
  go_wp2_with (go_at_call 59; refine (spec_given _ kd sz bk (.slice none 0 0) _ (BS.nil [] _)).mono ?_; rintro e1 w1 ⟨g1, rfl, bg1, cg1⟩)
  have hd1 := Chg.trans hd0 cg1
  refine HeldN.mk hd1 ?_
  refine plan_step ?_
  go_wp2_with (go_at_call 39; refine (spec_Handshake _ kd sz bk v0 x0 lx0 (bx0.keep (hc0.trans hd1)) v1 x1 lx1 (bx1.keep (hc0.trans hd1))).mono ?_; rintro e2 w2 ⟨u2, rfl, f2⟩)
  have hd2 := Chg.trans hd1 f2.2.1
  refine HeldN.mk hd2 ?_
  refine plan_step ?_
  go_wp2_with (go_at_call 24; refine (spec_DeriveSecret _ kd sz bk u2 (handshakeF (HS kd sz bk) x0 x1) (Nat.le_trans (extractF_le hok _ _) (by omega)) f2.bs0 lblD (Nat.le_trans lblD_size (by omega)) (.slice none 0 0) [] (by simp) (BS.nil _ _)).mono ?_; rintro e3 w3 ⟨u3, rfl, f3⟩)
  have hd3 := Chg.trans hd2 f3.2.1
  refine HeldN.mk hd3 ?_
  refine plan_step ?_
  go_wp2_with (go_at_call 58; refine (spec_extract _ kd sz bk g1 (orZeros (HS kd sz bk) []) u3 _ (by have := orZeros_le (HS kd sz bk) []; simp at this; omega) (Nat.le_trans (deriveF_le hok _ _ _) (by omega)) ((bg1.keep f2.2.1).keep f3.2.1) f3.bs0).mono ?_; rintro e4 w4 ⟨uz, rfl, fz⟩)
  have hd4 := Chg.trans hd3 fz.2.1
  refine HeldN.mk hd4 ?_
  iterate 1 (first | refine plan_move _ rfl rfl ?_ | refine plan_assign _ rfl rfl ?_ | refine plan_loadG 23 _ ⟨w.heap.size, 0, none⟩ (hV kd sz bk) rfl rfl rfl ldh ?_ | refine plan_makeFunc _ _ _ rfl rfl ?_)
  refine plan_nil (Held2.mk ?_)
  go_wp2
  go_ret
  exact ⟨_, rfl, fz.from (hc0.trans hd3)⟩
set_option maxRecDepth 100000 in
set_option maxHeartbeats 2000000 in
theorem spec_Exported (w : World) (kd sz bk : Int) (v0 : Value) (x0 : Bs) (lx0 : x0.length ≤ 200000) (bx0 : BS [] w v0 x0) (s : ByteArray) (hl : s.size ≤ 60000) (v2 : Value) (x2 : Bs) (lx2 : x2.length ≤ 200000) (bx2 : BS [] w v2 x2) (n : Nat) (hn : n ≤ 100000) :
    Calls Tryd.prog 27 #[hV kd sz bk, v0, .string s, v2, .int .i64 (n : Int)] w (Gives w (exportedF (HS kd sz bk) x0 (sb s) x2 n)) := by
  have hok := HS_ok kd sz bk
  have hs32 := hok.sz32
  have hc0 : Chg [] w (w.alloc (hObj kd sz bk)) := (Chg.refl [] w).alloc _
  go_enter Tryd.func27, Tryd.ntmps27
  go_upto_region 1 with fail
  obtain ⟨wB, hwB⟩ : ∃ wB, wB = w.alloc (hObj kd sz bk) := ⟨_, rfl⟩
  rw [← hwB] at hc0 ⊢
  have hrow : wB.heap[w.heap.size]? = some (hObj kd sz bk) := hwB ▸ heap_alloc_new w _
  clear hwB
  have ldh : ∀ W, Chg [] wB W → (Instr.loadAt 23 (.pointer (some ⟨w.heap.size, 0, none⟩))).run Tryd.prog W = .ok (hV kd sz bk) W := fun W h => ld_hV (h.row hrow (by simp))
  have hd0 : Chg [] wB wB.drew := (Chg.refl [] wB).drew
  refine region_held (fun w' => Chg [] wB w') [(0, true), (1, true), (2, true), (3, true), (5, true), (6, true), (8, true), (4, false), (7, false), (9, false), (10, true)] (by kernel_rfl) (by kernel_rfl) hd0 ?_
  change wpPlan _ _ _ _ [(_, true), (_, true), (_, true), (_, true), (_, true), (_, true), (_, true), (_, false), (_, false), (_, false), (_, true)] _ _
  iterate 7 (first | refine plan_move _ rfl rfl ?_ | refine plan_assign _ rfl rfl ?_ | refine plan_loadG 23 _ ⟨w.heap.size, 0, none⟩ (hV kd sz bk) rfl rfl rfl ldh ?_ | refine plan_makeFunc _ _ _ rfl rfl ?_)
  refine plan_step ?_
  go_wp2_with (go_at_call 24; refine (spec_DeriveSecret _ kd sz bk v0 x0 lx0 (bx0.keep (hc0.trans hd0)) s hl (.slice none 0 0) [] (by simp) (BS.nil _ _)).mono ?_; rintro e1 w1 ⟨u1, rfl, f1⟩)
  have hd1 := Chg.trans hd0 f1.2.1
  refine HeldN.mk hd1 ?_
  refine plan_step ?_
  go_wp2_with (go_at_call 19; refine (spec_hash _ kd sz bk v2 x2 lx2 (bx2.keep (hc0.trans hd1))).mono ?_; rintro e2 w2 ⟨u2, rfl, f2⟩)
  have hd2 := Chg.trans hd1 f2.2.1
  refine HeldN.mk hd2 ?_
  refine plan_step ?_
  go_wp2_with (go_at_call 57; refine (spec_expandLabel _ kd sz bk u1 _ lblX u2 _ n (Nat.le_trans (deriveF_le hok _ _ _) (by omega)) (Nat.le_trans lblX_size (by omega)) (by rw [hok.len]; omega) hn (f1.bs0.keep f2.2.1) f2.bs0).mono ?_; rintro e3 w3 ⟨uz, rfl, fz⟩)
  have hd3 := Chg.trans hd2 fz.2.1
  refine HeldN.mk hd3 ?_
  iterate 1 (first | refine plan_move _ rfl rfl ?_ | refine plan_assign _ rfl rfl ?_ | refine plan_loadG 23 _ ⟨w.heap.size, 0, none⟩ (hV kd sz bk) rfl rfl rfl ldh ?_ | refine plan_makeFunc _ _ _ rfl rfl ?_)
  refine plan_nil (Held2.mk ?_)
  go_wp2
  go_ret
  exact ⟨_, rfl, fz.from (hc0.trans hd2)⟩
end Go.Proofs.YtknoomndofnnmaaDoor
