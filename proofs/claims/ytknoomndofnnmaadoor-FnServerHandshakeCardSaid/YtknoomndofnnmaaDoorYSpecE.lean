/- The reference: SHA-256 of bytes. The reference: sizes of a hash; its own hash of bytes. The hash that is named, as a value and as the reference's function. No condition. The reference: the hash of bytes, of either kind. -/
import Derived.Test.YtknoomndofnnmaaDoorYKit
import Derived.Test.YtknoomndofnnmaaDoorYSpecB
import Derived.Test.YtknoomndofnnmaaDoorYPlain
import Derived.Test.YtknoomndofnnmaaDoorYMem
import Derived.Test.YtknoomndofnnmaaDoorYBytes
import Derived.Test.YtknoomndofnnmaaDoorYSpecA
namespace Go.Proofs.YtknoomndofnnmaaDoor
open Go Go.RowKit

set_option maxRecDepth 100000 in
set_option maxHeartbeats 4000000 in
theorem spec_sha (w : World) (v : Value) (d : Bs) (hl : d.length ≤ 200000) (hv : BS [] w v d) : Calls Tryd.prog 49 #[v] w (Gives w (shaSum K0 d)) := by
  go_enter Tryd.func49, Tryd.ntmps49
  go_upto_region 2 with (refine store_row rfl 75 (.tmp 3) (.tmp 11) rfl w.heap.size rfl (cs := wrow shaInit.ws) rfl (heap_alloc_new w _) size8w rfl rfl (wrow_one _) ?_; intro w1 hrow1 hchg1)
  obtain ⟨g, hg⟩ : ∃ g, g = w.heap.size := ⟨_, rfl⟩
  rw [← hg] at hrow1 hchg1 ⊢
  have hc1 : Chg [] w w1 := ((Chg.refl [] w).alloc _).and hchg1 (by simp; omega)
  have hwg : w.heap.size ≤ g := by omega
  clear hg hchg1
  have hv1 := hv.keep hc1
  have hlv : ∃ a c, v = .slice a d.length c := by obtain ⟨a, c, hv, _⟩ := hv; exact ⟨a, c, hv⟩
  go_upto_region 3 with (at_builtin; refine append_bytes (v := .slice (some ⟨w1.heap.size, 0, none⟩) 0 0) (xs := []) (ys := d) (u := v) rfl (.tmp 12) (.tmp 13) rfl rfl (own_empty _ _ rfl) rfl (hv1.keep ((Chg.refl [] w1).alloc _)).src (by simp; omega) ?_; intro v2 w2 hown2 hchg2 hsame2 _)
  have f2 : Fr w1 d w2 v2 := ⟨hown2, ((Chg.refl [] w1).alloc _).and hchg2 (by simp [Value.ownBlock]), fun b hb => by rcases hsame2 b hb with h | h <;> simp [Value.ownBlock] at h <;> omega⟩
  clear hown2 hchg2 hsame2
  go_wp2_with (at_builtin; refine append_bytes (v := v2) (xs := d) (ys := [0x80]) (u := .slice (some ⟨w2.heap.size, 0, none⟩) 1 1) rfl (.tmp 15) (.tmp 16) rfl rfl (f2.1.chg ((Chg.refl [] w2).alloc _) (by simp)) rfl (one_src w2 0x80 _ rfl) (by simp; omega) ?_; intro v3 w3 hown3 hchg3 hsame3 _)
  have f3 : Fr w1 (shaP d 0 0) w3 v3 := by rw [← shaP_zero]; exact f2.app ((Chg.refl [] w2).alloc _) hown3 hchg3 hsame3
  clear hown3 hchg3 hsame3 f2
  obtain ⟨a0, c0, rfl⟩ := hlv
  go_loopw [4] (fun x wr => ∃ k : Nat, 1 + k ≤ shaPadN d.length ∧ Fr w1 (shaP d k 0) wr x) (fun x _ => d.length + 100 - slLen x)
  case atStart => exact ⟨0, (shaPadN_pos _).1, f3⟩
  case round =>
    obtain ⟨k, hk, f⟩ := hrel
    clear f3
    have hpn := shaPadN_pos d.length
    have hxl := shaP_length d k 0 (by omega)
    rw [Nat.add_zero] at hxl
    obtain ⟨b1, c1, hform⟩ := f.1.form
    rw [hxl] at hform
    by_cases hne : (d.length + 1 + k) % 64 = 56
    · have hk' := Lib.hid (padN_done hk hne)
      have hk64 : k ≤ 64 := by omega
      clear hk
      have hne' : (((d.length + 1 + k : Nat) : Int)) % 64 = 56 := by omega
      subst hform
      go_wp2
      clear hne hne'
      generalize Value.bool (((d.length : Int) + 1 + (k : Int)) % 64 != 56) = vb
      go_loopw [4, 29] (fun x i wr => ∃ j : Nat, j ≤ 8 ∧ i = .int .i64 j ∧ Fr w1 (shaP d k j) wr x) (fun _ i _ => 8 - (intOf i).toNat)
      case atStart => exact ⟨0, by omega, rfl, f⟩
      case round =>
        clear f
        obtain ⟨j, hj, rfl, f⟩ := hrel
        by_cases hlt : j < 8
        · have hdd : decide ((j : Int) < 8) = true := decide_eq_true (by omega)
          have hxl2 := shaP_length d k j (by omega)
          have hsn := shaP_snoc d k j hlt
          have hs1 : ¬ ((56 : Int) - 8 * (j : Int) < 0) := by omega
          have hby : (8 * (d.length : Int)) / 2 ^ (56 - 8 * j) % 256 = ((UInt8.ofNat (8 * d.length / 2 ^ (56 - 8 * j))).toNat : Int) := by
            have := byte_ofNat (8 * d.length) (2 ^ (56 - 8 * j))
            push_cast at this
            exact this
          obtain ⟨y, hy⟩ : ∃ y, y = UInt8.ofNat (8 * d.length / 2 ^ (56 - 8 * j)) := ⟨_, rfl⟩
          rw [← hy] at hby hsn
          obtain ⟨b2, c2, hform⟩ := f.1.form
          rw [hxl2] at hform
          have Hsn := Lib.hid hsn
          clear hy hsn
          subst hform
          go_wp2_with (at_builtin; refine append_bytes (v := .slice b2 (d.length + 1 + k + j) c2) (xs := shaP d k j) (ys := [y]) (u := .slice (some ⟨wr.heap.size, 0, none⟩) 1 1) rfl (.tmp 32) (.tmp 39) rfl rfl (f.1.chg ((Chg.refl [] wr).alloc _) (by simp)) rfl (one_src wr y _ rfl) (by rw [hxl2]; simp; omega) ?_; intro v4 w4 hown4 hchg4 hsame4 _)
          have f4 := f.app ((Chg.refl [] wr).alloc _) hown4 hchg4 hsame4
          rw [Hsn.out] at f4
          go_roundw
          case rel => exact ⟨j + 1, by omega, by go_num, f4⟩
          case measure => simp [intOf]; omega
        · have hdd : decide ((j : Int) < 8) = false := decide_eq_false (by omega)
          rw [show j = 8 by omega, shaP_all d k hk'.out] at f
          have hal := all_length d
          have hwh := shaPad_whole d.length
          obtain ⟨p, hp⟩ : ∃ p, p = d ++ shaPad d.length := ⟨_, rfl⟩
          rw [← hp] at f hal
          have hpl : p.length % 64 = 0 := by rw [hal]; rw [shaPad_length] at hwh; omega
          have Hp := Lib.hid hp
          clear hp hwh hxl
          obtain ⟨b2, c2, hform⟩ := f.1.form
          obtain ⟨L, hL⟩ : ∃ L, L = p.length := ⟨_, rfl⟩
          have HL := Lib.hid hL
          rw [← hL] at hform hpl hal
          have hLb : L ≤ 300000 := by omega
          clear hal hL
          have hbp : BS [g] wr _ p := f.bs (by simp; exact blk_lt hrow1)
          have hrow := f.2.1.row hrow1 (by simp)
          have hcw : Chg [] w wr := hc1.trans f.2.1
          subst hform
          have hbp' : BS [g] wr (.slice b2 p.length c2) p := by rw [← HL.out]; exact hbp
          have hcap : L ≤ c2 := by obtain ⟨_, c', he, hle, _⟩ := hbp'; cases he; rw [HL.out]; exact hle
          clear f hrow1 hc1 hk' hbp
          go_wp2
          clear hdd hlt
          go_loopw [7] (fun i wx => ∃ (j : Nat) (s : S8), 64 * j ≤ L ∧ i = .int .i64 ((64 * j : Nat) : Int) ∧ shaAll K0 s (p.drop (64 * j)) = shaAll K0 shaInit p ∧ wx.heap[g]? = some (.cells (wrow s.ws).toArray 75 (0, 0)) ∧ Chg [g] wr wx) (fun i _ => L - (intOf i).toNat)
          case atStart => exact ⟨0, shaInit, by omega, rfl, by simp, hrow, Chg.refl _ _⟩
          case round =>
            clear hrow
            obtain ⟨j, s, hj, rfl, hall, hrow, hchg⟩ := hrel
            have hl64 : 64 * j < L → ((p.drop (64 * j)).take 64).length = 64 := fun h => by rw [List.length_take, List.length_drop, ← HL.out]; omega
            have hbb : 64 * j < L → BS [] wr (.slice (cutO b2 c2 (64 * j)) 64 (c2 - (64 * j))) ((p.drop (64 * j)).take 64) := fun h => by
              have h0 := HL.out
              have := (hbp'.chg hchg (by simp)).any.cut2 (64 * j) (64 * j + 64) (by omega) (by omega)
              rw [Nat.add_sub_cancel_left] at this
              exact this
            have hcut : 64 * j < L → ∀ W, (Instr.slice 24 (.slice b2 L c2) (some (.int .i64 ((64 * j : Nat) : Int))) (some (.int .i64 (((64 * j : Nat) : Int) + 64))) none).run Tryd.prog W = .ok (.slice (cutO b2 c2 (64 * j)) 64 (c2 - 64 * j)) W := fun h W => by
              have := run_cut2 b2 L c2 (64 * j) (64 * j + 64) (by omega) (by omega) W
              rw [Nat.add_sub_cancel_left] at this
              exact this
            have hstep := blk_step K0 s p j
            rw [← HL.out, hall] at hstep
            have hdone := blk_done K0 s p j
            rw [← HL.out, hall] at hdone
            obtain ⟨n64, hn64⟩ : ∃ n : Nat, n = 64 * j := ⟨_, rfl⟩
            have hn1 : n64 + 64 = 64 * (j + 1) := by omega
            rw [← hn64] at hj hl64 hbb hcut hstep hdone ⊢
            have Hn1 := Lib.hid hn1
            have hmod : n64 % 64 = 0 := by omega
            clear hn64 hn1 hall
            by_cases hlt : n64 < L
            · have hl2 : n64 + 64 ≤ L := by omega
              have hdd : decide ((n64 : Int) < (L : Int)) = true := decide_eq_true (by omega)
              replace hl64 := hl64 hlt
              replace hbb := hbb hlt
              replace hcut := hcut hlt
              replace hstep := hstep hl2
              obtain ⟨q, hq⟩ : ∃ q, q = (p.drop n64).take 64 := ⟨_, rfl⟩
              rw [← hq] at hl64 hbb hstep
              have Hst := Lib.hid hstep
              clear hq hstep hdone
              have hdr : Chg [] wr wr.drew := (Chg.refl [] wr).drew
              have hbb2 := hbb.keep hdr
              have hrow2 := blk_drew hrow
              go_upto_region 15 with fail
              refine region_tail 6 (by kernel_rfl) (by kernel_rfl) ?_
              simp only [List.take_succ_cons, List.take_zero, List.drop_succ_cons, List.drop_zero]
              refine still_one rfl ?_
              refine load_row rfl 75 (.tmp 3) rfl g rfl hrow2 Tryd.underlying75 rfl size8w rfl ?_
              go_wp2
              refine Held1.mk ?_
              repeat (refine still_one rfl ?_; go_wp2; refine Held1.mk ?_)
              refine wpStill_nil ?_
              go_wp2_with (first | (go_at_call 81; refine (spec_block _ s _ q hl64 hbb2).mono ?_; rintro e wy ⟨rfl, hcy⟩) | (refine store_row rfl 75 (.tmp 3) (.tmp 54) rfl g rfl (cs := wrow (shaBlk K0 s q).ws) rfl (hcy.row hrow2 (by simp)) size8w rfl rfl (wrow_one _) ?_; intro wz hrz hcz))
              go_wp2
              go_roundw
              case rel =>
                refine ⟨j + 1, _, ?_, ?_, Hst.out.symm, hrz, (hchg.drew.and hcy (by simp)).trans hcz⟩
                · have := Hn1.out; omega
                · rw [← Hn1.out]; go_num
              case measure => simp [intOf]; omega
            · have hfin : shaAll K0 shaInit p = s := hdone (by omega)
              have hdd : decide ((n64 : Int) < (L : Int)) = false := decide_eq_false (by omega)
              have Hf := Lib.hid hfin
              have hcx : Chg [] w wr := hcw.and hchg (by simp; omega)
              have h66 := size8w
              have hidx : ∀ m : Nat, m < 8 → ∀ W, (Instr.index 75 (.agg (wrow s.ws).toArray) (.int .i64 (m : Int))).run Tryd.prog W = .ok (.int .u32 ((gw s.wl m).toNat : Int)) W := by
                intro m hm W
                rw [wl_at]
                have h8 : m = 0 ∨ m = 1 ∨ m = 2 ∨ m = 3 ∨ m = 4 ∨ m = 5 ∨ m = 6 ∨ m = 7 := by omega
                rcases h8 with rfl | rfl | rfl | rfl | rfl | rfl | rfl | rfl <;> rfl
              obtain ⟨arr, harr⟩ : ∃ arr, arr = (wrow s.ws).toArray := ⟨_, rfl⟩
              rw [← harr] at hidx
              have Harr := Lib.hid harr
              clear harr
              have hrow3 : wr.heap[g]? = some (.cells (wrow s.ws).toArray 75 (0, 0)) := hrow
              clear hl64 hbb hcut hstep hdone hfin hbp' hcap hrow
              go_upto_region 17 with fail
              refine gen_wp (fun w' => Fr wr [] w' (.slice (some ⟨wr.heap.size, 0, none⟩) 0 0) ∧ w'.heap[g]? = some (.cells (wrow s.ws).toArray 75 (0, 0))) ⟨⟨own_empty wr _ rfl, (Chg.refl [] wr).alloc _, by simp [Value.ownBlock]⟩, blk_alloc hrow3 _⟩ (fun wq hq => ?_)
              obtain ⟨f8, hrow8⟩ := hq
              go_wp2_with (refine load_row rfl 75 (.tmp 3) rfl g rfl hrow8 Tryd.underlying75 rfl size8w rfl ?_)
              rw [← Harr.out]
              go_loopw [8, 57] (fun x i wx => ∃ m : Nat, m ≤ 8 ∧ i = .int .i64 m ∧ Fr wr (bytesN s m) wx x) (fun _ i _ => 8 - (intOf i).toNat)
              case atStart => exact ⟨0, by omega, rfl, f8⟩
              case round =>
                clear f8 hrow8
                obtain ⟨m, hm, rfl, f⟩ := hrel
                by_cases hm8 : m < 8
                · have hdd : decide ((m : Int) < 8) = true := decide_eq_true (by omega)
                  have hi := hidx m hm8
                  have hsn := bytesN_snoc s m hm8
                  have hln := bytesN_length s m hm
                  obtain ⟨x, hx⟩ : ∃ x, x = gw s.wl m := ⟨_, rfl⟩
                  rw [← hx] at hi hsn
                  obtain ⟨b3, c3, hform⟩ := f.1.form
                  rw [hln] at hform
                  have Hsn := Lib.hid hsn
                  clear hidx hx hsn
                  subst hform
                  go_wp2_with (at_builtin; refine append_bytes (v := .slice b3 (4 * m) c3) (xs := bytesN s m) (ys := be4 x) (u := .slice (some ⟨wr.heap.size, 0, none⟩) 4 4) rfl (.tmp 60) (.tmp 72) rfl rfl (f.1.chg ((Chg.refl [] wr).alloc _) (by simp)) rfl (lit_src wr (be4 x) _ (row4 x) (by simp [be4])) (by rw [hln]; simp [be4]; omega) ?_; intro v5 w5 hown5 hchg5 hsame5 _)
                  have f5 := f.app ((Chg.refl [] wr).alloc _) hown5 hchg5 hsame5
                  rw [← Hsn.out] at f5
                  go_roundw
                  case rel => exact ⟨m + 1, by omega, by go_num, f5⟩
                  case measure => simp [intOf]; omega
                · have hdd : decide ((m : Int) < 8) = false := decide_eq_false (by omega)
                  rw [show m = 8 by omega, bytesN_all] at f
                  clear hidx
                  go_wp2
                  go_ret
                  have e : shaSum K0 d = shaBytes s := by unfold shaSum; rw [← Hp.out, Hf.out]
                  rw [e]
                  exact ⟨_, rfl, f.from hcx⟩
    · have hne' : ¬ (((d.length + 1 + k : Nat) : Int)) % 64 = 56 := by omega
      subst hform
      go_wp2_with (at_builtin; refine append_bytes (v := .slice b1 (d.length + 1 + k) c1) (xs := shaP d k 0) (ys := [0]) (u := .slice (some ⟨wr.heap.size, 0, none⟩) 1 1) rfl (.tmp 22) (.tmp 23) rfl rfl (f.1.chg ((Chg.refl [] wr).alloc _) (by simp)) rfl (one_src wr 0 _ rfl) (by rw [hxl]; simp; omega) ?_; intro v4 w4 hown4 hchg4 hsame4 _)
      have f4 := f.app ((Chg.refl [] wr).alloc _) hown4 hchg4 hsame4
      rw [shaP_more] at f4
      have hl4 := f4.1.len
      rw [shaP_length _ _ _ (by omega)] at hl4
      go_roundw
      case rel => exact ⟨k + 1, padN_more hk hne, f4⟩
      case measure => simp [slLen] at hl4 ⊢; omega
end Go.Proofs.YtknoomndofnnmaaDoor

namespace Go.Proofs.YtknoomndofnnmaaDoor
open Go Go.RowKit

set_option maxRecDepth 100000 in
set_option maxHeartbeats 1000000 in
theorem spec_sizes (w : World) (kd sz bk : Int) :
    Calls Tryd.prog 50 #[hV kd sz bk] w fun e w' => e = .returned (.tuple #[.int .i64 (kSz kd sz bk : Nat), .int .i64 (kBk kd sz bk : Nat)]) ∧ Chg [] w w' := by
  by_cases hk : kd = 1
  · subst hk
    go_enter Tryd.func50, Tryd.ntmps50
    go_wp2
    go_ret2
    exact ⟨rfl, (Chg.refl [] w).alloc _⟩
  · rw [kSz_own hk, kBk_own hk]
    by_cases hb : sz < 1 ∨ 16 < sz ∨ bk < sz ∨ 32 < bk
    · have e1 : ownSz sz bk = 1 := if_pos hb
      have e2 : ownBk sz bk = 16 := if_pos hb
      rw [e1, e2]
      clear e1 e2
      have hb' : sz < 1 ∨ (1 ≤ sz ∧ 16 < sz) ∨ (1 ≤ sz ∧ sz ≤ 16 ∧ bk < sz) ∨ (1 ≤ sz ∧ sz ≤ 16 ∧ sz ≤ bk ∧ 32 < bk) := by omega
      clear hb
      rcases hb' with hb | ⟨ha, hb⟩ | ⟨ha, hc, hb⟩ | ⟨ha, hc, hd, hb⟩
      · go_enter Tryd.func50, Tryd.ntmps50
        go_wp2
        go_ret2
        exact ⟨rfl, (Chg.refl [] w).alloc _⟩
      · have h1 : ¬ sz < 1 := by omega
        go_enter Tryd.func50, Tryd.ntmps50
        go_wp2
        go_ret2
        exact ⟨rfl, (Chg.refl [] w).alloc _⟩
      · have h1 : ¬ sz < 1 := by omega
        have h2 : ¬ 16 < sz := by omega
        go_enter Tryd.func50, Tryd.ntmps50
        go_wp2
        go_ret2
        exact ⟨rfl, (Chg.refl [] w).alloc _⟩
      · have h1 : ¬ sz < 1 := by omega
        have h2 : ¬ 16 < sz := by omega
        have h3 : ¬ bk < sz := by omega
        go_enter Tryd.func50, Tryd.ntmps50
        go_wp2
        go_ret2
        exact ⟨rfl, (Chg.refl [] w).alloc _⟩
    · have e1 : ownSz sz bk = sz.toNat := if_neg hb
      have e2 : ownBk sz bk = bk.toNat := if_neg hb
      rw [e1, e2]
      clear e1 e2
      obtain ⟨z, rfl⟩ := Int.eq_ofNat_of_zero_le (show 0 ≤ sz by omega)
      obtain ⟨k, rfl⟩ := Int.eq_ofNat_of_zero_le (show 0 ≤ bk by omega)
      simp only [Int.toNat_natCast]
      have h1 : ¬ (z : Int) < 1 := by omega
      have h2 : ¬ (16 : Int) < (z : Int) := by omega
      have h3 : ¬ (k : Int) < (z : Int) := by omega
      have h4 : ¬ (32 : Int) < (k : Int) := by omega
      clear hb
      go_enter Tryd.func50, Tryd.ntmps50
      go_wp2
      go_quiet (fail)
      go_wp2
      go_ret2
      exact ⟨rfl, ((Chg.refl [] w).alloc _).drewN _⟩
theorem spec_size (w : World) (kd sz bk : Int) : Calls Tryd.prog 20 #[hV kd sz bk] w fun e w' => e = .returned (.int .i64 (kSz kd sz bk : Nat)) ∧ Chg [] w w' := by
  have h0 := ld_hV (heap_alloc_new w (hObj kd sz bk))
  go_enter Tryd.func20, Tryd.ntmps20
  go_wp2_with (go_at_call 50; refine (spec_sizes _ kd sz bk).mono ?_; rintro e w' ⟨rfl, hc⟩)
  go_ret
  exact ⟨rfl, ((Chg.refl [] w).alloc _).trans hc⟩
theorem spec_blockSz (w : World) (kd sz bk : Int) : Calls Tryd.prog 118 #[hV kd sz bk] w fun e w' => e = .returned (.int .i64 (kBk kd sz bk : Nat)) ∧ Chg [] w w' := by
  have h0 := ld_hV (heap_alloc_new w (hObj kd sz bk))
  go_enter Tryd.func118, Tryd.ntmps118
  go_wp2_with (go_at_call 50; refine (spec_sizes _ kd sz bk).mono ?_; rintro e w' ⟨rfl, hc⟩)
  go_ret
  exact ⟨rfl, ((Chg.refl [] w).alloc _).trans hc⟩

set_option maxRecDepth 100000 in
set_option maxHeartbeats 2000000 in
theorem spec_hash_own (w : World) (kd sz bk : Int) (hk : ¬ kd = 1) (v : Value) (d : Bs) (hd : d.length ≤ 1000000) (hv : BS [] w v d) :
    Calls Tryd.prog 19 #[hV kd sz bk, v] w (Gives w (ownSum (ownSz sz bk) d)) := by
  have h0 := ld_hV (heap_alloc_new w (hObj kd sz bk))
  have e1 := kSz_own (sz := sz) (bk := bk) hk
  have hr := own_range sz bk
  obtain ⟨n, hn⟩ : ∃ n, n = ownSz sz bk := ⟨_, rfl⟩
  rw [← hn] at e1 hr ⊢
  have h1 := hr.1
  have h16 := hr.2.1
  clear hn hr
  have hmk := mk_bytes n (by omega)
  obtain ⟨a, cap, rfl, -, -, -, hcell⟩ := hv
  go_enter Tryd.func19, Tryd.ntmps19
  go_upto_region 4 with (go_at_call 50; refine (spec_sizes _ kd sz bk).mono ?_; rintro e w1 ⟨rfl, hc⟩)
  have hc1 : Chg [] w w1 := ((Chg.refl [] w).alloc _).trans hc
  clear hc h0 e1
  go_upto_region 5 with fail
  obtain ⟨s, hs⟩ : ∃ s, s = w1.heap.size := ⟨_, rfl⟩
  rw [← hs]
  have hws : w.heap.size ≤ s := by have := hc1.size; omega
  refine gen_wp (fun w' => w'.heap[s]? = some (.cells (brow (List.replicate n 0)).toArray 5 (0, 0)) ∧ Chg [] w w') ⟨hs ▸ heap_alloc_new w1 _, hc1.alloc _⟩ (fun w2 hw2 => ?_)
  obtain ⟨hr2, hc2⟩ := hw2
  clear hc1 hs
  go_wp2
  go_loopw [27] (fun i wr => ∃ k : Nat, k ≤ n ∧ i = .int .i64 k ∧ wr.heap[s]? = some (.cells (brow ((List.range k).map UInt8.ofNat ++ (List.replicate n 0).drop k)).toArray 5 (0, 0)) ∧ Chg [] w wr) (fun i _ => n - (intOf i).toNat)
  case atStart => exact ⟨0, by omega, rfl, by simpa using hr2, hc2⟩
  case round =>
    obtain ⟨k, hk', rfl, hs', hchg⟩ := hrel
    clear hr2 hc2
    by_cases hlt : k < n
    · have fs := fun j => blk_frozen hs' j
      have cs := (blk_cell hs' k).trans (bv_cell _ k (by simp; omega))
      have hdd : decide ((k : Int) < (n : Int)) = true := by simpa using hlt
      go_wp2
      go_roundw
      case rel =>
        refine ⟨k + 1, by omega, by go_num, ?_, hchg.setCell (.inr hws) _⟩
        have := blk_bset hs' (i := k) (UInt8.ofNat k)
        rw [ownInit_step n k _ (by simp) hlt, ← bv, ← u8_nat k (by omega)] at this
        exact this
      case measure => simp [intOf]; omega
    · obtain rfl : k = n := by omega
      have hini : (List.range k).map UInt8.ofNat ++ (List.replicate k (0 : UInt8)).drop k = ownState k (d.take 0) := by simp [ownState, ownFrom, ownInit]
      rw [hini] at hs'
      clear hini
      go_wp2
      go_loopw [38] (fun i wr => ∃ j : Nat, j ≤ d.length ∧ i = .int .i64 j ∧ wr.heap[s]? = some (.cells (brow (ownState k (d.take j))).toArray 5 (0, 0)) ∧ Chg [] w wr) (fun i _ => d.length - (intOf i).toNat)
      case atStart => exact ⟨0, by omega, rfl, hs', hchg⟩
      case round =>
        clear hs' hchg
        obtain ⟨j, hj, rfl, hs', hchg⟩ := hrel
        obtain ⟨st, hst⟩ : ∃ st, st = ownState k (d.take j) := ⟨_, rfl⟩
        have hl' : st.length = k := by rw [hst, ownState_length]
        rw [← hst] at hs'
        have Hst := Lib.hid hst
        clear hst
        by_cases hlt2 : j < d.length
        · rcases hcell with rfl | ⟨b, off, rfl, hbn, hc⟩
          · simp at hlt2
          · have cx := hchg.cell (hc j hlt2) hbn
            have hdd : decide ((j : Int) < (d.length : Int)) = true := by simpa using hlt2
            have hm : j % k < k := Nat.mod_lt _ (by omega)
            have hm2 : (j + 1) % k < k := Nat.mod_lt _ (by omega)
            have fs := fun j => blk_frozen hs' j
            have cs := (blk_cell hs' (j % k)).trans (bv_cell _ _ (by omega))
            go_upto_region 15 with fail
            refine gen_wp (fun w' => w'.heap[s]? = some (.cells (brow (ownMix k st j (gt d j))).toArray 5 (0, 0)) ∧ Chg [] w w') ?_ (fun w3 h3 => ?_)
            · refine ⟨?_, hchg.setCell (.inr hws) _⟩
              rw [u8_own]
              exact blk_bset hs' _
            obtain ⟨hs3, hchg3⟩ := h3
            obtain ⟨st1, hst1⟩ : ∃ st1, st1 = ownMix k st j (gt d j) := ⟨_, rfl⟩
            rw [← hst1] at hs3
            have hl1 : st1.length = k := by rw [hst1, ownMix_length]; exact hl'
            have Hst1 := Lib.hid hst1
            clear fs cs hst1 cx hs' hchg
            have fs := fun j => blk_frozen hs3 j
            have cs := (blk_cell hs3 (j % k)).trans (bv_cell _ _ (by omega))
            have cs2 := (blk_cell hs3 ((j + 1) % k)).trans (bv_cell _ _ (by omega))
            have hi1 : (0 : Int) ≤ ((j : Int) + 1) % (k : Int) := Int.emod_nonneg _ (by omega)
            have hi2 : ((j : Int) + 1) % (k : Int) < (k : Int) := Int.emod_lt_of_pos _ (by omega)
            have hi3 : (((j : Int) + 1) % (k : Int)).toNat = (j + 1) % k := by rw [show ((j : Int) + 1) % (k : Int) = (((j + 1) % k : Nat) : Int) from by rw [Int.natCast_emod]; rfl, Int.toNat_natCast]
            go_wp2
            refine region_tail 13 (by kernel_rfl) (by kernel_rfl) ?_
            simp only [List.take_succ_cons, List.take_zero, List.drop_succ_cons, List.drop_zero]
            repeat ((first | refine still_one rfl ?_ | refine still_one2 rfl ?_); go_wp2; refine Held1.mk ?_)
            refine wpStill_nil ?_
            go_wp2
            go_roundw
            case rel =>
              refine ⟨j + 1, by omega, by go_num, ?_, (hchg3.setCell (.inr hws) _).drew⟩
              have hB : ownState k (d.take (j + 1)) = st1.set ((j + 1) % k) (gt st1 ((j + 1) % k) ^^^ gt st1 (j % k)) := by
                rw [List.take_succ_eq_append_getElem hlt2, ownState_snoc, ← Hst.out, Hst1.out, gt_eq d j hlt2]
                simp [Nat.min_eq_left (Nat.le_of_lt hlt2)]
                rfl
              rw [hB, u8_xor']
              exact blk_drew (blk_bset hs3 _)
            case measure => simp [intOf]; omega
        · obtain rfl : j = d.length := by omega
          clear hcell
          go_wp2
          go_loopw [75] (fun i wr => ∃ m : Nat, m ≤ k ∧ i = .int .i64 m ∧ wr.heap[s]? = some (.cells (brow ((st.take m).map (· + UInt8.ofNat d.length) ++ st.drop m)).toArray 5 (0, 0)) ∧ Chg [] w wr) (fun i _ => k - (intOf i).toNat)
          case atStart => exact ⟨0, by omega, rfl, by simpa using hs', hchg⟩
          case round =>
            clear hs' hchg
            obtain ⟨m, hm, rfl, hs', hchg⟩ := hrel
            by_cases hlt3 : m < k
            · have fs := fun j => blk_frozen hs' j
              have cs := (blk_cell hs' m).trans (bv_cell _ m (by simp; omega))
              rw [show gt ((st.take m).map (· + UInt8.ofNat d.length) ++ st.drop m) m = gt st m from by
                unfold gt
                rw [List.getD_eq_getElem?_getD, List.getD_eq_getElem?_getD, List.getElem?_append_right (by simp; omega)]
                simp [Nat.min_eq_left (show m ≤ st.length by omega)]] at cs
              have hdd : decide ((m : Int) < (k : Int)) = true := by simpa using hlt3
              go_wp2
              go_roundw
              case rel =>
                refine ⟨m + 1, by omega, by go_num, ?_, hchg.setCell (.inr hws) _⟩
                rw [u8_add]
                have := blk_bset hs' (i := m) (gt st m + UInt8.ofNat d.length)
                rw [ownSum_step m st _ (by omega)] at this
                exact this
              case measure => simp [intOf]; omega
            · obtain rfl : m = k := by omega
              go_wp2
              go_ret
              have e : st.take m = st := List.take_of_length_le (by omega)
              have e2 : st.drop m = [] := List.drop_of_length_le (by omega)
              have e3 : ownSum m d = st.map (· + UInt8.ofNat d.length) := by
                unfold ownSum
                rw [Hst.out, List.take_length]
              rw [e, e2, List.append_nil, ← e3] at hs'
              exact ⟨_, rfl, own_row hs' (by rw [ownSum_length]; omega) (by rw [ownSum_length]), hchg, fun g hg => by simp [Value.ownBlock] at hg; omega⟩
end Go.Proofs.YtknoomndofnnmaaDoor

namespace Go.Proofs.YtknoomndofnnmaaDoor
open Go Go.RowKit

/-- The reference's hash. -/
def HS (kd sz bk : Int) : HF := if kd = 1 then shaF K0 else ownF (ownSz sz bk) (ownBk sz bk)
theorem HS_ok (kd sz bk : Int) : (HS kd sz bk).Ok := by
  unfold HS
  split
  · exact shaF_ok K0
  · have h := own_range sz bk
    exact ownF_ok h.1 h.2.1 h.2.2.1 h.2.2.2

end Go.Proofs.YtknoomndofnnmaaDoor

namespace Go.Proofs.YtknoomndofnnmaaDoor
open Go Go.RowKit

set_option maxRecDepth 100000 in
theorem spec_hash (w : World) (kd sz bk : Int) (v : Value) (d : Bs) (hd : d.length ≤ 200000) (hv : BS [] w v d) :
    Calls Tryd.prog 19 #[hV kd sz bk, v] w (Gives w ((HS kd sz bk).sum d)) := by
  by_cases hk : kd = 1
  · subst hk
    show Calls Tryd.prog 19 #[hV 1 sz bk, v] w (Gives w (shaSum K0 d))
    have hc : Chg [] w (w.alloc (hObj 1 sz bk)) := (Chg.refl [] w).alloc _
    have hv1 := hv.keep hc
    go_enter Tryd.func19, Tryd.ntmps19
    go_wp2_with (go_at_call 49; refine (spec_sha _ v d hd hv1).mono ?_; rintro e w1 ⟨x, rfl, hx⟩)
    go_ret
    exact ⟨_, rfl, hx.from hc⟩
  · have e : (HS kd sz bk).sum d = ownSum (ownSz sz bk) d := by unfold HS; rw [if_neg hk]; rfl
    rw [e]
    exact spec_hash_own w kd sz bk hk v d (by omega) hv
theorem HS_sz (kd sz bk : Int) : (HS kd sz bk).sz = kSz kd sz bk := by
  unfold HS kSz
  split <;> rfl
theorem HS_bk (kd sz bk : Int) : (HS kd sz bk).bk = kBk kd sz bk := by
  unfold HS kBk
  split <;> rfl
theorem HS_len (kd sz bk : Int) (d : Bs) : ((HS kd sz bk).sum d).length = kSz kd sz bk := by rw [(HS_ok kd sz bk).len, HS_sz]
end Go.Proofs.YtknoomndofnnmaaDoor
