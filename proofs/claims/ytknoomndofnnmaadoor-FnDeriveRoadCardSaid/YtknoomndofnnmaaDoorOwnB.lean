/- Sum, Size, BlockSize of the thin package's own hash; a fresh one. -/
import Derived.Test.YtknoomndofnnmaaDoorOwn
namespace Go.Proofs.YtknoomndofnnmaaDoor
open Go Go.RowKit

set_option maxRecDepth 100000 in
set_option maxHeartbeats 1000000 in
theorem own_sum (w : World) (o s sz bk : Nat) (d : Bs) (h : OwnAt w o s sz bk d.length (ownState sz d)) (vin : Value) (hv : Own w vin []) (hvo : ∀ g, vin.ownBlock = some g → g ∉ [o, s]) :
    Calls Tryd.prog 48 #[.pointer (some ⟨o, 0, none⟩), vin] w fun e w' =>
      ∃ v', e = .returned v' ∧ Own w' v' (ownSum sz d) ∧ Chg vin.ownBlock.toList w w' ∧ ∀ g, v'.ownBlock = some g → vin.ownBlock = some g ∨ w.heap.size ≤ g := by
  obtain ⟨hos, h1, h16, hl, ho, hs⟩ := h
  have hso := hos.symm
  obtain ⟨st, hst⟩ : ∃ st, st = ownState sz d := ⟨_, rfl⟩
  obtain ⟨n, hn⟩ : ∃ n, n = d.length := ⟨_, rfl⟩
  rw [← hst] at hl hs
  rw [← hn] at ho
  have Hst := Lib.hid hst
  have Hn := Lib.hid hn
  clear hst hn
  have co := fun j => blk_cell ho j
  go_enter Tryd.func48, Tryd.ntmps48
  go_wp2
  clear co
  go_loopw [1, 12] (fun v i wr => ∃ k : Nat, k ≤ sz ∧ i = .int .i64 k ∧ Own wr v ((st.take k).map (· + UInt8.ofNat n)) ∧ Chg vin.ownBlock.toList w wr ∧ ∀ g, v.ownBlock = some g → vin.ownBlock = some g ∨ w.heap.size ≤ g) (fun _ i _ => sz - (intOf i).toNat)
  case atStart => exact ⟨0, by omega, rfl, by simpa using hv, Chg.refl _ _, fun g hg => .inl hg⟩
  case round =>
    obtain ⟨k, hk, rfl, hown, hchg, hsame⟩ := hrel
    have hno : o ∉ vin.ownBlock.toList := fun hm => hvo o (by simpa using hm) (by simp)
    have hns : s ∉ vin.ownBlock.toList := fun hm => hvo s (by simpa using hm) (by simp)
    have ho' := hchg.row ho hno
    have hs' := hchg.row hs hns
    have co := fun j => blk_cell ho' j
    by_cases hlt : k < sz
    · have cs := (blk_cell hs' k).trans (bv_cell _ k (by omega))
      have hd : decide ((k : Int) < (sz : Int)) = true := by simpa using hlt
      have hst := take_map_snoc k st (UInt8.ofNat n) (by omega)
      have Hst' := Lib.hid hst
      clear hst
      go_wp2_with (at_builtin; refine append_bytes (ys := [gt st k + UInt8.ofNat n]) (u := .slice (some ⟨wr.heap.size, 0, none⟩) 1 1) rfl (.tmp 16) (.tmp 24) rfl rfl (hown.chg ((Chg.refl [] wr).alloc _) (by simp)) rfl (one_src wr (gt st k + UInt8.ofNat n) _ (u8_add _ _)) (by simp; omega) ?_; intro v' w1 hown1 hchg1 hsame1 _)
      go_roundw
      case rel =>
        refine ⟨k + 1, by omega, by go_num, ?_, ?_, ?_⟩
        · rw [Hst'.out]; exact hown1
        · have hchg1' : Chg u1.ownBlock.toList _ w1 := hchg1
          exact (hchg.alloc _).and hchg1' fun g hg => by rcases hsame g (by simpa using hg) with h | h; exact .inl (by simpa using h); exact .inr h
        · intro g hg
          rcases (hsame1 g hg : u1.ownBlock = some g ∨ _) with h | h
          · exact hsame g h
          · have := hchg.size; exact .inr (by simp at h; omega)
      case measure => simp [intOf]; omega
    · go_wp2
      go_ret
      obtain rfl : k = sz := by omega
      refine ⟨_, rfl, ?_, hchg, hsame⟩
      have : st.take k = st := List.take_of_length_le (by omega)
      rw [this, Hn.out, Hst.out] at hown
      exact hown

theorem own_size (w : World) (o s sz bk n : Nat) (st : Bs) (h : OwnAt w o s sz bk n st) : Calls Tryd.prog 154 #[.pointer (some ⟨o, 0, none⟩)] w fun e w' => e = .returned (.int .i64 sz) ∧ w = w' := by
  have co := fun j => blk_cell h.2.2.2.2.1 j
  go_enter Tryd.func154, Tryd.ntmps154
  go_wp2
  go_ret
  exact ⟨rfl, rfl⟩
theorem own_block (w : World) (o s sz bk n : Nat) (st : Bs) (h : OwnAt w o s sz bk n st) : Calls Tryd.prog 153 #[.pointer (some ⟨o, 0, none⟩)] w fun e w' => e = .returned (.int .i64 bk) ∧ w = w' := by
  have co := fun j => blk_cell h.2.2.2.2.1 j
  go_enter Tryd.func153, Tryd.ntmps153
  go_wp2
  go_ret
  exact ⟨rfl, rfl⟩

/-- The hash that is named: of its own kind, with sizes that may be. -/
def ownSz (sz bk : Int) : Nat := if sz < 1 ∨ 16 < sz ∨ bk < sz ∨ 32 < bk then 1 else sz.toNat
def ownBk (sz bk : Int) : Nat := if sz < 1 ∨ 16 < sz ∨ bk < sz ∨ 32 < bk then 16 else bk.toNat

theorem fresh_own (w : World) (A : Obj) (sz bk : Nat) (h1 : 1 ≤ sz) (h2 : sz ≤ 16) : OwnAt (((w.alloc A).alloc (.cells #[.int .i64 sz, .int .i64 bk, .int .i64 0, .slice (some ⟨w.heap.size + 1 + 1, 0, none⟩) sz sz] 84)).alloc (.cells (brow (List.replicate sz 0)).toArray 5))
    (w.heap.size + 1) (w.heap.size + 1 + 1) sz bk 0 (List.replicate sz 0) := by
  refine ⟨by omega, h1, h2, by simp, ?_, ?_⟩
  · have h := heap_alloc_new (w.alloc A) (.cells #[.int .i64 sz, .int .i64 bk, .int .i64 0, .slice (some ⟨w.heap.size + 1 + 1, 0, none⟩) sz sz] 84)
    simp only [World.size_alloc] at h
    exact blk_alloc h _
  · have h := heap_alloc_new ((w.alloc A).alloc (.cells #[.int .i64 sz, .int .i64 bk, .int .i64 0, .slice (some ⟨w.heap.size + 1 + 1, 0, none⟩) sz sz] 84)) (.cells (brow (List.replicate sz 0)).toArray 5)
    simp only [World.size_alloc] at h
    exact h

set_option maxRecDepth 100000 in
set_option maxHeartbeats 1000000 in
theorem own_fresh (w : World) (kd sz bk : Int) :
    Calls Tryd.prog 46 #[.agg #[.int .i64 kd, .int .i64 sz, .int .i64 bk]] w fun e w' => ∃ o s, e = .returned (.pointer (some ⟨o, 0, none⟩)) ∧ w.heap.size ≤ o ∧ w.heap.size ≤ s ∧ OwnAt w' o s (ownSz sz bk) (ownBk sz bk) 0 (ownInit (ownSz sz bk)) ∧ Chg [] w w' := by
  have hmk1 : ∀ W, (Instr.makeSlice 24 (.int .i64 1) (.int .i64 1)).run Tryd.prog W = _ := mk_bytes 1 (by omega)
  by_cases hb : sz < 1 ∨ 16 < sz ∨ bk < sz ∨ 32 < bk
  · have e1 : ownSz sz bk = 1 := if_pos hb
    have e2 : ownBk sz bk = 16 := if_pos hb
    rw [e1, e2]
    clear e1 e2
    have fin : ∀ (A : Obj) (e : Ending) (w' : World), OwnAt w' (w.heap.size + 1) (w.heap.size + 1 + 1) 1 16 0 (ownInit 1) → Chg [w.heap.size + 1, w.heap.size + 1 + 1] (((w.alloc A).alloc (.cells #[.int .i64 1, .int .i64 16, .int .i64 0, .slice (some ⟨w.heap.size + 1 + 1, 0, none⟩) 1 1] 84)).alloc (.cells (brow [0]).toArray 5)) w' →
        ∃ o s, Ending.returned (.pointer (some ⟨w.heap.size + 1, 0, none⟩)) = .returned (.pointer (some ⟨o, 0, none⟩)) ∧ w.heap.size ≤ o ∧ w.heap.size ≤ s ∧ OwnAt w' o s 1 16 0 (ownInit 1) ∧ Chg [] w w' := fun A e w' h hc =>
      ⟨_, _, rfl, by omega, by omega, h, ((((Chg.refl [] w).alloc _).alloc _).alloc _).and hc (by simp; omega)⟩
    have hb' : sz < 1 ∨ (1 ≤ sz ∧ 16 < sz) ∨ (1 ≤ sz ∧ sz ≤ 16 ∧ bk < sz) ∨ (1 ≤ sz ∧ sz ≤ 16 ∧ sz ≤ bk ∧ 32 < bk) := by omega
    clear hb
    rcases hb' with hb | ⟨ha, hb⟩ | ⟨ha, hc, hb⟩ | ⟨ha, hc, hd, hb⟩
    · go_enter Tryd.func46, Tryd.ntmps46
      go_wp2_with (go_at_call 80; refine (own_reset _ _ _ 1 16 0 _ (fresh_own w _ 1 16 (by omega) (by omega))).mono ?_; rintro e w' ⟨rfl, hown, hchg⟩)
      go_ret
      exact fin _ (.returned undef) _ hown hchg
    · have h1 : ¬ sz < 1 := by omega
      go_enter Tryd.func46, Tryd.ntmps46
      go_wp2_with (go_at_call 80; refine (own_reset _ _ _ 1 16 0 _ (fresh_own w _ 1 16 (by omega) (by omega))).mono ?_; rintro e w' ⟨rfl, hown, hchg⟩)
      go_ret
      exact fin _ (.returned undef) _ hown hchg
    · have h1 : ¬ sz < 1 := by omega
      have h2 : ¬ 16 < sz := by omega
      go_enter Tryd.func46, Tryd.ntmps46
      go_wp2_with (go_at_call 80; refine (own_reset _ _ _ 1 16 0 _ (fresh_own w _ 1 16 (by omega) (by omega))).mono ?_; rintro e w' ⟨rfl, hown, hchg⟩)
      go_ret
      exact fin _ (.returned undef) _ hown hchg
    · have h1 : ¬ sz < 1 := by omega
      have h2 : ¬ 16 < sz := by omega
      have h3 : ¬ bk < sz := by omega
      go_enter Tryd.func46, Tryd.ntmps46
      go_wp2_with (go_at_call 80; refine (own_reset _ _ _ 1 16 0 _ (fresh_own w _ 1 16 (by omega) (by omega))).mono ?_; rintro e w' ⟨rfl, hown, hchg⟩)
      go_ret
      exact fin _ (.returned undef) _ hown hchg
  · have e1 : ownSz sz bk = sz.toNat := if_neg hb
    have e2 : ownBk sz bk = bk.toNat := if_neg hb
    rw [e1, e2]
    clear e1 e2
    obtain ⟨z, rfl⟩ := Int.eq_ofNat_of_zero_le (show 0 ≤ sz by omega)
    obtain ⟨k, rfl⟩ := Int.eq_ofNat_of_zero_le (show 0 ≤ bk by omega)
    simp only [Int.toNat_natCast]
    have h1 : ¬ (z : Int) < 1 := by omega
    have h2 : ¬ (16 : Int) < (z : Int) := by omega
    have h3 : ¬ (k : Int) < (z : Int) := by omega
    have h4 : ¬ (32 : Int) < (k : Int) := by omega
    have hmk := mk_bytes z (by omega)
    clear hb hmk1
    go_enter Tryd.func46, Tryd.ntmps46
    go_wp2_with (go_at_call 80; refine (own_reset _ _ _ z k 0 _ (fresh_own w _ z k (by omega) (by omega))).mono ?_; rintro e w' ⟨rfl, hown, hchg⟩)
    go_ret
    exact ⟨_, _, rfl, by omega, by omega, hown, ((((Chg.refl [] w).alloc _).alloc _).alloc _).and hchg (by simp; omega)⟩

end Go.Proofs.YtknoomndofnnmaaDoor
