/- The methods of the thin package's own hash: Reset, Write, Sum, Size, BlockSize; a fresh one. Sum, Size, BlockSize of the thin package's own hash; a fresh one. -/
import Derived.Test.YtknoomndofnnmaaDoorYMem
namespace Go.Proofs.YtknoomndofnnmaaDoor
open Go Go.RowKit

/-- The object at o, its state's row at s: a hash of sz bytes that has taken data in. -/
def OwnAt (w : World) (o s sz bk : Nat) (n : Nat) (st : Bs) : Prop :=
  o ≠ s ∧ 1 ≤ sz ∧ sz ≤ 16 ∧ st.length = sz ∧
  w.heap[o]? = some (.cells #[.int .i64 sz, .int .i64 bk, .int .i64 n, .slice (some ⟨s, 0, none⟩) sz sz] 84 (0, 0)) ∧
  w.heap[s]? = some (.cells (brow st).toArray 5 (0, 0))

theorem OwnAt.chg {w w' : World} {o s sz bk n : Nat} {st : Bs} {S : List Nat} (h : OwnAt w o s sz bk n st) (hc : Chg S w w') (ho : o ∉ S) (hs : s ∉ S) : OwnAt w' o s sz bk n st :=
  ⟨h.1, h.2.1, h.2.2.1, h.2.2.2.1, hc.row h.2.2.2.2.1 ho, hc.row h.2.2.2.2.2 hs⟩

set_option maxHeartbeats 400000 in
theorem own_reset (w : World) (o s sz bk n : Nat) (st : Bs) (h : OwnAt w o s sz bk n st) :
    Calls Tryd.prog 80 #[.pointer (some ⟨o, 0, none⟩)] w fun e w' => e = .returned (.tuple #[]) ∧ OwnAt w' o s sz bk 0 (ownInit sz) ∧ Chg [o, s] w w' := by
  obtain ⟨hos, h1, h16, hl, ho, hs⟩ := h
  have hso := hos.symm
  have co := fun j => blk_cell ho j
  have fo := fun j => blk_frozen ho j
  go_enter Tryd.func80, Tryd.ntmps80
  go_wp2
  go_loopw [11] (fun i wr => ∃ k : Nat, k ≤ sz ∧ i = .int .i64 k ∧ OwnAt wr o s sz bk 0 ((List.range k).map UInt8.ofNat ++ st.drop k) ∧ Chg [o, s] w wr) (fun i _ => sz - (intOf i).toNat)
  case atStart => exact ⟨0, by omega, rfl, ⟨hos, h1, h16, by simpa using hl, blk_set ho _, by simpa using blk_setOther hs hso _⟩, (Chg.refl _ _).setCell (.inl (by simp)) _⟩
  case round =>
    obtain ⟨k, hk, rfl, hown, hchg⟩ := hrel
    obtain ⟨_, _, _, hl', ho', hs'⟩ := hown
    have co := fun j => blk_cell ho' j
    have fo := fun j => blk_frozen ho' j
    have fs := fun j => blk_frozen hs' j
    by_cases hlt : k < sz
    · have cs := (blk_cell hs' k).trans (bv_cell _ k (by omega))
      have hd : decide ((k : Int) < (sz : Int)) = true := by simpa using hlt
      go_wp2
      go_roundw
      case rel =>
        refine ⟨k + 1, by omega, by go_num, ⟨hos, h1, h16, by simp; omega, by simpa using blk_setOther ho' hos _, ?_⟩, hchg.setCell (.inl (by simp)) _⟩
        have := blk_bset hs' (i := k) (UInt8.ofNat k)
        rw [ownInit_step sz k st hl hlt, ← bv, ← u8_nat k (by omega)] at this
        exact this
      case measure => simp [intOf]; omega
    · go_wp2
      go_end0
      obtain rfl : k = sz := by omega
      refine ⟨rfl, ⟨hos, h1, h16, by simp [ownInit], ho', ?_⟩, hchg⟩
      simpa [ownInit, List.drop_of_length_le (Nat.le_of_eq hl)] using hs'

set_option maxRecDepth 100000 in
set_option maxHeartbeats 1000000 in
theorem own_write (w : World) (o s sz bk : Nat) (d : Bs) (hd : d.length ≤ 1000000) (h : OwnAt w o s sz bk d.length (ownState sz d)) (v : Value) (xs : Bs) (hx : xs.length ≤ 1000000) (hv : BS [o, s] w v xs) :
    Calls Tryd.prog 47 #[.pointer (some ⟨o, 0, none⟩), v] w fun e w' =>
      e = .returned (.tuple #[.int .i64 xs.length, .nilIface]) ∧ OwnAt w' o s sz bk (d ++ xs).length (ownState sz (d ++ xs)) ∧ Chg [o, s] w w' := by
  have hso := h.1.symm
  have hos := h.1
  have h1 := h.2.1
  have h16 := h.2.2.1
  obtain ⟨a, cap, rfl, -, -, -, hcell⟩ := hv
  go_enter Tryd.func47, Tryd.ntmps47
  go_wp2
  go_loopw [11] (fun i wr => ∃ k : Nat, k ≤ xs.length ∧ i = .int .i64 k ∧ OwnAt wr o s sz bk (d ++ xs.take k).length (ownState sz (d ++ xs.take k)) ∧ Chg [o, s] w wr) (fun i _ => xs.length - (intOf i).toNat)
  case atStart => exact ⟨0, by omega, rfl, by simpa using h, Chg.refl _ _⟩
  case round =>
    obtain ⟨k, hk, rfl, hown, hchg⟩ := hrel
    obtain ⟨n, hn⟩ : ∃ n, n = (d ++ xs.take k).length := ⟨_, rfl⟩
    obtain ⟨st, hst⟩ : ∃ st, st = ownState sz (d ++ xs.take k) := ⟨_, rfl⟩
    rw [← hn, ← hst] at hown
    obtain ⟨_, _, _, hl', ho', hs'⟩ := hown
    have hn' : n ≤ 2000000 := by rw [hn]; simp; omega
    have Hn := Lib.hid hn
    have Hst := Lib.hid hst
    clear hn hst
    have co := fun j => blk_cell ho' j
    have fo := fun j => blk_frozen ho' j
    have fs := fun j => blk_frozen hs' j
    by_cases hlt : k < xs.length
    · rcases hcell with rfl | ⟨b, off, rfl, hbn, hc⟩
      · simp at hlt
      have cx := hchg.cell (hc k hlt) hbn
      have hd : decide ((k : Int) < (xs.length : Int)) = true := by simpa using hlt
      have hm : n % sz < sz := Nat.mod_lt _ (by omega)
      have hm2 : (n + 1) % sz < sz := Nat.mod_lt _ (by omega)
      have cs := (blk_cell hs' (n % sz)).trans (bv_cell _ _ (by omega))
      go_wp2
      go_quiet (fail)
      go_wp2
      have ho2 : (wr.drewN nq).heap[o]? = _ := ho'
      have hs2 : (wr.drewN nq).heap[s]? = _ := hs'
      have hchg2 : Chg [o, s] w (wr.drewN nq) := ⟨hchg.os, hchg.tape, hchg.output, hchg.size, hchg.block⟩
      clear co fo fs cs ho' hs' hchg
      generalize wr.drewN nq = w2 at *
      have co := fun j => blk_cell ho2 j
      have fo := fun j => blk_frozen ho2 j
      have fs := fun j => blk_frozen hs2 j
      have c2 : w2.cell? ⟨o, 2, none⟩ = some (.int .i64 (n : Int)) := co 2
      have c3 : w2.cell? ⟨o, 3, none⟩ = some (.slice (some ⟨s, 0, none⟩) sz sz) := co 3
      have cs := (blk_cell hs2 (n % sz)).trans (bv_cell _ _ (by omega))
      refine region_tail 22 (by kernel_rfl) (by kernel_rfl) ?_
      simp only [List.take_succ_cons, List.take_zero, List.drop_succ_cons, List.drop_zero]
      repeat (refine still_one rfl ?_; go_wp2; refine Held1.mk ?_)
      refine wpStill_nil ?_
      go_wp2
      refine gen_wp (fun w' => w'.heap[o]? = some (.cells #[.int .i64 sz, .int .i64 bk, .int .i64 n, .slice (some ⟨s, 0, none⟩) sz sz] 84 (0, 0)) ∧ w'.heap[s]? = some (.cells (brow (ownMix sz st n (gt xs k))).toArray 5 (0, 0)) ∧ Chg [o, s] w w') ?_ (fun w3 h3 => ?_)
      · refine ⟨blk_setOther ho2 hos _, ?_, (hchg2.setCell (.inl (by simp)) _).drew⟩
        rw [u8_own]
        exact blk_bset hs2 _
      obtain ⟨ho3, hs3, hchg3⟩ := h3
      obtain ⟨st1, hst1⟩ : ∃ st1, st1 = ownMix sz st n (gt xs k) := ⟨_, rfl⟩
      rw [← hst1] at hs3
      have hl1 : st1.length = sz := by rw [hst1, ownMix_length]; exact hl'
      have Hst1 := Lib.hid hst1
      clear co fo fs c2 c3 cs ho2 hs2 hchg2 hst1
      have co := fun j => blk_cell ho3 j
      have fo := fun j => blk_frozen ho3 j
      have fs := fun j => blk_frozen hs3 j
      have cs := (blk_cell hs3 (n % sz)).trans (bv_cell _ _ (by omega))
      have cs2 := (blk_cell hs3 ((n + 1) % sz)).trans (bv_cell _ _ (by omega))
      have hi1 : (0 : Int) ≤ ((n : Int) + 1) % (sz : Int) := Int.emod_nonneg _ (by omega)
      have hi2 : ((n : Int) + 1) % (sz : Int) < (sz : Int) := Int.emod_lt_of_pos _ (by omega)
      have hi3 : (((n : Int) + 1) % (sz : Int)).toNat = (n + 1) % sz := by rw [show ((n : Int) + 1) % (sz : Int) = (((n + 1) % sz : Nat) : Int) from by rw [Int.natCast_emod]; rfl, Int.toNat_natCast]
      go_wp2
      refine region_tail 25 (by kernel_rfl) (by kernel_rfl) ?_
      simp only [List.take_succ_cons, List.take_zero, List.drop_succ_cons, List.drop_zero]
      repeat (refine still_one rfl ?_; go_wp2; refine Held1.mk ?_)
      refine wpStill_nil ?_
      go_wp2
      go_roundw
      case rel =>
        refine ⟨k + 1, by omega, by go_num, ?_, ((hchg3.setCell (.inl (by simp)) _).setCell (.inl (by simp)) _).drew⟩
        have hA : (d ++ List.take (k + 1) xs).length = n + 1 := by rw [Hn.out]; simp; omega
        have hB : ownState sz (d ++ List.take (k + 1) xs) = st1.set ((n + 1) % sz) (gt st1 ((n + 1) % sz) ^^^ gt st1 (n % sz)) := by
          rw [List.take_succ_eq_append_getElem hlt, ← List.append_assoc, ownState_snoc, ← Hst.out, ← Hn.out, Hst1.out, gt_eq xs k hlt]
          rfl
        rw [hA, hB, u8_xor']
        exact ⟨hos, h1, h16, by simpa using hl1, blk_drew (blk_set (blk_setOther ho3 hos _) _), blk_drew (blk_setOther (blk_bset hs3 _) hso _)⟩
      case measure => simp [intOf]; omega
    · go_wp2
      go_ret2
      obtain rfl : k = xs.length := by omega
      refine ⟨rfl, ?_, hchg⟩
      have hx : xs.take xs.length = xs := List.take_length
      rw [hx] at Hn Hst
      rw [← Hn.out, ← Hst.out]
      exact ⟨hos, h1, h16, hl', ho', hs'⟩

end Go.Proofs.YtknoomndofnnmaaDoor

namespace Go.Proofs.YtknoomndofnnmaaDoor
open Go Go.RowKit

set_option maxRecDepth 100000 in
set_option maxHeartbeats 1000000 in
theorem own_sum (w : World) (o s sz bk : Nat) (d : Bs) (h : OwnAt w o s sz bk d.length (ownState sz d)) (vin : Value) (hv : Own w vin []) (hvo : ∀ g, vin.ownBlock = some g → g ∉ [o, s]) :
    Calls Tryd.prog 48 #[.pointer (some ⟨o, 0, none⟩), vin] w fun e w' =>
      ∃ v', e = .returned v' ∧ Own w' v' (ownSum sz d) ∧ Chg vin.ownBlock.toList w w' ∧ ∀ g, v'.ownBlock = some g → vin.ownBlock = some g ∨ w.heap.size ≤ g := by
  obtain ⟨hos, h1, h16, hl, ho, hs⟩ := h
  have hso := hos.symm
  obtain ⟨st, hst⟩ : ∃ st, st = ownState sz d := ⟨_, rfl⟩
  obtain ⟨n, hn⟩ : ∃ n, n = d.length := ⟨_, rfl⟩
  rw [← hst] at hl hs
  rw [← hn] at ho
  have Hst := Lib.hid hst
  have Hn := Lib.hid hn
  clear hst hn
  have co := fun j => blk_cell ho j
  go_enter Tryd.func48, Tryd.ntmps48
  go_wp2
  clear co
  go_loopw [1, 12] (fun v i wr => ∃ k : Nat, k ≤ sz ∧ i = .int .i64 k ∧ Own wr v ((st.take k).map (· + UInt8.ofNat n)) ∧ Chg vin.ownBlock.toList w wr ∧ ∀ g, v.ownBlock = some g → vin.ownBlock = some g ∨ w.heap.size ≤ g) (fun _ i _ => sz - (intOf i).toNat)
  case atStart => exact ⟨0, by omega, rfl, by simpa using hv, Chg.refl _ _, fun g hg => .inl hg⟩
  case round =>
    obtain ⟨k, hk, rfl, hown, hchg, hsame⟩ := hrel
    have hno : o ∉ vin.ownBlock.toList := fun hm => hvo o (by simpa using hm) (by simp)
    have hns : s ∉ vin.ownBlock.toList := fun hm => hvo s (by simpa using hm) (by simp)
    have ho' := hchg.row ho hno
    have hs' := hchg.row hs hns
    have co := fun j => blk_cell ho' j
    by_cases hlt : k < sz
    · have cs := (blk_cell hs' k).trans (bv_cell _ k (by omega))
      have hd : decide ((k : Int) < (sz : Int)) = true := by simpa using hlt
      have hst := take_map_snoc k st (UInt8.ofNat n) (by omega)
      have Hst' := Lib.hid hst
      clear hst
      go_wp2_with (at_builtin; refine append_bytes (ys := [gt st k + UInt8.ofNat n]) (u := .slice (some ⟨wr.heap.size, 0, none⟩) 1 1) rfl (.tmp 16) (.tmp 24) rfl rfl (hown.chg ((Chg.refl [] wr).alloc _) (by simp)) rfl (one_src wr (gt st k + UInt8.ofNat n) _ (u8_add _ _)) (by simp; omega) ?_; intro v' w1 hown1 hchg1 hsame1 _)
      go_roundw
      case rel =>
        refine ⟨k + 1, by omega, by go_num, ?_, ?_, ?_⟩
        · rw [Hst'.out]; exact hown1
        · have hchg1' : Chg u1.ownBlock.toList _ w1 := hchg1
          exact (hchg.alloc _).and hchg1' fun g hg => by rcases hsame g (by simpa using hg) with h | h; exact .inl (by simpa using h); exact .inr h
        · intro g hg
          rcases (hsame1 g hg : u1.ownBlock = some g ∨ _) with h | h
          · exact hsame g h
          · have := hchg.size; exact .inr (by simp at h; omega)
      case measure => simp [intOf]; omega
    · go_wp2
      go_ret
      obtain rfl : k = sz := by omega
      refine ⟨_, rfl, ?_, hchg, hsame⟩
      have : st.take k = st := List.take_of_length_le (by omega)
      rw [this, Hn.out, Hst.out] at hown
      exact hown

theorem own_size (w : World) (o s sz bk n : Nat) (st : Bs) (h : OwnAt w o s sz bk n st) : Calls Tryd.prog 154 #[.pointer (some ⟨o, 0, none⟩)] w fun e w' => e = .returned (.int .i64 sz) ∧ w = w' := by
  have co := fun j => blk_cell h.2.2.2.2.1 j
  go_enter Tryd.func154, Tryd.ntmps154
  go_wp2
  go_ret
  exact ⟨rfl, rfl⟩
theorem own_block (w : World) (o s sz bk n : Nat) (st : Bs) (h : OwnAt w o s sz bk n st) : Calls Tryd.prog 153 #[.pointer (some ⟨o, 0, none⟩)] w fun e w' => e = .returned (.int .i64 bk) ∧ w = w' := by
  have co := fun j => blk_cell h.2.2.2.2.1 j
  go_enter Tryd.func153, Tryd.ntmps153
  go_wp2
  go_ret
  exact ⟨rfl, rfl⟩

/-- The hash that is named: of its own kind, with sizes that may be. -/
def ownSz (sz bk : Int) : Nat := if sz < 1 ∨ 16 < sz ∨ bk < sz ∨ 32 < bk then 1 else sz.toNat
def ownBk (sz bk : Int) : Nat := if sz < 1 ∨ 16 < sz ∨ bk < sz ∨ 32 < bk then 16 else bk.toNat

theorem fresh_own (w : World) (A : Obj) (sz bk : Nat) (h1 : 1 ≤ sz) (h2 : sz ≤ 16) : OwnAt (((w.alloc A).alloc (.cells #[.int .i64 sz, .int .i64 bk, .int .i64 0, .slice (some ⟨w.heap.size + 1 + 1, 0, none⟩) sz sz] 84)).alloc (.cells (brow (List.replicate sz 0)).toArray 5))
    (w.heap.size + 1) (w.heap.size + 1 + 1) sz bk 0 (List.replicate sz 0) := by
  refine ⟨by omega, h1, h2, by simp, ?_, ?_⟩
  · have h := heap_alloc_new (w.alloc A) (.cells #[.int .i64 sz, .int .i64 bk, .int .i64 0, .slice (some ⟨w.heap.size + 1 + 1, 0, none⟩) sz sz] 84)
    simp only [World.size_alloc] at h
    exact blk_alloc h _
  · have h := heap_alloc_new ((w.alloc A).alloc (.cells #[.int .i64 sz, .int .i64 bk, .int .i64 0, .slice (some ⟨w.heap.size + 1 + 1, 0, none⟩) sz sz] 84)) (.cells (brow (List.replicate sz 0)).toArray 5)
    simp only [World.size_alloc] at h
    exact h

set_option maxRecDepth 100000 in
set_option maxHeartbeats 1000000 in
theorem own_fresh (w : World) (kd sz bk : Int) :
    Calls Tryd.prog 46 #[.agg #[.int .i64 kd, .int .i64 sz, .int .i64 bk]] w fun e w' => ∃ o s, e = .returned (.pointer (some ⟨o, 0, none⟩)) ∧ w.heap.size ≤ o ∧ w.heap.size ≤ s ∧ OwnAt w' o s (ownSz sz bk) (ownBk sz bk) 0 (ownInit (ownSz sz bk)) ∧ Chg [] w w' := by
  have hmk1 : ∀ W, (Instr.makeSlice 24 (.int .i64 1) (.int .i64 1)).run Tryd.prog W = _ := mk_bytes 1 (by omega)
  by_cases hb : sz < 1 ∨ 16 < sz ∨ bk < sz ∨ 32 < bk
  · have e1 : ownSz sz bk = 1 := if_pos hb
    have e2 : ownBk sz bk = 16 := if_pos hb
    rw [e1, e2]
    clear e1 e2
    have fin : ∀ (A : Obj) (e : Ending) (w' : World), OwnAt w' (w.heap.size + 1) (w.heap.size + 1 + 1) 1 16 0 (ownInit 1) → Chg [w.heap.size + 1, w.heap.size + 1 + 1] (((w.alloc A).alloc (.cells #[.int .i64 1, .int .i64 16, .int .i64 0, .slice (some ⟨w.heap.size + 1 + 1, 0, none⟩) 1 1] 84)).alloc (.cells (brow [0]).toArray 5)) w' →
        ∃ o s, Ending.returned (.pointer (some ⟨w.heap.size + 1, 0, none⟩)) = .returned (.pointer (some ⟨o, 0, none⟩)) ∧ w.heap.size ≤ o ∧ w.heap.size ≤ s ∧ OwnAt w' o s 1 16 0 (ownInit 1) ∧ Chg [] w w' := fun A e w' h hc =>
      ⟨_, _, rfl, by omega, by omega, h, ((((Chg.refl [] w).alloc _).alloc _).alloc _).and hc (by simp; omega)⟩
    have hb' : sz < 1 ∨ (1 ≤ sz ∧ 16 < sz) ∨ (1 ≤ sz ∧ sz ≤ 16 ∧ bk < sz) ∨ (1 ≤ sz ∧ sz ≤ 16 ∧ sz ≤ bk ∧ 32 < bk) := by omega
    clear hb
    rcases hb' with hb | ⟨ha, hb⟩ | ⟨ha, hc, hb⟩ | ⟨ha, hc, hd, hb⟩
    · go_enter Tryd.func46, Tryd.ntmps46
      go_wp2_with (go_at_call 80; refine (own_reset _ _ _ 1 16 0 _ (fresh_own w _ 1 16 (by omega) (by omega))).mono ?_; rintro e w' ⟨rfl, hown, hchg⟩)
      go_ret
      exact fin _ (.returned undef) _ hown hchg
    · have h1 : ¬ sz < 1 := by omega
      go_enter Tryd.func46, Tryd.ntmps46
      go_wp2_with (go_at_call 80; refine (own_reset _ _ _ 1 16 0 _ (fresh_own w _ 1 16 (by omega) (by omega))).mono ?_; rintro e w' ⟨rfl, hown, hchg⟩)
      go_ret
      exact fin _ (.returned undef) _ hown hchg
    · have h1 : ¬ sz < 1 := by omega
      have h2 : ¬ 16 < sz := by omega
      go_enter Tryd.func46, Tryd.ntmps46
      go_wp2_with (go_at_call 80; refine (own_reset _ _ _ 1 16 0 _ (fresh_own w _ 1 16 (by omega) (by omega))).mono ?_; rintro e w' ⟨rfl, hown, hchg⟩)
      go_ret
      exact fin _ (.returned undef) _ hown hchg
    · have h1 : ¬ sz < 1 := by omega
      have h2 : ¬ 16 < sz := by omega
      have h3 : ¬ bk < sz := by omega
      go_enter Tryd.func46, Tryd.ntmps46
      go_wp2_with (go_at_call 80; refine (own_reset _ _ _ 1 16 0 _ (fresh_own w _ 1 16 (by omega) (by omega))).mono ?_; rintro e w' ⟨rfl, hown, hchg⟩)
      go_ret
      exact fin _ (.returned undef) _ hown hchg
  · have e1 : ownSz sz bk = sz.toNat := if_neg hb
    have e2 : ownBk sz bk = bk.toNat := if_neg hb
    rw [e1, e2]
    clear e1 e2
    obtain ⟨z, rfl⟩ := Int.eq_ofNat_of_zero_le (show 0 ≤ sz by omega)
    obtain ⟨k, rfl⟩ := Int.eq_ofNat_of_zero_le (show 0 ≤ bk by omega)
    simp only [Int.toNat_natCast]
    have h1 : ¬ (z : Int) < 1 := by omega
    have h2 : ¬ (16 : Int) < (z : Int) := by omega
    have h3 : ¬ (k : Int) < (z : Int) := by omega
    have h4 : ¬ (32 : Int) < (k : Int) := by omega
    have hmk := mk_bytes z (by omega)
    clear hb hmk1
    go_enter Tryd.func46, Tryd.ntmps46
    go_wp2_with (go_at_call 80; refine (own_reset _ _ _ z k 0 _ (fresh_own w _ z k (by omega) (by omega))).mono ?_; rintro e w' ⟨rfl, hown, hchg⟩)
    go_ret
    exact ⟨_, _, rfl, by omega, by omega, hown, ((((Chg.refl [] w).alloc _).alloc _).alloc _).and hchg (by simp; omega)⟩

end Go.Proofs.YtknoomndofnnmaaDoor
