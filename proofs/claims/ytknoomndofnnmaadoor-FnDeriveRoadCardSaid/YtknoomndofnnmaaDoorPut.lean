/- SHA-256: byte order: words put into a row, appended to one, read out of one. -/
import Derived.Test.YtknoomndofnnmaaDoorCut
namespace Go.Proofs.YtknoomndofnnmaaDoor
open Go Go.RowKit

theorem set4 (xs : Bs) (off : Nat) (a b c d : UInt8) (h : off + 4 ≤ xs.length) : (((xs.set off a).set (off + 1) b).set (off + 2) c).set (off + 3) d = xs.take off ++ [a, b, c, d] ++ xs.drop (off + 4) := by
  apply List.ext_getElem?
  intro i
  simp only [List.getElem?_set, List.length_set, List.append_assoc, List.getElem?_append, List.length_take, List.getElem?_take, List.length_cons, List.length_nil, List.getElem?_drop, Nat.min_eq_left (show off ≤ xs.length by omega)]
  by_cases h0 : i < off
  · simp [h0, show off + 3 ≠ i by omega, show off + 2 ≠ i by omega, show off + 1 ≠ i by omega, show off ≠ i by omega]
  · simp only [if_neg h0]
    by_cases h4 : i < off + 4
    · obtain ⟨j, rfl⟩ := Nat.exists_eq_add_of_le (show off ≤ i by omega)
      have hj : j < 4 := by omega
      have : j = 0 ∨ j = 1 ∨ j = 2 ∨ j = 3 := by omega
      rcases this with rfl | rfl | rfl | rfl <;> simp <;> omega
    · simp [show off + 3 ≠ i by omega, show off + 2 ≠ i by omega, show off + 1 ≠ i by omega, show off ≠ i by omega, show ¬ i - off < 4 by omega, show off + 4 + (i - off - 4) = i by omega]

set_option maxHeartbeats 1000000 in
theorem put32 (w : World) (g off len cap : Nat) (xs : Bs) (t : TypeId) (hg : w.heap[g]? = some (.cells (brow xs).toArray t (0, 0))) (h4 : 4 ≤ len) (hl : off + len ≤ xs.length) (x : UInt32) :
    Calls Tryd.prog 100 #[.slice (some ⟨g, off, none⟩) len cap, .int .u32 (x.toNat : Int)] w fun e w' => e = .returned (.tuple #[]) ∧ w'.heap[g]? = some (.cells (brow (xs.take off ++ be4 x ++ xs.drop (off + 4))).toArray t (0, 0)) ∧ Chg [g] w w' := by
  have c0 := (blk_cell hg off).trans (bv_cell xs off (by omega))
  have c1 := (blk_cell hg (off + 1)).trans (bv_cell xs (off + 1) (by omega))
  have c2 := (blk_cell hg (off + 2)).trans (bv_cell xs (off + 2) (by omega))
  have c3 := (blk_cell hg (off + 3)).trans (bv_cell xs (off + 3) (by omega))
  have fg := fun j => blk_frozen hg j
  go_enter Tryd.func100, Tryd.ntmps100
  go_wp2
  go_end0
  refine ⟨rfl, ?_, ((((Chg.refl _ _).setCell (.inl (by simp)) _).setCell (.inl (by simp)) _).setCell (.inl (by simp)) _).setCell (.inl (by simp)) _⟩
  rw [u32_byte24, u32_byte16, u32_byte8, u32_byte0]
  have h := blk_bset (blk_bset (blk_bset (blk_bset hg (i := off) (x >>> 24).toUInt8) (i := off + 1) (x >>> 16).toUInt8) (i := off + 2) (x >>> 8).toUInt8) (i := off + 3) x.toUInt8
  rw [set4 _ _ _ _ _ _ (by omega)] at h
  exact h

theorem set1 (xs ys : Bs) (off k : Nat) (a : UInt8) (hk : k < ys.length) (ha : a = gt ys k) (h : off + ys.length ≤ xs.length) : (xs.take off ++ ys.take k ++ xs.drop (off + k)).set (off + k) a = xs.take off ++ ys.take (k + 1) ++ xs.drop (off + (k + 1)) := by
  have hl : (xs.take off ++ ys.take k).length = off + k := by simp; omega
  rw [List.set_append_right _ _ (by omega), hl, Nat.sub_self, List.drop_eq_getElem_cons (by omega : off + k < xs.length), List.set_cons_zero, ha, gt_eq _ _ hk]
  have e : ys.take (k + 1) = ys.take k ++ [ys[k]] := List.take_succ_eq_append_getElem hk
  rw [e]
  simp [Nat.add_assoc, -List.take_append_getElem]
theorem be64_gt (n k : Nat) (hk : k < 8) : gt (be64 n) k = UInt8.ofNat (n / 2 ^ (56 - 8 * k)) := by
  rw [gt_eq _ _ (by rw [be64_length]; exact hk)]
  simp [be64]

set_option maxHeartbeats 1000000 in
theorem put64 (w : World) (g off len cap : Nat) (xs : Bs) (t : TypeId) (hg : w.heap[g]? = some (.cells (brow xs).toArray t (0, 0))) (h4 : 8 ≤ len) (hl : off + len ≤ xs.length) (n : Nat) (_hn : n < 18446744073709551616) :
    Calls Tryd.prog 99 #[.slice (some ⟨g, off, none⟩) len cap, .int .u64 (n : Int)] w fun e w' => e = .returned (.tuple #[]) ∧ w'.heap[g]? = some (.cells (brow (xs.take off ++ be64 n ++ xs.drop (off + 8))).toArray t (0, 0)) ∧ Chg [g] w w' := by
  have c7 := (blk_cell hg (off + 7)).trans (bv_cell xs (off + 7) (by omega))
  go_enter Tryd.func99, Tryd.ntmps99
  go_wp2
  clear c7
  go_loopw [4] (fun i wr => ∃ k : Nat, k ≤ 8 ∧ i = .int .i64 k ∧ wr.heap[g]? = some (.cells (brow (xs.take off ++ (be64 n).take k ++ xs.drop (off + k))).toArray t (0, 0)) ∧ Chg [g] w wr) (fun i _ => 8 - (intOf i).toNat)
  case atStart => exact ⟨0, by omega, rfl, by simpa using hg, Chg.refl _ _⟩
  case round =>
    obtain ⟨k, hk, rfl, hr, hchg⟩ := hrel
    have fg := fun j => blk_frozen hr j
    by_cases hlt : k < 8
    · have cg := (blk_cell hr (off + k)).trans (bv_cell _ (off + k) (by simp [be64_length]; omega))
      have hd : decide ((k : Int) < (8 : Int)) = true := decide_eq_true (by omega)
      have hb1 : (0 : Int) ≤ 56 - 8 * (k : Int) := by omega
      have hb2 : (56 : Int) - 8 * (k : Int) < 64 := by omega
      go_wp2
      go_roundw
      case rel =>
        refine ⟨k + 1, by omega, by go_num, ?_, hchg.setCell (.inl (by simp)) _⟩
        have e : (n : Int) / (2 : Int) ^ (56 - 8 * k) % (256 : Int) = ((gt (be64 n) k).toNat : Int) := by
          rw [be64_gt n k hlt, UInt8.toNat_ofNat']
          simp
        rw [e, blk_bset hr, set1 xs (be64 n) off k _ (by rw [be64_length]; exact hlt) rfl (by rw [be64_length]; omega)]
      case measure => simp [intOf]; omega
    · go_wp2
      go_end0
      obtain rfl : k = 8 := by omega
      rw [show (be64 n).take 8 = be64 n from List.take_of_length_le (by rw [be64_length]; exact Nat.le_refl _)] at hr
      exact ⟨rfl, hr, hchg⟩

theorem row4 (x : UInt32) : #[Value.int .u8 ((x.toNat : Int) / (16777216 : Int) % (256 : Int)), .int .u8 ((x.toNat : Int) / (65536 : Int) % (256 : Int)), .int .u8 ((x.toNat : Int) / (256 : Int) % (256 : Int)), .int .u8 ((x.toNat : Int) % (256 : Int))] = (brow (be4 x)).toArray := by
  rw [u32_byte24, u32_byte16, u32_byte8, u32_byte0]; rfl
theorem row8 (n : Nat) : #[Value.int .u8 ((n : Int) / (72057594037927936 : Int) % (256 : Int)), .int .u8 ((n : Int) / (281474976710656 : Int) % (256 : Int)), .int .u8 ((n : Int) / (1099511627776 : Int) % (256 : Int)), .int .u8 ((n : Int) / (4294967296 : Int) % (256 : Int)), .int .u8 ((n : Int) / (16777216 : Int) % (256 : Int)), .int .u8 ((n : Int) / (65536 : Int) % (256 : Int)), .int .u8 ((n : Int) / (256 : Int) % (256 : Int)), .int .u8 ((n : Int) % (256 : Int))] = (brow (be64 n)).toArray := by
  rw [be64_eq]
  simp [brow, bv]

theorem app32 (w : World) (v : Value) (xs : Bs) (hv : Own w v xs) (hb : xs.length ≤ 1000000) (x : UInt32) :
    Calls Tryd.prog 149 #[v, .int .u32 (x.toNat : Int)] w fun e w' => ∃ v', e = .returned v' ∧ Own w' v' (xs ++ be4 x) ∧ Chg v.ownBlock.toList w w' ∧ ∀ g, v'.ownBlock = some g → v.ownBlock = some g ∨ w.heap.size ≤ g := by
  go_enter Tryd.func149, Tryd.ntmps149
  go_wp2_with (at_builtin; refine append_bytes (ys := be4 x) (u := .slice (some ⟨w.heap.size, 0, none⟩) 4 4) rfl (.tmp 5) (.tmp 17) rfl rfl (hv.chg ((Chg.refl [] w).alloc _) (by simp)) rfl (lit_src w (be4 x) _ (row4 x) (by simp [be4])) (by simp [be4]; omega) ?_; intro v' w1 hown1 hchg1 hsame1 _)
  go_ret
  exact ⟨_, rfl, hown1, ((Chg.refl _ w).alloc _).trans hchg1, fun g hg => (hsame1 g hg).imp id fun h => by simp at h; omega⟩
set_option maxRecDepth 100000 in
theorem app64 (w : World) (v : Value) (xs : Bs) (hv : Own w v xs) (hb : xs.length ≤ 1000000) (n : Nat) :
    Calls Tryd.prog 150 #[v, .int .u64 (n : Int)] w fun e w' => ∃ v', e = .returned v' ∧ Own w' v' (xs ++ be64 n) ∧ Chg v.ownBlock.toList w w' ∧ ∀ g, v'.ownBlock = some g → v.ownBlock = some g ∨ w.heap.size ≤ g := by
  go_enter Tryd.func150, Tryd.ntmps150
  go_wp2_with (at_builtin; refine append_bytes (ys := be64 n) (u := .slice (some ⟨w.heap.size, 0, none⟩) 8 8) rfl (.tmp 5) (.tmp 29) rfl rfl (hv.chg ((Chg.refl [] w).alloc _) (by simp)) rfl (lit_src w (be64 n) _ (row8 n) (by simp [be64_length])) (by simp [be64_length]; omega) ?_; intro v' w1 hown1 hchg1 hsame1 _)
  go_ret
  exact ⟨_, rfl, hown1, ((Chg.refl _ w).alloc _).trans hchg1, fun g hg => (hsame1 g hg).imp id fun h => by simp at h; omega⟩

theorem get32 (w : World) (b off len cap : Nat) (ys : Bs) (h4 : 4 ≤ len) (hl : len ≤ ys.length) (hc : ∀ j, j < ys.length → w.cell? ⟨b, off + j, none⟩ = some (.int .u8 ((gt ys j).toNat : Int))) (x : UInt32) (hx : ys.take 4 = be4 x) :
    Calls Tryd.prog 151 #[.slice (some ⟨b, off, none⟩) len cap] w fun e w' => e = .returned (.int .u32 (x.toNat : Int)) ∧ ∃ n, w' = w.drewN n := by
  have g0 : gt ys 0 = (x >>> 24).toUInt8 := by rw [← gt_take ys 4 0 (by omega), hx]; rfl
  have g1 : gt ys 1 = (x >>> 16).toUInt8 := by rw [← gt_take ys 4 1 (by omega), hx]; rfl
  have g2 : gt ys 2 = (x >>> 8).toUInt8 := by rw [← gt_take ys 4 2 (by omega), hx]; rfl
  have g3 : gt ys 3 = x.toUInt8 := by rw [← gt_take ys 4 3 (by omega), hx]; rfl
  have G0 := Lib.hid g0
  have G1 := Lib.hid g1
  have G2 := Lib.hid g2
  have G3 := Lib.hid g3
  clear g0 g1 g2 g3 hx
  have c0 : w.cell? ⟨b, off, none⟩ = some (.int .u8 ((gt ys 0).toNat : Int)) := hc 0 (by omega)
  have c1 := hc 1 (by omega)
  have c2 := hc 2 (by omega)
  have c3 := hc 3 (by omega)
  clear hc
  have b0 : ((gt ys 0).toNat : Int) < 256 := by have := (gt ys 0).toNat_lt; omega
  have b1 : ((gt ys 1).toNat : Int) < 256 := by have := (gt ys 1).toNat_lt; omega
  have b2 : ((gt ys 2).toNat : Int) < 256 := by have := (gt ys 2).toNat_lt; omega
  have b3 : ((gt ys 3).toNat : Int) < 256 := by have := (gt ys 3).toNat_lt; omega
  go_enter Tryd.func151, Tryd.ntmps151
  go_wp2
  go_quiet (fail)
  go_wp2
  go_ret
  refine ⟨?_, _, rfl⟩
  have e := or32_val (gt ys 0) (gt ys 1) (gt ys 2) (gt ys 3)
  rw [G0.out, G1.out, G2.out, G3.out, be4_nat, ← G0.out, ← G1.out, ← G2.out, ← G3.out] at e
  exact congrArg (fun z => Ending.returned (Value.int .u32 z)) e
set_option maxRecDepth 100000 in
theorem get64 (w : World) (b off len cap : Nat) (ys : Bs) (h4 : 8 ≤ len) (hl : len ≤ ys.length) (hc : ∀ j, j < ys.length → w.cell? ⟨b, off + j, none⟩ = some (.int .u8 ((gt ys j).toNat : Int))) (x : Nat) (hx64 : x ≤ 1000000) (hx : ys.take 8 = be64 x) :
    Calls Tryd.prog 152 #[.slice (some ⟨b, off, none⟩) len cap] w fun e w' => e = .returned (.int .u64 (x : Int)) ∧ ∃ n, w' = w.drewN n := by
  rw [be64_eq] at hx
  have g0 : gt ys 0 = UInt8.ofNat (x / 72057594037927936) := by rw [← gt_take ys 8 0 (by omega), hx]; rfl
  have g1 : gt ys 1 = UInt8.ofNat (x / 281474976710656) := by rw [← gt_take ys 8 1 (by omega), hx]; rfl
  have g2 : gt ys 2 = UInt8.ofNat (x / 1099511627776) := by rw [← gt_take ys 8 2 (by omega), hx]; rfl
  have g3 : gt ys 3 = UInt8.ofNat (x / 4294967296) := by rw [← gt_take ys 8 3 (by omega), hx]; rfl
  have g4 : gt ys 4 = UInt8.ofNat (x / 16777216) := by rw [← gt_take ys 8 4 (by omega), hx]; rfl
  have g5 : gt ys 5 = UInt8.ofNat (x / 65536) := by rw [← gt_take ys 8 5 (by omega), hx]; rfl
  have g6 : gt ys 6 = UInt8.ofNat (x / 256) := by rw [← gt_take ys 8 6 (by omega), hx]; rfl
  have g7 : gt ys 7 = UInt8.ofNat x := by rw [← gt_take ys 8 7 (by omega), hx]; rfl
  have e := or64_val (gt ys 0) (gt ys 1) (gt ys 2) (gt ys 3) (gt ys 4) (gt ys 5) (gt ys 6) (gt ys 7)
  have e2 := be64_nat x (by omega)
  rw [← g0, ← g1, ← g2, ← g3, ← g4, ← g5, ← g6, ← g7] at e2
  rw [e2] at e
  have E := Lib.hid e
  clear g0 g1 g2 g3 g4 g5 g6 g7 hx e e2
  have c0 : w.cell? ⟨b, off, none⟩ = some (.int .u8 ((gt ys 0).toNat : Int)) := hc 0 (by omega)
  have c1 := hc 1 (by omega)
  have c2 := hc 2 (by omega)
  have c3 := hc 3 (by omega)
  have c4 := hc 4 (by omega)
  have c5 := hc 5 (by omega)
  have c6 := hc 6 (by omega)
  have c7 := hc 7 (by omega)
  clear hc
  have b0 : ((gt ys 0).toNat : Int) < 256 := by have := (gt ys 0).toNat_lt; omega
  have b1 : ((gt ys 1).toNat : Int) < 256 := by have := (gt ys 1).toNat_lt; omega
  have b2 : ((gt ys 2).toNat : Int) < 256 := by have := (gt ys 2).toNat_lt; omega
  have b3 : ((gt ys 3).toNat : Int) < 256 := by have := (gt ys 3).toNat_lt; omega
  have b4 : ((gt ys 4).toNat : Int) < 256 := by have := (gt ys 4).toNat_lt; omega
  have b5 : ((gt ys 5).toNat : Int) < 256 := by have := (gt ys 5).toNat_lt; omega
  have b6 : ((gt ys 6).toNat : Int) < 256 := by have := (gt ys 6).toNat_lt; omega
  have b7 : ((gt ys 7).toNat : Int) < 256 := by have := (gt ys 7).toNat_lt; omega
  go_enter Tryd.func152, Tryd.ntmps152
  go_wp2
  go_quiet (fail)
  go_wp2
  go_ret
  refine ⟨?_, _, rfl⟩
  exact congrArg (fun z => Ending.returned (Value.int .u64 z)) E.out
end Go.Proofs.YtknoomndofnnmaaDoor
