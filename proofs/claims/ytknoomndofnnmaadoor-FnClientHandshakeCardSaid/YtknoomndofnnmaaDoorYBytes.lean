/- Bytes and words: what shifts and ors of them yield; a row that is written out, as a source. Pieces of slices: behind a place, ahead of a place. SHA-256: byte order: words put into a row, appended to one, read out of one. string(b) and []byte(s). -/
import Derived.Test.YtknoomndofnnmaaDoorYMem
import Derived.Test.YtknoomndofnnmaaDoorYPlain
import Derived.Laws.BitsAllLaws
import Derived.Laws.IdiomStrings
import Derived.Lib.BufferRead
namespace Go.Proofs.YtknoomndofnnmaaDoor
open Go Go.RowKit

theorem or_add (b a k : Nat) (hb : b < 2 ^ k) : b ||| a * 2 ^ k = a * 2 ^ k + b := by
  rw [Nat.or_comm, Nat.mul_comm a, Nat.two_pow_add_eq_or_of_lt hb]
theorem or32_val (a b c d : UInt8) : bits .or .u32 (bits .or .u32 (bits .or .u32 (d.toNat : Int) ((c.toNat : Int) * 256)) ((b.toNat : Int) * 65536)) ((a.toNat : Int) * 16777216)
    = ((a.toNat * 16777216 + b.toNat * 65536 + c.toNat * 256 + d.toNat : Nat) : Int) := by
  have ha := a.toNat_lt
  have hb := b.toNat_lt
  have hc := c.toNat_lt
  have hd := d.toNat_lt
  have e1 : ((c.toNat : Int) * 256) = ((c.toNat * 2 ^ 8 : Nat) : Int) := by simp
  have e2 : ((b.toNat : Int) * 65536) = ((b.toNat * 2 ^ 16 : Nat) : Int) := by simp
  have e3 : ((a.toNat : Int) * 16777216) = ((a.toNat * 2 ^ 24 : Nat) : Int) := by simp
  rw [e1, e2, e3, u32_or_nat _ _ (by omega) (by omega), or_add _ _ 8 (by omega), u32_or_nat _ _ (by omega) (by omega), or_add _ _ 16 (by omega), u32_or_nat _ _ (by omega) (by omega), or_add _ _ 24 (by omega)]
  omega
theorem or64_val (a b c d e f g h : UInt8) : bits .or .u64 (bits .or .u64 (bits .or .u64 (bits .or .u64 (bits .or .u64 (bits .or .u64 (bits .or .u64 (h.toNat : Int) ((g.toNat : Int) * 256)) ((f.toNat : Int) * 65536)) ((e.toNat : Int) * 16777216)) ((d.toNat : Int) * 4294967296)) ((c.toNat : Int) * 1099511627776)) ((b.toNat : Int) * 281474976710656)) ((a.toNat : Int) * 72057594037927936)
    = ((a.toNat * 72057594037927936 + b.toNat * 281474976710656 + c.toNat * 1099511627776 + d.toNat * 4294967296 + e.toNat * 16777216 + f.toNat * 65536 + g.toNat * 256 + h.toNat : Nat) : Int) := by
  have ha := a.toNat_lt
  have hb := b.toNat_lt
  have hc := c.toNat_lt
  have hd := d.toNat_lt
  have he := e.toNat_lt
  have hf := f.toNat_lt
  have hg := g.toNat_lt
  have hh := h.toNat_lt
  have e1 : ((g.toNat : Int) * 256) = ((g.toNat * 2 ^ 8 : Nat) : Int) := by simp
  have e2 : ((f.toNat : Int) * 65536) = ((f.toNat * 2 ^ 16 : Nat) : Int) := by simp
  have e3 : ((e.toNat : Int) * 16777216) = ((e.toNat * 2 ^ 24 : Nat) : Int) := by simp
  have e4 : ((d.toNat : Int) * 4294967296) = ((d.toNat * 2 ^ 32 : Nat) : Int) := by simp
  have e5 : ((c.toNat : Int) * 1099511627776) = ((c.toNat * 2 ^ 40 : Nat) : Int) := by simp
  have e6 : ((b.toNat : Int) * 281474976710656) = ((b.toNat * 2 ^ 48 : Nat) : Int) := by simp
  have e7 : ((a.toNat : Int) * 72057594037927936) = ((a.toNat * 2 ^ 56 : Nat) : Int) := by simp
  rw [e1, e2, e3, e4, e5, e6, e7]
  rw [u64_or_nat _ _ (by omega) (by omega), or_add _ _ 8 (by omega)]
  rw [u64_or_nat _ _ (by omega) (by omega), or_add _ _ 16 (by omega)]
  rw [u64_or_nat _ _ (by omega) (by omega), or_add _ _ 24 (by omega)]
  rw [u64_or_nat _ _ (by omega) (by omega), or_add _ _ 32 (by omega)]
  rw [u64_or_nat _ _ (by omega) (by omega), or_add _ _ 40 (by omega)]
  rw [u64_or_nat _ _ (by omega) (by omega), or_add _ _ 48 (by omega)]
  rw [u64_or_nat _ _ (by omega) (by omega), or_add _ _ 56 (by omega)]
  omega
theorem be4_nat (x : UInt32) : (x >>> 24).toUInt8.toNat * 16777216 + (x >>> 16).toUInt8.toNat * 65536 + (x >>> 8).toUInt8.toNat * 256 + x.toUInt8.toNat = x.toNat := by
  have hx := x.toNat_lt
  simp only [UInt32.toNat_toUInt8, UInt32.toNat_shiftRight]
  rw [show (24 : UInt32).toNat % 32 = 24 from rfl, show (16 : UInt32).toNat % 32 = 16 from rfl, show (8 : UInt32).toNat % 32 = 8 from rfl]
  simp only [Nat.shiftRight_eq_div_pow]
  omega
theorem u32_byte24 (x : UInt32) : ((x.toNat : Int) / (16777216 : Int)) % (256 : Int) = ((x >>> 24).toUInt8.toNat : Int) := by
  simp only [UInt32.toNat_toUInt8, UInt32.toNat_shiftRight, show (24 : UInt32).toNat % 32 = 24 from rfl, Nat.shiftRight_eq_div_pow]
  omega
theorem u32_byte16 (x : UInt32) : ((x.toNat : Int) / (65536 : Int)) % (256 : Int) = ((x >>> 16).toUInt8.toNat : Int) := by
  simp only [UInt32.toNat_toUInt8, UInt32.toNat_shiftRight, show (16 : UInt32).toNat % 32 = 16 from rfl, Nat.shiftRight_eq_div_pow]
  omega
theorem u32_byte8 (x : UInt32) : ((x.toNat : Int) / (256 : Int)) % (256 : Int) = ((x >>> 8).toUInt8.toNat : Int) := by
  simp only [UInt32.toNat_toUInt8, UInt32.toNat_shiftRight, show (8 : UInt32).toNat % 32 = 8 from rfl, Nat.shiftRight_eq_div_pow]
  omega
theorem u32_byte0 (x : UInt32) : (x.toNat : Int) % (256 : Int) = (x.toUInt8.toNat : Int) := by
  simp only [UInt32.toNat_toUInt8]
  omega
/-- The eight bytes of a number below 2^64, by name. -/
theorem be64_eq (v : Nat) : be64 v = [UInt8.ofNat (v / 72057594037927936), UInt8.ofNat (v / 281474976710656), UInt8.ofNat (v / 1099511627776), UInt8.ofNat (v / 4294967296), UInt8.ofNat (v / 16777216), UInt8.ofNat (v / 65536), UInt8.ofNat (v / 256), UInt8.ofNat v] := by
  simp [be64, List.range_succ]
theorem be64_nat (v : Nat) (hv : v < 18446744073709551616) : (UInt8.ofNat (v / 72057594037927936)).toNat * 72057594037927936 + (UInt8.ofNat (v / 281474976710656)).toNat * 281474976710656 + (UInt8.ofNat (v / 1099511627776)).toNat * 1099511627776 + (UInt8.ofNat (v / 4294967296)).toNat * 4294967296 + (UInt8.ofNat (v / 16777216)).toNat * 16777216 + (UInt8.ofNat (v / 65536)).toNat * 65536 + (UInt8.ofNat (v / 256)).toNat * 256 + (UInt8.ofNat v).toNat = v := by
  simp only [UInt8.toNat_ofNat']
  omega
theorem byte_ofNat (v k : Nat) : ((v : Int) / (k : Int)) % (256 : Int) = ((UInt8.ofNat (v / k)).toNat : Int) := by
  simp

/-- A row that is written out. -/
theorem lit_bs (w : World) (ys : Bs) (cs : Array Value) (h : cs = (brow ys).toArray) (hn : ys.length ≤ 1000000) (S : List Nat) (hS : ∀ k ∈ S, k < w.heap.size) :
    BS S (w.alloc (.cells cs 5)) (.slice (some ⟨w.heap.size, 0, none⟩) ys.length ys.length) ys := by
  subst h
  refine ⟨_, _, rfl, Nat.le_refl _, by unfold maxLen; omega, fun h => (by cases h), .inr ⟨_, 0, rfl, fun hm => by have := hS _ hm; omega, fun j hj => ?_⟩⟩
  rw [Nat.zero_add]
  exact (blk_cell (heap_alloc_new w _) j).trans (bv_cell ys j hj)
theorem lit_src (w : World) (ys : Bs) (cs : Array Value) (h : cs = (brow ys).toArray) (hn : ys.length ≤ 1000000) :
    Src Tryd.prog 1 24 (.slice (some ⟨w.heap.size, 0, none⟩) ys.length ys.length) ys.length (brow ys) (w.alloc (.cells cs 5)) :=
  (lit_bs w ys cs h hn [] (by simp)).src
end Go.Proofs.YtknoomndofnnmaaDoor

namespace Go.Proofs.YtknoomndofnnmaaDoor
open Go Go.RowKit

theorem and_high (n : Nat) (hn : n < 2 ^ 31) : n &&& (2 ^ 64 - 1 - 63) = n / 64 * 64 := by
  apply Nat.eq_of_testBit_eq
  intro i
  have e1 : (2 ^ 64 - 1 - 63 : Nat) = (2 ^ 58 - 1) <<< 6 := by decide
  have e2 : n / 64 * 64 = (n >>> 6) <<< 6 := by rw [Nat.shiftRight_eq_div_pow, Nat.shiftLeft_eq]
  rw [e1, e2, Nat.testBit_and, Nat.testBit_shiftLeft, Nat.testBit_shiftLeft, Nat.testBit_two_pow_sub_one, Nat.testBit_shiftRight]
  by_cases h6 : 6 ≤ i
  · rw [show 6 + (i - 6) = i by omega]
    by_cases h : i - 6 < 58
    · simp [h6, h]
    · have : n.testBit i = false := Nat.testBit_lt_two_pow (Nat.lt_of_lt_of_le hn (Nat.pow_le_pow_right (by omega) (by omega)))
      simp [this]
  · simp [h6]
theorem andNot63 (n : Nat) (hn : n < 2147483648) : bits .andNot .i64 (n : Int) 63 = ((n / 64 * 64 : Nat) : Int) := by
  have ha : (BitVec.ofInt 64 (n : Int)).toNat = n := by rw [BitVec.toNat_ofInt]; omega
  have hb : (BitVec.ofInt 64 63).toNat = 63 := by decide
  show IntKind.i64.wrap ((BitVec.ofInt 64 (n : Int) &&& ~~~BitVec.ofInt 64 63).toNat : Int) = _
  rw [BitVec.toNat_and, BitVec.toNat_not, ha, hb, and_high n (by simpa using hn), IntKind.wrap_i64]
  omega

/-- Where a slice begins that is cut at n. -/
def cutO (a : Option Addr) (cap n : Nat) : Option Addr := if cap = n then a else a.map (·.add n)

theorem size_u8 (w : World) : (sizeOf 5).run Tryd.prog w = .ok 1 w := by kernel_rfl
theorem run_cut (a : Option Addr) (len cap n : Nat) (hn : n ≤ len) (w : World) :
    (Instr.slice 24 (.slice a len cap) (some (.int .i64 (n : Int))) none none).run Tryd.prog w = .ok (.slice (cutO a cap n) (len - n) (cap - n)) w := by
  rw [run_slice_l (P := Tryd.prog) w 24 a len cap (by kernel_rfl) .i64 (n : Int) (by omega) (by omega)]
  have := size_u8 w
  rw [show Tryd.prog.elem 24 = 5 from by kernel_rfl, this]
  simp [sliced, cutO]
theorem run_head (a : Option Addr) (len cap n : Nat) (hn : n ≤ cap) (w : World) :
    (Instr.slice 24 (.slice a len cap) none (some (.int .i64 (n : Int))) none).run Tryd.prog w = .ok (.slice a n cap) w := by
  rw [run_slice_h (P := Tryd.prog) w 24 a len cap (by kernel_rfl) .i64 (n : Int) (by omega) (by omega)]
  have := size_u8 w
  rw [show Tryd.prog.elem 24 = 5 from by kernel_rfl, this]
  cases a <;> simp [sliced, Addr.add]
theorem BS.cut {S : List Nat} {w : World} {a : Option Addr} {c : Nat} {xs : Bs} (h : BS S w (.slice a xs.length c) xs) (n : Nat) (hn : n ≤ xs.length) : BS S w (.slice (cutO a c n) (xs.length - n) (c - n)) (xs.drop n) := by
  obtain ⟨a', c', hv, h1, h2, h3, h⟩ := h
  cases hv
  refine ⟨cutO a c n, c - n, by simp, by simp; omega, by omega, fun he => ?_, ?_⟩
  · unfold cutO at he
    split at he
    · have := h3 he; omega
    · cases a with
      | none => have := h3 rfl; omega
      | some ad => simp at he
  · rcases h with rfl | ⟨b, off, rfl, hb, hc⟩
    · exact .inl (by simp)
    · by_cases hcn : c = n
      · exact .inl (List.drop_of_length_le (by omega))
      · refine .inr ⟨b, off + n, by simp [cutO, hcn, Addr.add], hb, fun j hj => ?_⟩
        rw [List.length_drop] at hj
        rw [gt_drop, Nat.add_assoc]
        exact hc (n + j) (by omega)
theorem BS.head {S : List Nat} {w : World} {a : Option Addr} {c : Nat} {xs : Bs} (h : BS S w (.slice a xs.length c) xs) (n : Nat) (hn : n ≤ xs.length) : BS S w (.slice a n c) (xs.take n) := by
  obtain ⟨a', c', hv, h1, h2, h3, h⟩ := h
  cases hv
  refine ⟨a, c, by simp [Nat.min_eq_left hn], by simp; omega, h2, h3, ?_⟩
  rcases h with rfl | ⟨b, off, rfl, hb, hc⟩
  · exact .inl (by simp)
  · refine .inr ⟨b, off, rfl, hb, fun j hj => ?_⟩
    rw [List.length_take] at hj
    rw [gt_take _ _ _ (by omega)]
    exact hc j (by omega)
end Go.Proofs.YtknoomndofnnmaaDoor

namespace Go.Proofs.YtknoomndofnnmaaDoor
open Go Go.RowKit

theorem set4 (xs : Bs) (off : Nat) (a b c d : UInt8) (h : off + 4 ≤ xs.length) : (((xs.set off a).set (off + 1) b).set (off + 2) c).set (off + 3) d = xs.take off ++ [a, b, c, d] ++ xs.drop (off + 4) := by
  apply List.ext_getElem?
  intro i
  simp only [List.getElem?_set, List.length_set, List.append_assoc, List.getElem?_append, List.length_take, List.getElem?_take, List.length_cons, List.length_nil, List.getElem?_drop, Nat.min_eq_left (show off ≤ xs.length by omega)]
  by_cases h0 : i < off
  · simp [h0, show off + 3 ≠ i by omega, show off + 2 ≠ i by omega, show off + 1 ≠ i by omega, show off ≠ i by omega]
  · simp only [if_neg h0]
    by_cases h4 : i < off + 4
    · obtain ⟨j, rfl⟩ := Nat.exists_eq_add_of_le (show off ≤ i by omega)
      have hj : j < 4 := by omega
      have : j = 0 ∨ j = 1 ∨ j = 2 ∨ j = 3 := by omega
      rcases this with rfl | rfl | rfl | rfl <;> simp <;> omega
    · simp [show off + 3 ≠ i by omega, show off + 2 ≠ i by omega, show off + 1 ≠ i by omega, show off ≠ i by omega, show ¬ i - off < 4 by omega, show off + 4 + (i - off - 4) = i by omega]

set_option maxHeartbeats 1000000 in
theorem put32 (w : World) (g off len cap : Nat) (xs : Bs) (t : TypeId) (hg : w.heap[g]? = some (.cells (brow xs).toArray t (0, 0))) (h4 : 4 ≤ len) (hl : off + len ≤ xs.length) (x : UInt32) :
    Calls Tryd.prog 100 #[.slice (some ⟨g, off, none⟩) len cap, .int .u32 (x.toNat : Int)] w fun e w' => e = .returned (.tuple #[]) ∧ w'.heap[g]? = some (.cells (brow (xs.take off ++ be4 x ++ xs.drop (off + 4))).toArray t (0, 0)) ∧ Chg [g] w w' := by
  have c0 := (blk_cell hg off).trans (bv_cell xs off (by omega))
  have c1 := (blk_cell hg (off + 1)).trans (bv_cell xs (off + 1) (by omega))
  have c2 := (blk_cell hg (off + 2)).trans (bv_cell xs (off + 2) (by omega))
  have c3 := (blk_cell hg (off + 3)).trans (bv_cell xs (off + 3) (by omega))
  have fg := fun j => blk_frozen hg j
  go_enter Tryd.func100, Tryd.ntmps100
  go_wp2
  go_end0
  refine ⟨rfl, ?_, ((((Chg.refl _ _).setCell (.inl (by simp)) _).setCell (.inl (by simp)) _).setCell (.inl (by simp)) _).setCell (.inl (by simp)) _⟩
  rw [u32_byte24, u32_byte16, u32_byte8, u32_byte0]
  have h := blk_bset (blk_bset (blk_bset (blk_bset hg (i := off) (x >>> 24).toUInt8) (i := off + 1) (x >>> 16).toUInt8) (i := off + 2) (x >>> 8).toUInt8) (i := off + 3) x.toUInt8
  rw [set4 _ _ _ _ _ _ (by omega)] at h
  exact h

theorem set1 (xs ys : Bs) (off k : Nat) (a : UInt8) (hk : k < ys.length) (ha : a = gt ys k) (h : off + ys.length ≤ xs.length) : (xs.take off ++ ys.take k ++ xs.drop (off + k)).set (off + k) a = xs.take off ++ ys.take (k + 1) ++ xs.drop (off + (k + 1)) := by
  have hl : (xs.take off ++ ys.take k).length = off + k := by simp; omega
  rw [List.set_append_right _ _ (by omega), hl, Nat.sub_self, List.drop_eq_getElem_cons (by omega : off + k < xs.length), List.set_cons_zero, ha, gt_eq _ _ hk]
  have e : ys.take (k + 1) = ys.take k ++ [ys[k]] := List.take_succ_eq_append_getElem hk
  rw [e]
  simp [Nat.add_assoc, -List.take_append_getElem]
theorem be64_gt (n k : Nat) (hk : k < 8) : gt (be64 n) k = UInt8.ofNat (n / 2 ^ (56 - 8 * k)) := by
  rw [gt_eq _ _ (by rw [be64_length]; exact hk)]
  simp [be64]

set_option maxHeartbeats 1000000 in
theorem put64 (w : World) (g off len cap : Nat) (xs : Bs) (t : TypeId) (hg : w.heap[g]? = some (.cells (brow xs).toArray t (0, 0))) (h4 : 8 ≤ len) (hl : off + len ≤ xs.length) (n : Nat) (_hn : n < 18446744073709551616) :
    Calls Tryd.prog 99 #[.slice (some ⟨g, off, none⟩) len cap, .int .u64 (n : Int)] w fun e w' => e = .returned (.tuple #[]) ∧ w'.heap[g]? = some (.cells (brow (xs.take off ++ be64 n ++ xs.drop (off + 8))).toArray t (0, 0)) ∧ Chg [g] w w' := by
  have c7 := (blk_cell hg (off + 7)).trans (bv_cell xs (off + 7) (by omega))
  go_enter Tryd.func99, Tryd.ntmps99
  go_wp2
  clear c7
  go_loopw [4] (fun i wr => ∃ k : Nat, k ≤ 8 ∧ i = .int .i64 k ∧ wr.heap[g]? = some (.cells (brow (xs.take off ++ (be64 n).take k ++ xs.drop (off + k))).toArray t (0, 0)) ∧ Chg [g] w wr) (fun i _ => 8 - (intOf i).toNat)
  case atStart => exact ⟨0, by omega, rfl, by simpa using hg, Chg.refl _ _⟩
  case round =>
    obtain ⟨k, hk, rfl, hr, hchg⟩ := hrel
    have fg := fun j => blk_frozen hr j
    by_cases hlt : k < 8
    · have cg := (blk_cell hr (off + k)).trans (bv_cell _ (off + k) (by simp [be64_length]; omega))
      have hd : decide ((k : Int) < (8 : Int)) = true := decide_eq_true (by omega)
      have hb1 : (0 : Int) ≤ 56 - 8 * (k : Int) := by omega
      have hb2 : (56 : Int) - 8 * (k : Int) < 64 := by omega
      go_wp2
      go_roundw
      case rel =>
        refine ⟨k + 1, by omega, by go_num, ?_, hchg.setCell (.inl (by simp)) _⟩
        have e : (n : Int) / (2 : Int) ^ (56 - 8 * k) % (256 : Int) = ((gt (be64 n) k).toNat : Int) := by
          rw [be64_gt n k hlt, UInt8.toNat_ofNat']
          simp
        rw [e, blk_bset hr, set1 xs (be64 n) off k _ (by rw [be64_length]; exact hlt) rfl (by rw [be64_length]; omega)]
      case measure => simp [intOf]; omega
    · go_wp2
      go_end0
      obtain rfl : k = 8 := by omega
      rw [show (be64 n).take 8 = be64 n from List.take_of_length_le (by rw [be64_length]; exact Nat.le_refl _)] at hr
      exact ⟨rfl, hr, hchg⟩

theorem row4 (x : UInt32) : #[Value.int .u8 ((x.toNat : Int) / (16777216 : Int) % (256 : Int)), .int .u8 ((x.toNat : Int) / (65536 : Int) % (256 : Int)), .int .u8 ((x.toNat : Int) / (256 : Int) % (256 : Int)), .int .u8 ((x.toNat : Int) % (256 : Int))] = (brow (be4 x)).toArray := by
  rw [u32_byte24, u32_byte16, u32_byte8, u32_byte0]; rfl
theorem row8 (n : Nat) : #[Value.int .u8 ((n : Int) / (72057594037927936 : Int) % (256 : Int)), .int .u8 ((n : Int) / (281474976710656 : Int) % (256 : Int)), .int .u8 ((n : Int) / (1099511627776 : Int) % (256 : Int)), .int .u8 ((n : Int) / (4294967296 : Int) % (256 : Int)), .int .u8 ((n : Int) / (16777216 : Int) % (256 : Int)), .int .u8 ((n : Int) / (65536 : Int) % (256 : Int)), .int .u8 ((n : Int) / (256 : Int) % (256 : Int)), .int .u8 ((n : Int) % (256 : Int))] = (brow (be64 n)).toArray := by
  rw [be64_eq]
  simp [brow, bv]

theorem app32 (w : World) (v : Value) (xs : Bs) (hv : Own w v xs) (hb : xs.length ≤ 1000000) (x : UInt32) :
    Calls Tryd.prog 149 #[v, .int .u32 (x.toNat : Int)] w fun e w' => ∃ v', e = .returned v' ∧ Own w' v' (xs ++ be4 x) ∧ Chg v.ownBlock.toList w w' ∧ ∀ g, v'.ownBlock = some g → v.ownBlock = some g ∨ w.heap.size ≤ g := by
  go_enter Tryd.func149, Tryd.ntmps149
  go_wp2_with (at_builtin; refine append_bytes (ys := be4 x) (u := .slice (some ⟨w.heap.size, 0, none⟩) 4 4) rfl (.tmp 5) (.tmp 17) rfl rfl (hv.chg ((Chg.refl [] w).alloc _) (by simp)) rfl (lit_src w (be4 x) _ (row4 x) (by simp [be4])) (by simp [be4]; omega) ?_; intro v' w1 hown1 hchg1 hsame1 _)
  go_ret
  exact ⟨_, rfl, hown1, ((Chg.refl _ w).alloc _).trans hchg1, fun g hg => (hsame1 g hg).imp id fun h => by simp at h; omega⟩
set_option maxRecDepth 100000 in
theorem app64 (w : World) (v : Value) (xs : Bs) (hv : Own w v xs) (hb : xs.length ≤ 1000000) (n : Nat) :
    Calls Tryd.prog 150 #[v, .int .u64 (n : Int)] w fun e w' => ∃ v', e = .returned v' ∧ Own w' v' (xs ++ be64 n) ∧ Chg v.ownBlock.toList w w' ∧ ∀ g, v'.ownBlock = some g → v.ownBlock = some g ∨ w.heap.size ≤ g := by
  go_enter Tryd.func150, Tryd.ntmps150
  go_wp2_with (at_builtin; refine append_bytes (ys := be64 n) (u := .slice (some ⟨w.heap.size, 0, none⟩) 8 8) rfl (.tmp 5) (.tmp 29) rfl rfl (hv.chg ((Chg.refl [] w).alloc _) (by simp)) rfl (lit_src w (be64 n) _ (row8 n) (by simp [be64_length])) (by simp [be64_length]; omega) ?_; intro v' w1 hown1 hchg1 hsame1 _)
  go_ret
  exact ⟨_, rfl, hown1, ((Chg.refl _ w).alloc _).trans hchg1, fun g hg => (hsame1 g hg).imp id fun h => by simp at h; omega⟩

theorem get32 (w : World) (b off len cap : Nat) (ys : Bs) (h4 : 4 ≤ len) (hl : len ≤ ys.length) (hc : ∀ j, j < ys.length → w.cell? ⟨b, off + j, none⟩ = some (.int .u8 ((gt ys j).toNat : Int))) (x : UInt32) (hx : ys.take 4 = be4 x) :
    Calls Tryd.prog 151 #[.slice (some ⟨b, off, none⟩) len cap] w fun e w' => e = .returned (.int .u32 (x.toNat : Int)) ∧ ∃ n, w' = w.drewN n := by
  have g0 : gt ys 0 = (x >>> 24).toUInt8 := by rw [← gt_take ys 4 0 (by omega), hx]; rfl
  have g1 : gt ys 1 = (x >>> 16).toUInt8 := by rw [← gt_take ys 4 1 (by omega), hx]; rfl
  have g2 : gt ys 2 = (x >>> 8).toUInt8 := by rw [← gt_take ys 4 2 (by omega), hx]; rfl
  have g3 : gt ys 3 = x.toUInt8 := by rw [← gt_take ys 4 3 (by omega), hx]; rfl
  have G0 := Lib.hid g0
  have G1 := Lib.hid g1
  have G2 := Lib.hid g2
  have G3 := Lib.hid g3
  clear g0 g1 g2 g3 hx
  have c0 : w.cell? ⟨b, off, none⟩ = some (.int .u8 ((gt ys 0).toNat : Int)) := hc 0 (by omega)
  have c1 := hc 1 (by omega)
  have c2 := hc 2 (by omega)
  have c3 := hc 3 (by omega)
  clear hc
  have b0 : ((gt ys 0).toNat : Int) < 256 := by have := (gt ys 0).toNat_lt; omega
  have b1 : ((gt ys 1).toNat : Int) < 256 := by have := (gt ys 1).toNat_lt; omega
  have b2 : ((gt ys 2).toNat : Int) < 256 := by have := (gt ys 2).toNat_lt; omega
  have b3 : ((gt ys 3).toNat : Int) < 256 := by have := (gt ys 3).toNat_lt; omega
  go_enter Tryd.func151, Tryd.ntmps151
  go_wp2
  go_quiet (fail)
  go_wp2
  go_ret
  refine ⟨?_, _, rfl⟩
  have e := or32_val (gt ys 0) (gt ys 1) (gt ys 2) (gt ys 3)
  rw [G0.out, G1.out, G2.out, G3.out, be4_nat, ← G0.out, ← G1.out, ← G2.out, ← G3.out] at e
  exact congrArg (fun z => Ending.returned (Value.int .u32 z)) e
set_option maxRecDepth 100000 in
theorem get64 (w : World) (b off len cap : Nat) (ys : Bs) (h4 : 8 ≤ len) (hl : len ≤ ys.length) (hc : ∀ j, j < ys.length → w.cell? ⟨b, off + j, none⟩ = some (.int .u8 ((gt ys j).toNat : Int))) (x : Nat) (hx64 : x ≤ 1000000) (hx : ys.take 8 = be64 x) :
    Calls Tryd.prog 152 #[.slice (some ⟨b, off, none⟩) len cap] w fun e w' => e = .returned (.int .u64 (x : Int)) ∧ ∃ n, w' = w.drewN n := by
  rw [be64_eq] at hx
  have g0 : gt ys 0 = UInt8.ofNat (x / 72057594037927936) := by rw [← gt_take ys 8 0 (by omega), hx]; rfl
  have g1 : gt ys 1 = UInt8.ofNat (x / 281474976710656) := by rw [← gt_take ys 8 1 (by omega), hx]; rfl
  have g2 : gt ys 2 = UInt8.ofNat (x / 1099511627776) := by rw [← gt_take ys 8 2 (by omega), hx]; rfl
  have g3 : gt ys 3 = UInt8.ofNat (x / 4294967296) := by rw [← gt_take ys 8 3 (by omega), hx]; rfl
  have g4 : gt ys 4 = UInt8.ofNat (x / 16777216) := by rw [← gt_take ys 8 4 (by omega), hx]; rfl
  have g5 : gt ys 5 = UInt8.ofNat (x / 65536) := by rw [← gt_take ys 8 5 (by omega), hx]; rfl
  have g6 : gt ys 6 = UInt8.ofNat (x / 256) := by rw [← gt_take ys 8 6 (by omega), hx]; rfl
  have g7 : gt ys 7 = UInt8.ofNat x := by rw [← gt_take ys 8 7 (by omega), hx]; rfl
  have e := or64_val (gt ys 0) (gt ys 1) (gt ys 2) (gt ys 3) (gt ys 4) (gt ys 5) (gt ys 6) (gt ys 7)
  have e2 := be64_nat x (by omega)
  rw [← g0, ← g1, ← g2, ← g3, ← g4, ← g5, ← g6, ← g7] at e2
  rw [e2] at e
  have E := Lib.hid e
  clear g0 g1 g2 g3 g4 g5 g6 g7 hx e e2
  have c0 : w.cell? ⟨b, off, none⟩ = some (.int .u8 ((gt ys 0).toNat : Int)) := hc 0 (by omega)
  have c1 := hc 1 (by omega)
  have c2 := hc 2 (by omega)
  have c3 := hc 3 (by omega)
  have c4 := hc 4 (by omega)
  have c5 := hc 5 (by omega)
  have c6 := hc 6 (by omega)
  have c7 := hc 7 (by omega)
  clear hc
  have b0 : ((gt ys 0).toNat : Int) < 256 := by have := (gt ys 0).toNat_lt; omega
  have b1 : ((gt ys 1).toNat : Int) < 256 := by have := (gt ys 1).toNat_lt; omega
  have b2 : ((gt ys 2).toNat : Int) < 256 := by have := (gt ys 2).toNat_lt; omega
  have b3 : ((gt ys 3).toNat : Int) < 256 := by have := (gt ys 3).toNat_lt; omega
  have b4 : ((gt ys 4).toNat : Int) < 256 := by have := (gt ys 4).toNat_lt; omega
  have b5 : ((gt ys 5).toNat : Int) < 256 := by have := (gt ys 5).toNat_lt; omega
  have b6 : ((gt ys 6).toNat : Int) < 256 := by have := (gt ys 6).toNat_lt; omega
  have b7 : ((gt ys 7).toNat : Int) < 256 := by have := (gt ys 7).toNat_lt; omega
  go_enter Tryd.func152, Tryd.ntmps152
  go_wp2
  go_quiet (fail)
  go_wp2
  go_ret
  refine ⟨?_, _, rfl⟩
  exact congrArg (fun z => Ending.returned (Value.int .u64 z)) E.out
end Go.Proofs.YtknoomndofnnmaaDoor

namespace Go.Proofs.YtknoomndofnnmaaDoor
open Go Go.RowKit

theorem BS.str {S : List Nat} {w : World} {v : Value} {xs : Bs} (h : BS S w v xs) : (convert 24 9 v).run Tryd.prog w = .ok (.string ⟨xs.toArray⟩) w := by
  obtain ⟨a, c, rfl, h1, h2, h3, h⟩ := h
  cases a with
  | none =>
    have hx : xs = [] := List.eq_nil_of_length_eq_zero (by have := h3 rfl; omega)
    subst hx
    exact Lib.run_convert_nil_bytes w 24 9 5 c Tryd.underlying24 Tryd.underlying5 Tryd.underlying9
  | some ad =>
    refine run_convert_bytes_back w 24 9 5 ad c xs Tryd.underlying24 Tryd.underlying5 Tryd.underlying9 fun j hj => ?_
    rcases h with rfl | ⟨b, off, ha, hb, hc⟩
    · simp at hj
    · cases ha
      have : (⟨b, off, none⟩ : Addr).add j = ⟨b, off + j, none⟩ := by unfold Addr.add; split <;> simp_all
      rw [this, hc j hj, gt_eq xs j hj]
end Go.Proofs.YtknoomndofnnmaaDoor
