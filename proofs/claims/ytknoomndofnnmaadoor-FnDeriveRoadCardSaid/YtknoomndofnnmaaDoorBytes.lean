/- Bytes and words: what shifts and ors of them yield; a row that is written out, as a source. -/
import Derived.Test.YtknoomndofnnmaaDoorCopy
import Derived.Test.YtknoomndofnnmaaDoorPlainC
import Derived.Laws.BitsAllLaws
namespace Go.Proofs.YtknoomndofnnmaaDoor
open Go Go.RowKit

theorem or_add (b a k : Nat) (hb : b < 2 ^ k) : b ||| a * 2 ^ k = a * 2 ^ k + b := by
  rw [Nat.or_comm, Nat.mul_comm a, Nat.two_pow_add_eq_or_of_lt hb]
theorem or32_val (a b c d : UInt8) : bits .or .u32 (bits .or .u32 (bits .or .u32 (d.toNat : Int) ((c.toNat : Int) * 256)) ((b.toNat : Int) * 65536)) ((a.toNat : Int) * 16777216)
    = ((a.toNat * 16777216 + b.toNat * 65536 + c.toNat * 256 + d.toNat : Nat) : Int) := by
  have ha := a.toNat_lt
  have hb := b.toNat_lt
  have hc := c.toNat_lt
  have hd := d.toNat_lt
  have e1 : ((c.toNat : Int) * 256) = ((c.toNat * 2 ^ 8 : Nat) : Int) := by simp
  have e2 : ((b.toNat : Int) * 65536) = ((b.toNat * 2 ^ 16 : Nat) : Int) := by simp
  have e3 : ((a.toNat : Int) * 16777216) = ((a.toNat * 2 ^ 24 : Nat) : Int) := by simp
  rw [e1, e2, e3, u32_or_nat _ _ (by omega) (by omega), or_add _ _ 8 (by omega), u32_or_nat _ _ (by omega) (by omega), or_add _ _ 16 (by omega), u32_or_nat _ _ (by omega) (by omega), or_add _ _ 24 (by omega)]
  omega
theorem or64_val (a b c d e f g h : UInt8) : bits .or .u64 (bits .or .u64 (bits .or .u64 (bits .or .u64 (bits .or .u64 (bits .or .u64 (bits .or .u64 (h.toNat : Int) ((g.toNat : Int) * 256)) ((f.toNat : Int) * 65536)) ((e.toNat : Int) * 16777216)) ((d.toNat : Int) * 4294967296)) ((c.toNat : Int) * 1099511627776)) ((b.toNat : Int) * 281474976710656)) ((a.toNat : Int) * 72057594037927936)
    = ((a.toNat * 72057594037927936 + b.toNat * 281474976710656 + c.toNat * 1099511627776 + d.toNat * 4294967296 + e.toNat * 16777216 + f.toNat * 65536 + g.toNat * 256 + h.toNat : Nat) : Int) := by
  have ha := a.toNat_lt
  have hb := b.toNat_lt
  have hc := c.toNat_lt
  have hd := d.toNat_lt
  have he := e.toNat_lt
  have hf := f.toNat_lt
  have hg := g.toNat_lt
  have hh := h.toNat_lt
  have e1 : ((g.toNat : Int) * 256) = ((g.toNat * 2 ^ 8 : Nat) : Int) := by simp
  have e2 : ((f.toNat : Int) * 65536) = ((f.toNat * 2 ^ 16 : Nat) : Int) := by simp
  have e3 : ((e.toNat : Int) * 16777216) = ((e.toNat * 2 ^ 24 : Nat) : Int) := by simp
  have e4 : ((d.toNat : Int) * 4294967296) = ((d.toNat * 2 ^ 32 : Nat) : Int) := by simp
  have e5 : ((c.toNat : Int) * 1099511627776) = ((c.toNat * 2 ^ 40 : Nat) : Int) := by simp
  have e6 : ((b.toNat : Int) * 281474976710656) = ((b.toNat * 2 ^ 48 : Nat) : Int) := by simp
  have e7 : ((a.toNat : Int) * 72057594037927936) = ((a.toNat * 2 ^ 56 : Nat) : Int) := by simp
  rw [e1, e2, e3, e4, e5, e6, e7]
  rw [u64_or_nat _ _ (by omega) (by omega), or_add _ _ 8 (by omega)]
  rw [u64_or_nat _ _ (by omega) (by omega), or_add _ _ 16 (by omega)]
  rw [u64_or_nat _ _ (by omega) (by omega), or_add _ _ 24 (by omega)]
  rw [u64_or_nat _ _ (by omega) (by omega), or_add _ _ 32 (by omega)]
  rw [u64_or_nat _ _ (by omega) (by omega), or_add _ _ 40 (by omega)]
  rw [u64_or_nat _ _ (by omega) (by omega), or_add _ _ 48 (by omega)]
  rw [u64_or_nat _ _ (by omega) (by omega), or_add _ _ 56 (by omega)]
  omega
theorem be4_nat (x : UInt32) : (x >>> 24).toUInt8.toNat * 16777216 + (x >>> 16).toUInt8.toNat * 65536 + (x >>> 8).toUInt8.toNat * 256 + x.toUInt8.toNat = x.toNat := by
  have hx := x.toNat_lt
  simp only [UInt32.toNat_toUInt8, UInt32.toNat_shiftRight]
  rw [show (24 : UInt32).toNat % 32 = 24 from rfl, show (16 : UInt32).toNat % 32 = 16 from rfl, show (8 : UInt32).toNat % 32 = 8 from rfl]
  simp only [Nat.shiftRight_eq_div_pow]
  omega
theorem u32_byte24 (x : UInt32) : ((x.toNat : Int) / (16777216 : Int)) % (256 : Int) = ((x >>> 24).toUInt8.toNat : Int) := by
  simp only [UInt32.toNat_toUInt8, UInt32.toNat_shiftRight, show (24 : UInt32).toNat % 32 = 24 from rfl, Nat.shiftRight_eq_div_pow]
  omega
theorem u32_byte16 (x : UInt32) : ((x.toNat : Int) / (65536 : Int)) % (256 : Int) = ((x >>> 16).toUInt8.toNat : Int) := by
  simp only [UInt32.toNat_toUInt8, UInt32.toNat_shiftRight, show (16 : UInt32).toNat % 32 = 16 from rfl, Nat.shiftRight_eq_div_pow]
  omega
theorem u32_byte8 (x : UInt32) : ((x.toNat : Int) / (256 : Int)) % (256 : Int) = ((x >>> 8).toUInt8.toNat : Int) := by
  simp only [UInt32.toNat_toUInt8, UInt32.toNat_shiftRight, show (8 : UInt32).toNat % 32 = 8 from rfl, Nat.shiftRight_eq_div_pow]
  omega
theorem u32_byte0 (x : UInt32) : (x.toNat : Int) % (256 : Int) = (x.toUInt8.toNat : Int) := by
  simp only [UInt32.toNat_toUInt8]
  omega
/-- The eight bytes of a number below 2^64, by name. -/
theorem be64_eq (v : Nat) : be64 v = [UInt8.ofNat (v / 72057594037927936), UInt8.ofNat (v / 281474976710656), UInt8.ofNat (v / 1099511627776), UInt8.ofNat (v / 4294967296), UInt8.ofNat (v / 16777216), UInt8.ofNat (v / 65536), UInt8.ofNat (v / 256), UInt8.ofNat v] := by
  simp [be64, List.range_succ]
theorem be64_nat (v : Nat) (hv : v < 18446744073709551616) : (UInt8.ofNat (v / 72057594037927936)).toNat * 72057594037927936 + (UInt8.ofNat (v / 281474976710656)).toNat * 281474976710656 + (UInt8.ofNat (v / 1099511627776)).toNat * 1099511627776 + (UInt8.ofNat (v / 4294967296)).toNat * 4294967296 + (UInt8.ofNat (v / 16777216)).toNat * 16777216 + (UInt8.ofNat (v / 65536)).toNat * 65536 + (UInt8.ofNat (v / 256)).toNat * 256 + (UInt8.ofNat v).toNat = v := by
  simp only [UInt8.toNat_ofNat']
  omega
theorem byte_ofNat (v k : Nat) : ((v : Int) / (k : Int)) % (256 : Int) = ((UInt8.ofNat (v / k)).toNat : Int) := by
  simp

/-- A row that is written out. -/
theorem lit_bs (w : World) (ys : Bs) (cs : Array Value) (h : cs = (brow ys).toArray) (hn : ys.length ≤ 1000000) (S : List Nat) (hS : ∀ k ∈ S, k < w.heap.size) :
    BS S (w.alloc (.cells cs 5)) (.slice (some ⟨w.heap.size, 0, none⟩) ys.length ys.length) ys := by
  subst h
  refine ⟨_, _, rfl, Nat.le_refl _, by unfold maxLen; omega, fun h => (by cases h), .inr ⟨_, 0, rfl, fun hm => by have := hS _ hm; omega, fun j hj => ?_⟩⟩
  rw [Nat.zero_add]
  exact (blk_cell (heap_alloc_new w _) j).trans (bv_cell ys j hj)
theorem lit_src (w : World) (ys : Bs) (cs : Array Value) (h : cs = (brow ys).toArray) (hn : ys.length ≤ 1000000) :
    Src Tryd.prog 1 24 (.slice (some ⟨w.heap.size, 0, none⟩) ys.length ys.length) ys.length (brow ys) (w.alloc (.cells cs 5)) :=
  (lit_bs w ys cs h hn [] (by simp)).src
end Go.Proofs.YtknoomndofnnmaaDoor
