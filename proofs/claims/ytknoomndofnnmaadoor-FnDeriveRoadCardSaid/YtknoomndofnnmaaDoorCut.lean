/- Pieces of slices: behind a place, ahead of a place. -/
import Derived.Test.YtknoomndofnnmaaDoorBytes
namespace Go.Proofs.YtknoomndofnnmaaDoor
open Go Go.RowKit

theorem and_high (n : Nat) (hn : n < 2 ^ 31) : n &&& (2 ^ 64 - 1 - 63) = n / 64 * 64 := by
  apply Nat.eq_of_testBit_eq
  intro i
  have e1 : (2 ^ 64 - 1 - 63 : Nat) = (2 ^ 58 - 1) <<< 6 := by decide
  have e2 : n / 64 * 64 = (n >>> 6) <<< 6 := by rw [Nat.shiftRight_eq_div_pow, Nat.shiftLeft_eq]
  rw [e1, e2, Nat.testBit_and, Nat.testBit_shiftLeft, Nat.testBit_shiftLeft, Nat.testBit_two_pow_sub_one, Nat.testBit_shiftRight]
  by_cases h6 : 6 ≤ i
  · rw [show 6 + (i - 6) = i by omega]
    by_cases h : i - 6 < 58
    · simp [h6, h]
    · have : n.testBit i = false := Nat.testBit_lt_two_pow (Nat.lt_of_lt_of_le hn (Nat.pow_le_pow_right (by omega) (by omega)))
      simp [this]
  · simp [h6]
theorem andNot63 (n : Nat) (hn : n < 2147483648) : bits .andNot .i64 (n : Int) 63 = ((n / 64 * 64 : Nat) : Int) := by
  have ha : (BitVec.ofInt 64 (n : Int)).toNat = n := by rw [BitVec.toNat_ofInt]; omega
  have hb : (BitVec.ofInt 64 63).toNat = 63 := by decide
  show IntKind.i64.wrap ((BitVec.ofInt 64 (n : Int) &&& ~~~BitVec.ofInt 64 63).toNat : Int) = _
  rw [BitVec.toNat_and, BitVec.toNat_not, ha, hb, and_high n (by simpa using hn), IntKind.wrap_i64]
  omega

/-- Where a slice begins that is cut at n. -/
def cutO (a : Option Addr) (cap n : Nat) : Option Addr := if cap = n then a else a.map (·.add n)

theorem size_u8 (w : World) : (sizeOf 5).run Tryd.prog w = .ok 1 w := by kernel_rfl
theorem run_cut (a : Option Addr) (len cap n : Nat) (hn : n ≤ len) (w : World) :
    (Instr.slice 24 (.slice a len cap) (some (.int .i64 (n : Int))) none none).run Tryd.prog w = .ok (.slice (cutO a cap n) (len - n) (cap - n)) w := by
  rw [run_slice_l (P := Tryd.prog) w 24 a len cap (by kernel_rfl) .i64 (n : Int) (by omega) (by omega)]
  have := size_u8 w
  rw [show Tryd.prog.elem 24 = 5 from by kernel_rfl, this]
  simp [sliced, cutO]
theorem run_head (a : Option Addr) (len cap n : Nat) (hn : n ≤ cap) (w : World) :
    (Instr.slice 24 (.slice a len cap) none (some (.int .i64 (n : Int))) none).run Tryd.prog w = .ok (.slice a n cap) w := by
  rw [run_slice_h (P := Tryd.prog) w 24 a len cap (by kernel_rfl) .i64 (n : Int) (by omega) (by omega)]
  have := size_u8 w
  rw [show Tryd.prog.elem 24 = 5 from by kernel_rfl, this]
  cases a <;> simp [sliced, Addr.add]
theorem BS.cut {S : List Nat} {w : World} {a : Option Addr} {c : Nat} {xs : Bs} (h : BS S w (.slice a xs.length c) xs) (n : Nat) (hn : n ≤ xs.length) : BS S w (.slice (cutO a c n) (xs.length - n) (c - n)) (xs.drop n) := by
  obtain ⟨a', c', hv, h1, h2, h3, h⟩ := h
  cases hv
  refine ⟨cutO a c n, c - n, by simp, by simp; omega, by omega, fun he => ?_, ?_⟩
  · unfold cutO at he
    split at he
    · have := h3 he; omega
    · cases a with
      | none => have := h3 rfl; omega
      | some ad => simp at he
  · rcases h with rfl | ⟨b, off, rfl, hb, hc⟩
    · exact .inl (by simp)
    · by_cases hcn : c = n
      · exact .inl (List.drop_of_length_le (by omega))
      · refine .inr ⟨b, off + n, by simp [cutO, hcn, Addr.add], hb, fun j hj => ?_⟩
        rw [List.length_drop] at hj
        rw [gt_drop, Nat.add_assoc]
        exact hc (n + j) (by omega)
theorem BS.head {S : List Nat} {w : World} {a : Option Addr} {c : Nat} {xs : Bs} (h : BS S w (.slice a xs.length c) xs) (n : Nat) (hn : n ≤ xs.length) : BS S w (.slice a n c) (xs.take n) := by
  obtain ⟨a', c', hv, h1, h2, h3, h⟩ := h
  cases hv
  refine ⟨a, c, by simp [Nat.min_eq_left hn], by simp; omega, h2, h3, ?_⟩
  rcases h with rfl | ⟨b, off, rfl, hb, hc⟩
  · exact .inl (by simp)
  · refine .inr ⟨b, off, rfl, hb, fun j hj => ?_⟩
    rw [List.length_take] at hj
    rw [gt_take _ _ _ (by omega)]
    exact hc j (by omega)
end Go.Proofs.YtknoomndofnnmaaDoor
