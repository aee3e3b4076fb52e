/- SHA-256: words and small functions. -/
import Derived.Test.YtknoomndofnnmaaDoorYMem
namespace Go.Proofs.YtknoomndofnnmaaDoor
open Go Go.RowKit
/-- A word as a value. -/
def wv (x : UInt32) : Value := .int .u32 (x.toNat : Int)

theorem rot_val (x : UInt32) (n : Nat) (h0 : 0 < n) (h1 : n < 32) (A B : Int) (hA : A = ((x.toNat / 2 ^ n : Nat) : Int)) (hB : B = ((x.toNat * 2 ^ (32 - n) % 4294967296 : Nat) : Int)) :
    bits .or .u32 A B = ((rotr x (UInt32.ofNat n)).toNat : Int) ∧ bits .or .u32 B A = ((rotr x (UInt32.ofNat n)).toNat : Int) := by
  subst hA hB
  have hx := x.toNat_lt
  have h2 : x.toNat / 2 ^ n < 4294967296 := Nat.lt_of_le_of_lt (Nat.div_le_self _ _) hx
  have h3 : x.toNat * 2 ^ (32 - n) % 4294967296 < 4294967296 := Nat.mod_lt _ (by omega)
  have e : (rotr x (UInt32.ofNat n)).toNat = x.toNat / 2 ^ n ||| x.toNat * 2 ^ (32 - n) % 4294967296 := by
    unfold rotr
    rw [UInt32.toNat_or, UInt32.toNat_shiftRight, UInt32.toNat_shiftLeft]
    have e1 : (UInt32.ofNat n).toNat = n := by simp; omega
    have e2 : (32 - UInt32.ofNat n).toNat = 32 - n := by
      rw [UInt32.toNat_sub_of_le]
      · rw [e1]; rfl
      · rw [UInt32.le_iff_toNat_le, e1]; simp; omega
    rw [e1, e2, Nat.shiftRight_eq_div_pow, Nat.shiftLeft_eq, Nat.mod_eq_of_lt h1, Nat.mod_eq_of_lt (show 32 - n < 32 by omega)]
  refine ⟨?_, ?_⟩
  · rw [u32_or_nat _ _ h2 h3, e]
  · rw [u32_or_nat _ _ h3 h2, e, Nat.or_comm]

theorem rotl2 (x : UInt32) (w : World) : Calls Tryd.prog 115 #[.int .u32 (x.toNat : Int), .int .i64 (-2)] w fun e w' => e = .returned (.int .u32 ((rotr x 2).toNat : Int)) ∧ w' = w := by
  have hk : bits .and .u64 (IntKind.u64.wrap (-2)) 31 = 30 := by decide
  go_enter Tryd.func115, Tryd.ntmps115
  go_wp2
  go_ret
  have e := (rot_val x 2 (by omega) (by omega) _ ((x.toNat : Int) * 1073741824 % 4294967296) rfl (by simp)).2
  refine ⟨?_, rfl⟩
  rw [show UInt32.ofNat 2 = 2 from rfl] at e
  rw [← e]
  simp
theorem turn2 (x : UInt32) (w : World) : Calls Tryd.prog 101 #[.int .u32 (x.toNat : Int), .int .i64 2] w fun e w' => e = .returned (.int .u32 ((rotr x 2).toNat : Int)) ∧ ∃ n, w' = w.drewN n := by
  go_enter Tryd.func101, Tryd.ntmps101
  go_wp2
  go_quiet (fail)
  go_wp2
  go_ret
  have e := (rot_val x 2 (by omega) (by omega) _ ((x.toNat : Int) * 1073741824 % 4294967296) rfl (by simp)).1
  refine ⟨?_, _, rfl⟩
  rw [show UInt32.ofNat 2 = 2 from rfl] at e
  rw [← e]
  simp

theorem rotl6 (x : UInt32) (w : World) : Calls Tryd.prog 115 #[.int .u32 (x.toNat : Int), .int .i64 (-6)] w fun e w' => e = .returned (.int .u32 ((rotr x 6).toNat : Int)) ∧ w' = w := by
  have hk : bits .and .u64 (IntKind.u64.wrap (-6)) 31 = 26 := by decide
  go_enter Tryd.func115, Tryd.ntmps115
  go_wp2
  go_ret
  have e := (rot_val x 6 (by omega) (by omega) _ ((x.toNat : Int) * 67108864 % 4294967296) rfl (by simp)).2
  refine ⟨?_, rfl⟩
  rw [show UInt32.ofNat 6 = 6 from rfl] at e
  rw [← e]
  simp
theorem turn6 (x : UInt32) (w : World) : Calls Tryd.prog 101 #[.int .u32 (x.toNat : Int), .int .i64 6] w fun e w' => e = .returned (.int .u32 ((rotr x 6).toNat : Int)) ∧ ∃ n, w' = w.drewN n := by
  go_enter Tryd.func101, Tryd.ntmps101
  go_wp2
  go_quiet (fail)
  go_wp2
  go_ret
  have e := (rot_val x 6 (by omega) (by omega) _ ((x.toNat : Int) * 67108864 % 4294967296) rfl (by simp)).1
  refine ⟨?_, _, rfl⟩
  rw [show UInt32.ofNat 6 = 6 from rfl] at e
  rw [← e]
  simp

theorem rotl7 (x : UInt32) (w : World) : Calls Tryd.prog 115 #[.int .u32 (x.toNat : Int), .int .i64 (-7)] w fun e w' => e = .returned (.int .u32 ((rotr x 7).toNat : Int)) ∧ w' = w := by
  have hk : bits .and .u64 (IntKind.u64.wrap (-7)) 31 = 25 := by decide
  go_enter Tryd.func115, Tryd.ntmps115
  go_wp2
  go_ret
  have e := (rot_val x 7 (by omega) (by omega) _ ((x.toNat : Int) * 33554432 % 4294967296) rfl (by simp)).2
  refine ⟨?_, rfl⟩
  rw [show UInt32.ofNat 7 = 7 from rfl] at e
  rw [← e]
  simp
theorem turn7 (x : UInt32) (w : World) : Calls Tryd.prog 101 #[.int .u32 (x.toNat : Int), .int .i64 7] w fun e w' => e = .returned (.int .u32 ((rotr x 7).toNat : Int)) ∧ ∃ n, w' = w.drewN n := by
  go_enter Tryd.func101, Tryd.ntmps101
  go_wp2
  go_quiet (fail)
  go_wp2
  go_ret
  have e := (rot_val x 7 (by omega) (by omega) _ ((x.toNat : Int) * 33554432 % 4294967296) rfl (by simp)).1
  refine ⟨?_, _, rfl⟩
  rw [show UInt32.ofNat 7 = 7 from rfl] at e
  rw [← e]
  simp

theorem rotl11 (x : UInt32) (w : World) : Calls Tryd.prog 115 #[.int .u32 (x.toNat : Int), .int .i64 (-11)] w fun e w' => e = .returned (.int .u32 ((rotr x 11).toNat : Int)) ∧ w' = w := by
  have hk : bits .and .u64 (IntKind.u64.wrap (-11)) 31 = 21 := by decide
  go_enter Tryd.func115, Tryd.ntmps115
  go_wp2
  go_ret
  have e := (rot_val x 11 (by omega) (by omega) _ ((x.toNat : Int) * 2097152 % 4294967296) rfl (by simp)).2
  refine ⟨?_, rfl⟩
  rw [show UInt32.ofNat 11 = 11 from rfl] at e
  rw [← e]
  simp
theorem turn11 (x : UInt32) (w : World) : Calls Tryd.prog 101 #[.int .u32 (x.toNat : Int), .int .i64 11] w fun e w' => e = .returned (.int .u32 ((rotr x 11).toNat : Int)) ∧ ∃ n, w' = w.drewN n := by
  go_enter Tryd.func101, Tryd.ntmps101
  go_wp2
  go_quiet (fail)
  go_wp2
  go_ret
  have e := (rot_val x 11 (by omega) (by omega) _ ((x.toNat : Int) * 2097152 % 4294967296) rfl (by simp)).1
  refine ⟨?_, _, rfl⟩
  rw [show UInt32.ofNat 11 = 11 from rfl] at e
  rw [← e]
  simp

theorem rotl13 (x : UInt32) (w : World) : Calls Tryd.prog 115 #[.int .u32 (x.toNat : Int), .int .i64 (-13)] w fun e w' => e = .returned (.int .u32 ((rotr x 13).toNat : Int)) ∧ w' = w := by
  have hk : bits .and .u64 (IntKind.u64.wrap (-13)) 31 = 19 := by decide
  go_enter Tryd.func115, Tryd.ntmps115
  go_wp2
  go_ret
  have e := (rot_val x 13 (by omega) (by omega) _ ((x.toNat : Int) * 524288 % 4294967296) rfl (by simp)).2
  refine ⟨?_, rfl⟩
  rw [show UInt32.ofNat 13 = 13 from rfl] at e
  rw [← e]
  simp
theorem turn13 (x : UInt32) (w : World) : Calls Tryd.prog 101 #[.int .u32 (x.toNat : Int), .int .i64 13] w fun e w' => e = .returned (.int .u32 ((rotr x 13).toNat : Int)) ∧ ∃ n, w' = w.drewN n := by
  go_enter Tryd.func101, Tryd.ntmps101
  go_wp2
  go_quiet (fail)
  go_wp2
  go_ret
  have e := (rot_val x 13 (by omega) (by omega) _ ((x.toNat : Int) * 524288 % 4294967296) rfl (by simp)).1
  refine ⟨?_, _, rfl⟩
  rw [show UInt32.ofNat 13 = 13 from rfl] at e
  rw [← e]
  simp

theorem rotl17 (x : UInt32) (w : World) : Calls Tryd.prog 115 #[.int .u32 (x.toNat : Int), .int .i64 (-17)] w fun e w' => e = .returned (.int .u32 ((rotr x 17).toNat : Int)) ∧ w' = w := by
  have hk : bits .and .u64 (IntKind.u64.wrap (-17)) 31 = 15 := by decide
  go_enter Tryd.func115, Tryd.ntmps115
  go_wp2
  go_ret
  have e := (rot_val x 17 (by omega) (by omega) _ ((x.toNat : Int) * 32768 % 4294967296) rfl (by simp)).2
  refine ⟨?_, rfl⟩
  rw [show UInt32.ofNat 17 = 17 from rfl] at e
  rw [← e]
  simp
theorem turn17 (x : UInt32) (w : World) : Calls Tryd.prog 101 #[.int .u32 (x.toNat : Int), .int .i64 17] w fun e w' => e = .returned (.int .u32 ((rotr x 17).toNat : Int)) ∧ ∃ n, w' = w.drewN n := by
  go_enter Tryd.func101, Tryd.ntmps101
  go_wp2
  go_quiet (fail)
  go_wp2
  go_ret
  have e := (rot_val x 17 (by omega) (by omega) _ ((x.toNat : Int) * 32768 % 4294967296) rfl (by simp)).1
  refine ⟨?_, _, rfl⟩
  rw [show UInt32.ofNat 17 = 17 from rfl] at e
  rw [← e]
  simp

theorem rotl18 (x : UInt32) (w : World) : Calls Tryd.prog 115 #[.int .u32 (x.toNat : Int), .int .i64 (-18)] w fun e w' => e = .returned (.int .u32 ((rotr x 18).toNat : Int)) ∧ w' = w := by
  have hk : bits .and .u64 (IntKind.u64.wrap (-18)) 31 = 14 := by decide
  go_enter Tryd.func115, Tryd.ntmps115
  go_wp2
  go_ret
  have e := (rot_val x 18 (by omega) (by omega) _ ((x.toNat : Int) * 16384 % 4294967296) rfl (by simp)).2
  refine ⟨?_, rfl⟩
  rw [show UInt32.ofNat 18 = 18 from rfl] at e
  rw [← e]
  simp
theorem turn18 (x : UInt32) (w : World) : Calls Tryd.prog 101 #[.int .u32 (x.toNat : Int), .int .i64 18] w fun e w' => e = .returned (.int .u32 ((rotr x 18).toNat : Int)) ∧ ∃ n, w' = w.drewN n := by
  go_enter Tryd.func101, Tryd.ntmps101
  go_wp2
  go_quiet (fail)
  go_wp2
  go_ret
  have e := (rot_val x 18 (by omega) (by omega) _ ((x.toNat : Int) * 16384 % 4294967296) rfl (by simp)).1
  refine ⟨?_, _, rfl⟩
  rw [show UInt32.ofNat 18 = 18 from rfl] at e
  rw [← e]
  simp

theorem rotl19 (x : UInt32) (w : World) : Calls Tryd.prog 115 #[.int .u32 (x.toNat : Int), .int .i64 (-19)] w fun e w' => e = .returned (.int .u32 ((rotr x 19).toNat : Int)) ∧ w' = w := by
  have hk : bits .and .u64 (IntKind.u64.wrap (-19)) 31 = 13 := by decide
  go_enter Tryd.func115, Tryd.ntmps115
  go_wp2
  go_ret
  have e := (rot_val x 19 (by omega) (by omega) _ ((x.toNat : Int) * 8192 % 4294967296) rfl (by simp)).2
  refine ⟨?_, rfl⟩
  rw [show UInt32.ofNat 19 = 19 from rfl] at e
  rw [← e]
  simp
theorem turn19 (x : UInt32) (w : World) : Calls Tryd.prog 101 #[.int .u32 (x.toNat : Int), .int .i64 19] w fun e w' => e = .returned (.int .u32 ((rotr x 19).toNat : Int)) ∧ ∃ n, w' = w.drewN n := by
  go_enter Tryd.func101, Tryd.ntmps101
  go_wp2
  go_quiet (fail)
  go_wp2
  go_ret
  have e := (rot_val x 19 (by omega) (by omega) _ ((x.toNat : Int) * 8192 % 4294967296) rfl (by simp)).1
  refine ⟨?_, _, rfl⟩
  rw [show UInt32.ofNat 19 = 19 from rfl] at e
  rw [← e]
  simp

theorem rotl22 (x : UInt32) (w : World) : Calls Tryd.prog 115 #[.int .u32 (x.toNat : Int), .int .i64 (-22)] w fun e w' => e = .returned (.int .u32 ((rotr x 22).toNat : Int)) ∧ w' = w := by
  have hk : bits .and .u64 (IntKind.u64.wrap (-22)) 31 = 10 := by decide
  go_enter Tryd.func115, Tryd.ntmps115
  go_wp2
  go_ret
  have e := (rot_val x 22 (by omega) (by omega) _ ((x.toNat : Int) * 1024 % 4294967296) rfl (by simp)).2
  refine ⟨?_, rfl⟩
  rw [show UInt32.ofNat 22 = 22 from rfl] at e
  rw [← e]
  simp
theorem turn22 (x : UInt32) (w : World) : Calls Tryd.prog 101 #[.int .u32 (x.toNat : Int), .int .i64 22] w fun e w' => e = .returned (.int .u32 ((rotr x 22).toNat : Int)) ∧ ∃ n, w' = w.drewN n := by
  go_enter Tryd.func101, Tryd.ntmps101
  go_wp2
  go_quiet (fail)
  go_wp2
  go_ret
  have e := (rot_val x 22 (by omega) (by omega) _ ((x.toNat : Int) * 1024 % 4294967296) rfl (by simp)).1
  refine ⟨?_, _, rfl⟩
  rw [show UInt32.ofNat 22 = 22 from rfl] at e
  rw [← e]
  simp

theorem rotl25 (x : UInt32) (w : World) : Calls Tryd.prog 115 #[.int .u32 (x.toNat : Int), .int .i64 (-25)] w fun e w' => e = .returned (.int .u32 ((rotr x 25).toNat : Int)) ∧ w' = w := by
  have hk : bits .and .u64 (IntKind.u64.wrap (-25)) 31 = 7 := by decide
  go_enter Tryd.func115, Tryd.ntmps115
  go_wp2
  go_ret
  have e := (rot_val x 25 (by omega) (by omega) _ ((x.toNat : Int) * 128 % 4294967296) rfl (by simp)).2
  refine ⟨?_, rfl⟩
  rw [show UInt32.ofNat 25 = 25 from rfl] at e
  rw [← e]
  simp
theorem turn25 (x : UInt32) (w : World) : Calls Tryd.prog 101 #[.int .u32 (x.toNat : Int), .int .i64 25] w fun e w' => e = .returned (.int .u32 ((rotr x 25).toNat : Int)) ∧ ∃ n, w' = w.drewN n := by
  go_enter Tryd.func101, Tryd.ntmps101
  go_wp2
  go_quiet (fail)
  go_wp2
  go_ret
  have e := (rot_val x 25 (by omega) (by omega) _ ((x.toNat : Int) * 128 % 4294967296) rfl (by simp)).1
  refine ⟨?_, _, rfl⟩
  rw [show UInt32.ofNat 25 = 25 from rfl] at e
  rw [← e]
  simp

theorem rotl_any (x : UInt32) (k : Int) (w : World) (hk : k = -2 ∨ k = -6 ∨ k = -7 ∨ k = -11 ∨ k = -13 ∨ k = -17 ∨ k = -18 ∨ k = -19 ∨ k = -22 ∨ k = -25) :
    Calls Tryd.prog 115 #[.int .u32 (x.toNat : Int), .int .i64 k] w fun e w' => e = .returned (.int .u32 ((rotr x (UInt32.ofNat (-k).toNat)).toNat : Int)) ∧ w' = w := by
  rcases hk with rfl | rfl | rfl | rfl | rfl | rfl | rfl | rfl | rfl | rfl
  · exact rotl2 x w
  · exact rotl6 x w
  · exact rotl7 x w
  · exact rotl11 x w
  · exact rotl13 x w
  · exact rotl17 x w
  · exact rotl18 x w
  · exact rotl19 x w
  · exact rotl22 x w
  · exact rotl25 x w
theorem turn_any (x : UInt32) (k : Int) (w : World) (hk : k = 2 ∨ k = 6 ∨ k = 7 ∨ k = 11 ∨ k = 13 ∨ k = 17 ∨ k = 18 ∨ k = 19 ∨ k = 22 ∨ k = 25) :
    Calls Tryd.prog 101 #[.int .u32 (x.toNat : Int), .int .i64 k] w fun e w' => e = .returned (.int .u32 ((rotr x (UInt32.ofNat k.toNat)).toNat : Int)) ∧ ∃ n, w' = w.drewN n := by
  rcases hk with rfl | rfl | rfl | rfl | rfl | rfl | rfl | rfl | rfl | rfl
  · exact turn2 x w
  · exact turn6 x w
  · exact turn7 x w
  · exact turn11 x w
  · exact turn13 x w
  · exact turn17 x w
  · exact turn18 x w
  · exact turn19 x w
  · exact turn22 x w
  · exact turn25 x w

end Go.Proofs.YtknoomndofnnmaaDoor
