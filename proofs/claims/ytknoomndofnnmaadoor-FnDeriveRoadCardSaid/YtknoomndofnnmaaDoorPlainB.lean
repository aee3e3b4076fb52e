/- Plain lists: SHA-256 whole, the two hashes under one name, HMAC, HKDF. No program in sight. No condition. -/
import Derived.Test.YtknoomndofnnmaaDoorPlain
namespace Go.Proofs.YtknoomndofnnmaaDoor

/-! ### SHA-256 whole -/
/-- What is left behind the whole blocks. -/
def shaRest (p : Bs) : Bs := p.drop (p.length / 64 * 64)
theorem shaRest_length (p : Bs) : (shaRest p).length = p.length % 64 := by simp [shaRest]; omega
theorem shaRest_small (p : Bs) (h : p.length < 64) : shaRest p = p := by unfold shaRest; rw [Nat.div_eq_of_lt h]; rfl
theorem shaRest_step (p : Bs) (h : 64 ≤ p.length) : shaRest p = shaRest (p.drop 64) := by
  unfold shaRest
  rw [List.length_drop, List.drop_drop]
  congr 1
  omega
theorem shaAll_append (K : List UInt32) : ∀ (n : Nat) (s : S8) (a b : Bs), a.length = n * 64 → shaAll K s (a ++ b) = shaAll K (shaAll K s a) b
  | 0, s, a, b, h => by
    obtain rfl : a = [] := List.eq_nil_of_length_eq_zero (by omega)
    rw [shaAll_small K s [] (by simp)]; rfl
  | n + 1, s, a, b, h => by
    have h1 : 64 ≤ a.length := by omega
    rw [shaAll_step K s (a ++ b) (by simp; omega), shaAll_step K s a h1, List.take_append_of_le_length h1, List.drop_append_of_le_length h1]
    exact shaAll_append K n _ _ _ (by simp; omega)
theorem shaAll_whole (K : List UInt32) (s : S8) (p : Bs) : shaAll K s p = shaAll K s (p.take (p.length / 64 * 64)) := by
  have h := shaAll_append K (p.length / 64) s (p.take (p.length / 64 * 64)) (p.drop (p.length / 64 * 64)) (by simp; omega)
  rw [List.take_append_drop] at h
  rw [h, shaAll_small _ _ (p.drop _) (by simp; omega)]
theorem shaAll_more (K : List UInt32) (s : S8) (p q : Bs) : shaAll K s (p ++ q) = shaAll K (shaAll K s p) (shaRest p ++ q) := by
  have h : p ++ q = p.take (p.length / 64 * 64) ++ (shaRest p ++ q) := by rw [← List.append_assoc]; unfold shaRest; rw [List.take_append_drop]
  rw [h, shaAll_append K (p.length / 64) s _ _ (by simp; omega), ← shaAll_whole]
theorem shaRest_append : ∀ (n : Nat) (a b : Bs), a.length = n * 64 → shaRest (a ++ b) = shaRest b
  | 0, a, b, h => by
    obtain rfl : a = [] := List.eq_nil_of_length_eq_zero (by omega)
    rfl
  | n + 1, a, b, h => by
    have h1 : 64 ≤ a.length := by omega
    rw [shaRest_step (a ++ b) (by simp; omega), List.drop_append_of_le_length h1]
    exact shaRest_append n _ _ (by simp; omega)
theorem shaRest_more (p q : Bs) : shaRest (p ++ q) = shaRest (shaRest p ++ q) := by
  have h : p ++ q = p.take (p.length / 64 * 64) ++ (shaRest p ++ q) := by rw [← List.append_assoc]; unfold shaRest; rw [List.take_append_drop]
  rw [h, shaRest_append (p.length / 64) _ _ (by simp; omega)]

def be64 (v : Nat) : Bs := (List.range 8).map fun i => UInt8.ofNat (v / 2 ^ (56 - 8 * i))
theorem be64_length (v : Nat) : (be64 v).length = 8 := by simp [be64]
/-- How many noughts stand ahead of the length, one byte 128 ahead of them counted in. -/
def shaPadN (n : Nat) : Nat := if n % 64 < 56 then 56 - n % 64 else 120 - n % 64
def shaPad (n : Nat) : Bs := (0x80 :: List.replicate (shaPadN n - 1) 0) ++ be64 (8 * n)
theorem shaPadN_pos (n : Nat) : 1 ≤ shaPadN n ∧ shaPadN n ≤ 64 := by unfold shaPadN; split <;> omega
theorem shaPad_length (n : Nat) : (shaPad n).length = shaPadN n + 8 := by
  have := shaPadN_pos n
  simp [shaPad, be64_length]; omega
theorem shaPad_whole (n : Nat) : (n + (shaPad n).length) % 64 = 0 := by
  rw [shaPad_length]; unfold shaPadN; split <;> omega
def be4 (x : UInt32) : Bs := [(x >>> 24).toUInt8, (x >>> 16).toUInt8, (x >>> 8).toUInt8, x.toUInt8]
def shaBytes (s : S8) : Bs := be4 s.a ++ be4 s.b ++ be4 s.c ++ be4 s.d ++ be4 s.e ++ be4 s.f ++ be4 s.g ++ be4 s.h
def shaSum (K : List UInt32) (d : Bs) : Bs := shaBytes (shaAll K shaInit (d ++ shaPad d.length))
theorem shaSum_length (K : List UInt32) (d : Bs) : (shaSum K d).length = 32 := rfl

/-! ### a hash by its sizes and its function -/
structure HF where
  sz : Nat
  bk : Nat
  sum : Bs → Bs
structure HF.Ok (H : HF) : Prop where
  len : ∀ d, (H.sum d).length = H.sz
  pos : 1 ≤ H.sz
  le : H.sz ≤ H.bk
  sz32 : H.sz ≤ 32
  bk64 : H.bk ≤ 64

def shaF (K : List UInt32) : HF := ⟨32, 64, shaSum K⟩
def ownF (sz bk : Nat) : HF := ⟨sz, bk, ownSum sz⟩
theorem shaF_ok (K : List UInt32) : (shaF K).Ok := ⟨shaSum_length K, Nat.le_of_ble_eq_true rfl, Nat.le_of_ble_eq_true rfl, Nat.le_of_ble_eq_true rfl, Nat.le_of_ble_eq_true rfl⟩
theorem ownF_ok {sz bk : Nat} (h1 : 1 ≤ sz) (h2 : sz ≤ 16) (h3 : sz ≤ bk) (h4 : bk ≤ 32) : (ownF sz bk).Ok := ⟨ownSum_length sz, h1, h3, by show sz ≤ 32; omega, by show bk ≤ 64; omega⟩

section
variable (H : HF)
def key0 (key : Bs) : Bs := if H.bk < key.length then H.sum key else key
def padTo (n : Nat) (key : Bs) : Bs := key ++ List.replicate (n - key.length) 0
def padX (key : Bs) (x : UInt8) : Bs := (padTo H.bk (key0 H key)).map (· ^^^ x)
def mac (key data : Bs) : Bs := H.sum (padX H key 0x5c ++ H.sum (padX H key 0x36 ++ data))
def zeros : Bs := List.replicate H.sz 0
def orZeros (s : Bs) : Bs := if s = [] then zeros H else s
def extractF (secret salt : Bs) : Bs := mac H (orZeros H salt) secret
/-- All that came out in k rounds, and the last of it. -/
def expN (prk info : Bs) : Nat → Bs × Bs
  | 0 => ([], [])
  | k + 1 => ((expN prk info k).1 ++ mac H prk ((expN prk info k).2 ++ info ++ [UInt8.ofNat (k + 1)]), mac H prk ((expN prk info k).2 ++ info ++ [UInt8.ofNat (k + 1)]))
def expandF (prk info : Bs) (n : Nat) : Bs := (expN H prk info ((n + H.sz - 1) / H.sz)).1.take n
def tls13 : Bs := [116, 108, 115, 49, 51, 32]
def labelInfo (label context : Bs) (n : Nat) : Bs :=
  [UInt8.ofNat (n / 256), UInt8.ofNat n, UInt8.ofNat (6 + label.length)] ++ (tls13 ++ label) ++ [UInt8.ofNat context.length] ++ context
def expandLabelF (secret label context : Bs) (n : Nat) : Bs := expandF H secret (labelInfo label context n) n
def deriveF (secret label messages : Bs) : Bs := expandLabelF H secret label (H.sum messages) H.sz
def derivedL : Bs := [100, 101, 114, 105, 118, 101, 100]
def earlyF (psk : Bs) : Bs := extractF H (orZeros H psk) []
def handshakeF (psk shared : Bs) : Bs := extractF H (orZeros H shared) (deriveF H (earlyF H psk) derivedL [])
def masterF (psk shared : Bs) : Bs := extractF H (zeros H) (deriveF H (handshakeF H psk shared) derivedL [])
def exporterL : Bs := [101, 120, 112, 111, 114, 116, 101, 114]
def exportedF (secret label context : Bs) (n : Nat) : Bs := expandLabelF H (deriveF H secret label []) exporterL (H.sum context) n
end

theorem key0_length {H : HF} (h : H.Ok) (key : Bs) : (key0 H key).length ≤ H.bk := by
  unfold key0
  split
  · rw [h.len]; exact h.le
  · omega
theorem padX_length {H : HF} (h : H.Ok) (key : Bs) (x : UInt8) : (padX H key x).length = H.bk := by
  have := key0_length h key
  simp [padX, padTo]; omega
theorem mac_length {H : HF} (h : H.Ok) (key data : Bs) : (mac H key data).length = H.sz := h.len _
theorem expN_length {H : HF} (h : H.Ok) (prk info : Bs) : ∀ k, (expN H prk info k).1.length = k * H.sz
  | 0 => by simp [expN]
  | k + 1 => by simp [expN, expN_length h prk info k, mac_length h, Nat.add_mul]
theorem expN_last {H : HF} (h : H.Ok) (prk info : Bs) (k : Nat) : (expN H prk info (k + 1)).2.length = H.sz := mac_length h _ _
theorem expN_prefix {H : HF} (h : H.Ok) (prk info : Bs) (j : Nat) : ∀ d, (expN H prk info (j + d)).1.take (j * H.sz) = (expN H prk info j).1
  | 0 => by rw [← expN_length h prk info j]; exact List.take_length
  | d + 1 => by
    rw [show j + (d + 1) = (j + d) + 1 by omega, expN]
    rw [List.take_append_of_le_length (by rw [expN_length h]; exact Nat.mul_le_mul_right _ (by omega)), expN_prefix h prk info j d]
/-- Whatever the number of rounds, if it is enough. -/
theorem expandF_of {H : HF} (h : H.Ok) (prk info : Bs) (n k : Nat) (hk : n ≤ k * H.sz) : (expN H prk info k).1.take n = expandF H prk info n := by
  unfold expandF
  have hp := h.pos
  have h1 : n ≤ (n + H.sz - 1) / H.sz * H.sz := by
    have := Nat.div_add_mod (n + H.sz - 1) H.sz
    have := Nat.mod_lt (n + H.sz - 1) (y := H.sz) (by omega)
    rw [Nat.mul_comm]; omega
  have hle : (n + H.sz - 1) / H.sz ≤ k := by
    rw [Nat.div_le_iff_le_mul_add_pred (by omega), Nat.mul_comm]; omega
  obtain ⟨d, rfl⟩ := Nat.exists_eq_add_of_le hle
  generalize (n + H.sz - 1) / H.sz = j at *
  rw [← expN_prefix h prk info j d, List.take_take, Nat.min_eq_left h1]
theorem expandF_length {H : HF} (h : H.Ok) (prk info : Bs) (n : Nat) : (expandF H prk info n).length = n := by
  rw [← expandF_of h prk info n n (Nat.le_mul_of_pos_right n h.pos), List.length_take, expN_length h, Nat.min_eq_left (Nat.le_mul_of_pos_right n h.pos)]
theorem deriveF_length {H : HF} (h : H.Ok) (secret label messages : Bs) : (deriveF H secret label messages).length = H.sz := expandF_length h _ _ _
theorem extractF_length {H : HF} (h : H.Ok) (a b : Bs) : (extractF H a b).length = H.sz := mac_length h _ _
theorem zeros_length (H : HF) : (zeros H).length = H.sz := by simp [zeros]
theorem orZeros_zeros (H : HF) : orZeros H (zeros H) = zeros H := by
  unfold orZeros
  split
  · rfl
  · rfl
end Go.Proofs.YtknoomndofnnmaaDoor
