/- Plain lists and numbers: the hash of the thin package, SHA-256, HMAC, HKDF, P_hash. No program in sight. No condition. Plain lists: SHA-256 whole, the two hashes under one name, HMAC, HKDF. No program in sight. No condition. Plain lists: P_hash. No program in sight. No condition. Plain lists: the reference's SHA-256 (padding, blocks, bytes), step by step. No program in sight. No condition. -/
import Derived.KernelRfl
namespace Go.Proofs.YtknoomndofnnmaaDoor

abbrev Bs := List UInt8

/-- The byte at a place (a name of its own, so that no simp respells it). -/
def gt (xs : Bs) (i : Nat) : UInt8 := xs.getD i 0
theorem gt_eq (xs : Bs) (i : Nat) (h : i < xs.length) : gt xs i = xs[i] := by simp [gt, h]

/-! ### the thin package's own hash -/
def ownMix (sz : Nat) (st : Bs) (n : Nat) (b : UInt8) : Bs := st.set (n % sz) (31 * gt st (n % sz) + b + UInt8.ofNat n)
def ownStep (sz : Nat) (st : Bs) (n : Nat) (b : UInt8) : Bs :=
  (ownMix sz st n b).set ((n + 1) % sz) (gt (ownMix sz st n b) ((n + 1) % sz) ^^^ gt (ownMix sz st n b) (n % sz))
def ownFrom (sz : Nat) : Nat → Bs → Bs → Bs
  | _, st, [] => st
  | n, st, b :: r => ownFrom sz (n + 1) (ownStep sz st n b) r
def ownInit (sz : Nat) : Bs := (List.range sz).map UInt8.ofNat
def ownState (sz : Nat) (data : Bs) : Bs := ownFrom sz 0 (ownInit sz) data
def ownSum (sz : Nat) (data : Bs) : Bs := (ownState sz data).map (· + UInt8.ofNat data.length)

theorem ownFrom_append (sz : Nat) : ∀ (n : Nat) (st d e : Bs), ownFrom sz n st (d ++ e) = ownFrom sz (n + d.length) (ownFrom sz n st d) e
  | n, st, [], e => rfl
  | n, st, b :: r, e => by
    simp only [List.cons_append, ownFrom, ownFrom_append sz (n + 1) _ r e, List.length_cons]
    rw [show n + 1 + r.length = n + (r.length + 1) by omega]
theorem ownState_snoc (sz : Nat) (d : Bs) (b : UInt8) : ownState sz (d ++ [b]) = ownStep sz (ownState sz d) d.length b := by
  simp [ownState, ownFrom_append, ownFrom]
theorem ownStep_length (sz : Nat) (st : Bs) (n : Nat) (b : UInt8) : (ownStep sz st n b).length = st.length := by simp [ownStep, ownMix]
theorem ownMix_length (sz : Nat) (st : Bs) (n : Nat) (b : UInt8) : (ownMix sz st n b).length = st.length := by simp [ownMix]
theorem ownFrom_length (sz : Nat) : ∀ (n : Nat) (st d : Bs), (ownFrom sz n st d).length = st.length
  | _, _, [] => rfl
  | n, st, b :: r => by rw [ownFrom, ownFrom_length, ownStep_length]
theorem ownState_length (sz : Nat) (d : Bs) : (ownState sz d).length = sz := by simp [ownState, ownFrom_length, ownInit]
theorem ownSum_length (sz : Nat) (d : Bs) : (ownSum sz d).length = sz := by simp [ownSum, ownState_length]
theorem ownInit_step (sz k : Nat) (st : Bs) (hl : st.length = sz) (hk : k < sz) :
    ((List.range k).map UInt8.ofNat ++ st.drop k).set k (UInt8.ofNat k) = (List.range (k + 1)).map UInt8.ofNat ++ st.drop (k + 1) := by
  rw [List.set_append_right _ _ (by simp)]
  rw [List.drop_eq_getElem_cons (by omega : k < st.length)]
  simp [List.range_succ, -List.getElem_cons_drop]
theorem ownSum_step (k : Nat) (st : Bs) (c : UInt8) (hk : k < st.length) :
    ((st.take k).map (· + c) ++ st.drop k).set k (gt st k + c) = (st.take (k + 1)).map (· + c) ++ st.drop (k + 1) := by
  rw [List.set_append_right _ _ (by simp; omega)]
  rw [List.drop_eq_getElem_cons hk, gt_eq st k hk]
  have e : (st.take (k + 1)).map (· + c) = (st.take k).map (· + c) ++ [st[k] + c] := by rw [List.take_succ_eq_append_getElem hk, List.map_append]; rfl
  rw [e]
  simp [Nat.min_eq_left (Nat.le_of_lt hk), -List.getElem_cons_drop, -List.map_take]

theorem take_map_snoc (k : Nat) (st : Bs) (c : UInt8) (hk : k < st.length) : (st.take (k + 1)).map (· + c) = (st.take k).map (· + c) ++ [gt st k + c] := by
  rw [List.take_succ_eq_append_getElem hk, List.map_append, gt_eq st k hk]; rfl


/-! ### SHA-256 -/
structure S8 where
  a : UInt32
  b : UInt32
  c : UInt32
  d : UInt32
  e : UInt32
  f : UInt32
  g : UInt32
  h : UInt32
def S8.add (x y : S8) : S8 := ⟨x.a + y.a, x.b + y.b, x.c + y.c, x.d + y.d, x.e + y.e, x.f + y.f, x.g + y.g, x.h + y.h⟩
def shaInit : S8 := ⟨0x6a09e667, 0xbb67ae85, 0x3c6ef372, 0xa54ff53a, 0x510e527f, 0x9b05688c, 0x1f83d9ab, 0x5be0cd19⟩
/-- Turned right by n, 0 < n < 32. -/
def rotr (x : UInt32) (n : UInt32) : UInt32 := (x >>> n) ||| (x <<< (32 - n))
/-- The word at a place. -/
def gw (xs : List UInt32) (i : Nat) : UInt32 := xs.getD i 0
theorem gw_eq (xs : List UInt32) (i : Nat) (h : i < xs.length) : gw xs i = xs[i] := by simp [gw, h]
def be32 (p : Bs) (i : Nat) : UInt32 := ((((gt p i).toUInt32 <<< 24) ||| ((gt p (i + 1)).toUInt32 <<< 16)) ||| ((gt p (i + 2)).toUInt32 <<< 8)) ||| (gt p (i + 3)).toUInt32
def sg1 (x : UInt32) : UInt32 := rotr x 17 ^^^ rotr x 19 ^^^ x >>> 10
def sg0 (x : UInt32) : UInt32 := rotr x 7 ^^^ rotr x 18 ^^^ x >>> 3
def bs1 (x : UInt32) : UInt32 := rotr x 6 ^^^ rotr x 11 ^^^ rotr x 25
def bs0 (x : UInt32) : UInt32 := rotr x 2 ^^^ rotr x 13 ^^^ rotr x 22
def chF (e f g : UInt32) : UInt32 := (e &&& f) ^^^ (~~~e &&& g)
def majF (a b c : UInt32) : UInt32 := (a &&& b) ^^^ (a &&& c) ^^^ (b &&& c)
/-- The next word of the schedule, behind those that are there. -/
def nextW (p : Bs) (ws : List UInt32) : UInt32 :=
  if ws.length < 16 then be32 p (4 * ws.length)
  else sg1 (gw ws (ws.length - 2)) + gw ws (ws.length - 7) + sg0 (gw ws (ws.length - 15)) + gw ws (ws.length - 16)
def schedN (p : Bs) : Nat → List UInt32
  | 0 => []
  | n + 1 => schedN p n ++ [nextW p (schedN p n)]
theorem schedN_length (p : Bs) : ∀ n, (schedN p n).length = n
  | 0 => rfl
  | n + 1 => by simp [schedN, schedN_length p n]
def rnd1 (s : S8) (k w : UInt32) : UInt32 := s.h + bs1 s.e + chF s.e s.f s.g + k + w
def rnd (s : S8) (k w : UInt32) : S8 := ⟨rnd1 s k w + (bs0 s.a + majF s.a s.b s.c), s.a, s.b, s.c, s.d + rnd1 s k w, s.e, s.f, s.g⟩
def rnds (K W : List UInt32) : Nat → S8 → S8
  | 0, s => s
  | n + 1, s => rnd (rnds K W n s) (gw K n) (gw W n)
/-- One block of 64 bytes taken in. -/
def shaBlk (K : List UInt32) (s : S8) (p : Bs) : S8 := s.add (rnds K (schedN p 64) 64 s)
/-- All whole blocks taken in. -/
def shaBlks (K : List UInt32) : Nat → S8 → Bs → S8
  | 0, s, _ => s
  | n + 1, s, p => if p.length < 64 then s else shaBlks K n (shaBlk K s (p.take 64)) (p.drop 64)
def shaAll (K : List UInt32) (s : S8) (p : Bs) : S8 := shaBlks K (p.length / 64) s p

theorem shaAll_small (K : List UInt32) (s : S8) (p : Bs) (h : p.length < 64) : shaAll K s p = s := by
  unfold shaAll
  rw [Nat.div_eq_of_lt h]; rfl
theorem shaAll_step (K : List UInt32) (s : S8) (p : Bs) (h : 64 ≤ p.length) : shaAll K s p = shaAll K (shaBlk K s (p.take 64)) (p.drop 64) := by
  unfold shaAll
  rw [List.length_drop, show p.length / 64 = (p.length - 64) / 64 + 1 by omega, shaBlks, if_neg (by omega)]
theorem schedN_prefix (p : Bs) (k : Nat) : ∀ n, k ≤ n → (schedN p n).take k = schedN p k
  | 0, h => by obtain rfl : k = 0 := by omega
               rfl
  | n + 1, h => by
    rcases Nat.lt_or_ge n k with h1 | h1
    · obtain rfl : k = n + 1 := by omega
      exact List.take_of_length_le (by rw [schedN_length]; exact Nat.le_refl _)
    · rw [schedN, List.take_append_of_le_length (by rw [schedN_length]; exact h1), schedN_prefix p k n h1]
theorem gw_take (xs : List UInt32) (k i : Nat) (h : i < k) : gw (xs.take k) i = gw xs i := by
  unfold gw
  rw [List.getD_eq_getElem?_getD, List.getD_eq_getElem?_getD, List.getElem?_take, if_pos h]
theorem gt_take (xs : Bs) (k i : Nat) (h : i < k) : gt (xs.take k) i = gt xs i := by
  unfold gt
  rw [List.getD_eq_getElem?_getD, List.getD_eq_getElem?_getD, List.getElem?_take, if_pos h]
theorem gt_drop (xs : Bs) (k i : Nat) : gt (xs.drop k) i = gt xs (k + i) := by
  unfold gt
  rw [List.getD_eq_getElem?_getD, List.getD_eq_getElem?_getD, List.getElem?_drop]

end Go.Proofs.YtknoomndofnnmaaDoor

namespace Go.Proofs.YtknoomndofnnmaaDoor

/-! ### SHA-256 whole -/
/-- What is left behind the whole blocks. -/
def shaRest (p : Bs) : Bs := p.drop (p.length / 64 * 64)
theorem shaRest_length (p : Bs) : (shaRest p).length = p.length % 64 := by simp [shaRest]; omega
theorem shaRest_small (p : Bs) (h : p.length < 64) : shaRest p = p := by unfold shaRest; rw [Nat.div_eq_of_lt h]; rfl
theorem shaRest_step (p : Bs) (h : 64 ≤ p.length) : shaRest p = shaRest (p.drop 64) := by
  unfold shaRest
  rw [List.length_drop, List.drop_drop]
  congr 1
  omega
theorem shaAll_append (K : List UInt32) : ∀ (n : Nat) (s : S8) (a b : Bs), a.length = n * 64 → shaAll K s (a ++ b) = shaAll K (shaAll K s a) b
  | 0, s, a, b, h => by
    obtain rfl : a = [] := List.eq_nil_of_length_eq_zero (by omega)
    rw [shaAll_small K s [] (by simp)]; rfl
  | n + 1, s, a, b, h => by
    have h1 : 64 ≤ a.length := by omega
    rw [shaAll_step K s (a ++ b) (by simp; omega), shaAll_step K s a h1, List.take_append_of_le_length h1, List.drop_append_of_le_length h1]
    exact shaAll_append K n _ _ _ (by simp; omega)
theorem shaAll_whole (K : List UInt32) (s : S8) (p : Bs) : shaAll K s p = shaAll K s (p.take (p.length / 64 * 64)) := by
  have h := shaAll_append K (p.length / 64) s (p.take (p.length / 64 * 64)) (p.drop (p.length / 64 * 64)) (by simp; omega)
  rw [List.take_append_drop] at h
  rw [h, shaAll_small _ _ (p.drop _) (by simp; omega)]
theorem shaAll_more (K : List UInt32) (s : S8) (p q : Bs) : shaAll K s (p ++ q) = shaAll K (shaAll K s p) (shaRest p ++ q) := by
  have h : p ++ q = p.take (p.length / 64 * 64) ++ (shaRest p ++ q) := by rw [← List.append_assoc]; unfold shaRest; rw [List.take_append_drop]
  rw [h, shaAll_append K (p.length / 64) s _ _ (by simp; omega), ← shaAll_whole]
theorem shaRest_append : ∀ (n : Nat) (a b : Bs), a.length = n * 64 → shaRest (a ++ b) = shaRest b
  | 0, a, b, h => by
    obtain rfl : a = [] := List.eq_nil_of_length_eq_zero (by omega)
    rfl
  | n + 1, a, b, h => by
    have h1 : 64 ≤ a.length := by omega
    rw [shaRest_step (a ++ b) (by simp; omega), List.drop_append_of_le_length h1]
    exact shaRest_append n _ _ (by simp; omega)
theorem shaRest_more (p q : Bs) : shaRest (p ++ q) = shaRest (shaRest p ++ q) := by
  have h : p ++ q = p.take (p.length / 64 * 64) ++ (shaRest p ++ q) := by rw [← List.append_assoc]; unfold shaRest; rw [List.take_append_drop]
  rw [h, shaRest_append (p.length / 64) _ _ (by simp; omega)]

def be64 (v : Nat) : Bs := (List.range 8).map fun i => UInt8.ofNat (v / 2 ^ (56 - 8 * i))
theorem be64_length (v : Nat) : (be64 v).length = 8 := by simp [be64]
/-- How many noughts stand ahead of the length, one byte 128 ahead of them counted in. -/
def shaPadN (n : Nat) : Nat := if n % 64 < 56 then 56 - n % 64 else 120 - n % 64
def shaPad (n : Nat) : Bs := (0x80 :: List.replicate (shaPadN n - 1) 0) ++ be64 (8 * n)
theorem shaPadN_pos (n : Nat) : 1 ≤ shaPadN n ∧ shaPadN n ≤ 64 := by unfold shaPadN; split <;> omega
theorem shaPad_length (n : Nat) : (shaPad n).length = shaPadN n + 8 := by
  have := shaPadN_pos n
  simp [shaPad, be64_length]; omega
theorem shaPad_whole (n : Nat) : (n + (shaPad n).length) % 64 = 0 := by
  rw [shaPad_length]; unfold shaPadN; split <;> omega
def be4 (x : UInt32) : Bs := [(x >>> 24).toUInt8, (x >>> 16).toUInt8, (x >>> 8).toUInt8, x.toUInt8]
def shaBytes (s : S8) : Bs := be4 s.a ++ be4 s.b ++ be4 s.c ++ be4 s.d ++ be4 s.e ++ be4 s.f ++ be4 s.g ++ be4 s.h
def shaSum (K : List UInt32) (d : Bs) : Bs := shaBytes (shaAll K shaInit (d ++ shaPad d.length))
theorem shaSum_length (K : List UInt32) (d : Bs) : (shaSum K d).length = 32 := rfl

/-! ### a hash by its sizes and its function -/
structure HF where
  sz : Nat
  bk : Nat
  sum : Bs → Bs
structure HF.Ok (H : HF) : Prop where
  len : ∀ d, (H.sum d).length = H.sz
  pos : 1 ≤ H.sz
  le : H.sz ≤ H.bk
  sz32 : H.sz ≤ 32
  bk64 : H.bk ≤ 64

def shaF (K : List UInt32) : HF := ⟨32, 64, shaSum K⟩
def ownF (sz bk : Nat) : HF := ⟨sz, bk, ownSum sz⟩
theorem shaF_ok (K : List UInt32) : (shaF K).Ok := ⟨shaSum_length K, Nat.le_of_ble_eq_true rfl, Nat.le_of_ble_eq_true rfl, Nat.le_of_ble_eq_true rfl, Nat.le_of_ble_eq_true rfl⟩
theorem ownF_ok {sz bk : Nat} (h1 : 1 ≤ sz) (h2 : sz ≤ 16) (h3 : sz ≤ bk) (h4 : bk ≤ 32) : (ownF sz bk).Ok := ⟨ownSum_length sz, h1, h3, by show sz ≤ 32; omega, by show bk ≤ 64; omega⟩

section
variable (H : HF)
def key0 (key : Bs) : Bs := if H.bk < key.length then H.sum key else key
def padTo (n : Nat) (key : Bs) : Bs := key ++ List.replicate (n - key.length) 0
def padX (key : Bs) (x : UInt8) : Bs := (padTo H.bk (key0 H key)).map (· ^^^ x)
def mac (key data : Bs) : Bs := H.sum (padX H key 0x5c ++ H.sum (padX H key 0x36 ++ data))
def zeros : Bs := List.replicate H.sz 0
def orZeros (s : Bs) : Bs := if s = [] then zeros H else s
def extractF (secret salt : Bs) : Bs := mac H (orZeros H salt) secret
/-- All that came out in k rounds, and the last of it. -/
def expN (prk info : Bs) : Nat → Bs × Bs
  | 0 => ([], [])
  | k + 1 => ((expN prk info k).1 ++ mac H prk ((expN prk info k).2 ++ info ++ [UInt8.ofNat (k + 1)]), mac H prk ((expN prk info k).2 ++ info ++ [UInt8.ofNat (k + 1)]))
def expandF (prk info : Bs) (n : Nat) : Bs := (expN H prk info ((n + H.sz - 1) / H.sz)).1.take n
def tls13 : Bs := [116, 108, 115, 49, 51, 32]
def labelInfo (label context : Bs) (n : Nat) : Bs :=
  [UInt8.ofNat (n / 256), UInt8.ofNat n, UInt8.ofNat (6 + label.length)] ++ (tls13 ++ label) ++ [UInt8.ofNat context.length] ++ context
def expandLabelF (secret label context : Bs) (n : Nat) : Bs := expandF H secret (labelInfo label context n) n
def deriveF (secret label messages : Bs) : Bs := expandLabelF H secret label (H.sum messages) H.sz
def derivedL : Bs := [100, 101, 114, 105, 118, 101, 100]
def earlyF (psk : Bs) : Bs := extractF H (orZeros H psk) []
def handshakeF (psk shared : Bs) : Bs := extractF H (orZeros H shared) (deriveF H (earlyF H psk) derivedL [])
def masterF (psk shared : Bs) : Bs := extractF H (zeros H) (deriveF H (handshakeF H psk shared) derivedL [])
def exporterL : Bs := [101, 120, 112, 111, 114, 116, 101, 114]
def exportedF (secret label context : Bs) (n : Nat) : Bs := expandLabelF H (deriveF H secret label []) exporterL (H.sum context) n
end

theorem key0_length {H : HF} (h : H.Ok) (key : Bs) : (key0 H key).length ≤ H.bk := by
  unfold key0
  split
  · rw [h.len]; exact h.le
  · omega
theorem padX_length {H : HF} (h : H.Ok) (key : Bs) (x : UInt8) : (padX H key x).length = H.bk := by
  have := key0_length h key
  simp [padX, padTo]; omega
theorem mac_length {H : HF} (h : H.Ok) (key data : Bs) : (mac H key data).length = H.sz := h.len _
theorem expN_length {H : HF} (h : H.Ok) (prk info : Bs) : ∀ k, (expN H prk info k).1.length = k * H.sz
  | 0 => by simp [expN]
  | k + 1 => by simp [expN, expN_length h prk info k, mac_length h, Nat.add_mul]
theorem expN_last {H : HF} (h : H.Ok) (prk info : Bs) (k : Nat) : (expN H prk info (k + 1)).2.length = H.sz := mac_length h _ _
theorem expN_prefix {H : HF} (h : H.Ok) (prk info : Bs) (j : Nat) : ∀ d, (expN H prk info (j + d)).1.take (j * H.sz) = (expN H prk info j).1
  | 0 => by rw [← expN_length h prk info j]; exact List.take_length
  | d + 1 => by
    rw [show j + (d + 1) = (j + d) + 1 by omega, expN]
    rw [List.take_append_of_le_length (by rw [expN_length h]; exact Nat.mul_le_mul_right _ (by omega)), expN_prefix h prk info j d]
/-- Whatever the number of rounds, if it is enough. -/
theorem expandF_of {H : HF} (h : H.Ok) (prk info : Bs) (n k : Nat) (hk : n ≤ k * H.sz) : (expN H prk info k).1.take n = expandF H prk info n := by
  unfold expandF
  have hp := h.pos
  have h1 : n ≤ (n + H.sz - 1) / H.sz * H.sz := by
    have := Nat.div_add_mod (n + H.sz - 1) H.sz
    have := Nat.mod_lt (n + H.sz - 1) (y := H.sz) (by omega)
    rw [Nat.mul_comm]; omega
  have hle : (n + H.sz - 1) / H.sz ≤ k := by
    rw [Nat.div_le_iff_le_mul_add_pred (by omega), Nat.mul_comm]; omega
  obtain ⟨d, rfl⟩ := Nat.exists_eq_add_of_le hle
  generalize (n + H.sz - 1) / H.sz = j at *
  rw [← expN_prefix h prk info j d, List.take_take, Nat.min_eq_left h1]
theorem expandF_length {H : HF} (h : H.Ok) (prk info : Bs) (n : Nat) : (expandF H prk info n).length = n := by
  rw [← expandF_of h prk info n n (Nat.le_mul_of_pos_right n h.pos), List.length_take, expN_length h, Nat.min_eq_left (Nat.le_mul_of_pos_right n h.pos)]
theorem deriveF_length {H : HF} (h : H.Ok) (secret label messages : Bs) : (deriveF H secret label messages).length = H.sz := expandF_length h _ _ _
theorem extractF_length {H : HF} (h : H.Ok) (a b : Bs) : (extractF H a b).length = H.sz := mac_length h _ _
theorem zeros_length (H : HF) : (zeros H).length = H.sz := by simp [zeros]
theorem orZeros_zeros (H : HF) : orZeros H (zeros H) = zeros H := by
  unfold orZeros
  split
  · rfl
  · rfl
end Go.Proofs.YtknoomndofnnmaaDoor

namespace Go.Proofs.YtknoomndofnnmaaDoor

section
variable (H : HF)
/-- A(k) of RFC 5246. -/
def phA (key seed : Bs) : Nat → Bs
  | 0 => seed
  | k + 1 => mac H key (phA key seed k)
/-- All that came out in k rounds. -/
def phOut (key seed : Bs) : Nat → Bs
  | 0 => []
  | k + 1 => phOut key seed k ++ mac H key (phA H key seed (k + 1) ++ seed)
def phashF (key seed : Bs) (n : Nat) : Bs := (phOut H key seed ((n + H.sz - 1) / H.sz)).take n
end

theorem phOut_length {H : HF} (h : H.Ok) (key seed : Bs) : ∀ k, (phOut H key seed k).length = k * H.sz
  | 0 => by simp [phOut]
  | k + 1 => by simp [phOut, phOut_length h key seed k, mac_length h, Nat.add_mul]
theorem phOut_prefix {H : HF} (h : H.Ok) (key seed : Bs) (j : Nat) : ∀ d, (phOut H key seed (j + d)).take (j * H.sz) = phOut H key seed j
  | 0 => by rw [← phOut_length h key seed j]; exact List.take_length
  | d + 1 => by
    rw [show j + (d + 1) = (j + d) + 1 by omega, phOut]
    rw [List.take_append_of_le_length (by rw [phOut_length h]; exact Nat.mul_le_mul_right _ (by omega)), phOut_prefix h key seed j d]
theorem phashF_of {H : HF} (h : H.Ok) (key seed : Bs) (n k : Nat) (hk : n ≤ k * H.sz) : (phOut H key seed k).take n = phashF H key seed n := by
  unfold phashF
  have hp := h.pos
  have h1 : n ≤ (n + H.sz - 1) / H.sz * H.sz := by
    have := Nat.div_add_mod (n + H.sz - 1) H.sz
    have := Nat.mod_lt (n + H.sz - 1) (y := H.sz) (by omega)
    rw [Nat.mul_comm]; omega
  have hle : (n + H.sz - 1) / H.sz ≤ k := by
    rw [Nat.div_le_iff_le_mul_add_pred (by omega), Nat.mul_comm]; omega
  obtain ⟨d, rfl⟩ := Nat.exists_eq_add_of_le hle
  generalize (n + H.sz - 1) / H.sz = j at *
  rw [← phOut_prefix h key seed j d, List.take_take, Nat.min_eq_left h1]
theorem phashF_length {H : HF} (h : H.Ok) (key seed : Bs) (n : Nat) : (phashF H key seed n).length = n := by
  rw [← phashF_of h key seed n n (Nat.le_mul_of_pos_right n h.pos), List.length_take, phOut_length h, Nat.min_eq_left (Nat.le_mul_of_pos_right n h.pos)]
theorem phashF_prefix {H : HF} (h : H.Ok) (key seed : Bs) (n m : Nat) (hn : n ≤ m) : (phashF H key seed m).take n = phashF H key seed n := by
  have hp := h.pos
  have h1 : m ≤ m * H.sz := Nat.le_mul_of_pos_right m hp
  rw [← phashF_of h key seed m m h1, List.take_take, Nat.min_eq_left hn, phashF_of h key seed n m (by omega)]

end Go.Proofs.YtknoomndofnnmaaDoor

namespace Go.Proofs.YtknoomndofnnmaaDoor

theorem padN_more {n k : Nat} (h : 1 + k ≤ shaPadN n) (hne : (n + 1 + k) % 64 ≠ 56) : 1 + (k + 1) ≤ shaPadN n := by
  by_cases h1 : n % 64 < 56
  · have e : shaPadN n = 56 - n % 64 := if_pos h1
    omega
  · have e : shaPadN n = 120 - n % 64 := if_neg h1
    omega
theorem padN_done {n k : Nat} (h : 1 + k ≤ shaPadN n) (he : (n + 1 + k) % 64 = 56) : k = shaPadN n - 1 := by
  by_cases h1 : n % 64 < 56
  · have e : shaPadN n = 56 - n % 64 := if_pos h1
    omega
  · have e : shaPadN n = 120 - n % 64 := if_neg h1
    omega
theorem zeros_snoc (d : Bs) (k : Nat) : d ++ [0x80] ++ List.replicate k 0 ++ [0] = d ++ [0x80] ++ List.replicate (k + 1) 0 := by
  rw [List.append_assoc _ (List.replicate k 0), List.replicate_succ']
theorem be64_snoc (v i : Nat) (h : i < 8) : (be64 v).take (i + 1) = (be64 v).take i ++ [UInt8.ofNat (v / 2 ^ (56 - 8 * i))] := by
  rw [List.take_succ_eq_append_getElem (by rw [be64_length]; exact h)]
  simp [be64]
/-- All that is taken in: the bytes, the padding, the length. -/
theorem all_eq (d : Bs) (k : Nat) (hk : k = shaPadN d.length - 1) : d ++ [0x80] ++ List.replicate k 0 ++ (be64 (8 * d.length)).take 8 = d ++ shaPad d.length := by
  subst hk
  rw [List.take_of_length_le (by rw [be64_length]; exact Nat.le_refl _)]
  unfold shaPad
  simp
theorem all_length (d : Bs) : (d ++ shaPad d.length).length = d.length + shaPadN d.length + 8 := by rw [List.length_append, shaPad_length]; omega
theorem blk_step (K : List UInt32) (s : S8) (p : Bs) (j : Nat) (h : 64 * j + 64 ≤ p.length) : shaAll K s (p.drop (64 * j)) = shaAll K (shaBlk K s ((p.drop (64 * j)).take 64)) (p.drop (64 * (j + 1))) := by
  rw [shaAll_step K s _ (by rw [List.length_drop]; omega), List.drop_drop]
  congr 2
theorem blk_done (K : List UInt32) (s : S8) (p : Bs) (j : Nat) (h : p.length ≤ 64 * j) : shaAll K s (p.drop (64 * j)) = s := by
  rw [List.drop_of_length_le h, shaAll_small _ _ _ (by simp)]
/-- The words of a state. -/
def S8.wl (s : S8) : List UInt32 := [s.a, s.b, s.c, s.d, s.e, s.f, s.g, s.h]
/-- The bytes of the first i words. -/
def bytesN (s : S8) (i : Nat) : Bs := (s.wl.take i).flatMap be4
theorem bytesN_zero (s : S8) : bytesN s 0 = [] := rfl
theorem bytesN_all (s : S8) : bytesN s 8 = shaBytes s := by
  unfold bytesN shaBytes S8.wl
  simp [List.append_assoc]
theorem bytesN_snoc (s : S8) (i : Nat) (h : i < 8) : bytesN s (i + 1) = bytesN s i ++ be4 (gw s.wl i) := by
  unfold bytesN
  rw [List.take_succ_eq_append_getElem (by exact h), List.flatMap_append, gw_eq _ _ (by exact h)]
  simp
theorem bytesN_length (s : S8) (i : Nat) (h : i ≤ 8) : (bytesN s i).length = 4 * i := by
  induction i with
  | zero => rfl
  | succ n ih => rw [bytesN_snoc s n (by omega), List.length_append, ih (by omega)]; show 4 * n + 4 = _; omega

/-- What is taken in while it is built: the bytes, 128, k noughts, j bytes of the length. -/
def shaP (d : Bs) (k j : Nat) : Bs := d ++ [0x80] ++ List.replicate k 0 ++ (be64 (8 * d.length)).take j
theorem shaP_zero (d : Bs) : d ++ [0x80] = shaP d 0 0 := by simp [shaP]
theorem shaP_more (d : Bs) (k : Nat) : shaP d k 0 ++ [0] = shaP d (k + 1) 0 := by
  unfold shaP
  rw [List.take_zero, List.append_nil, List.append_nil, zeros_snoc]
theorem shaP_snoc (d : Bs) (k j : Nat) (h : j < 8) : shaP d k j ++ [UInt8.ofNat (8 * d.length / 2 ^ (56 - 8 * j))] = shaP d k (j + 1) := by
  unfold shaP
  rw [be64_snoc _ j h, List.append_assoc]
theorem shaP_length (d : Bs) (k j : Nat) (h : j ≤ 8) : (shaP d k j).length = d.length + 1 + k + j := by
  unfold shaP
  simp [be64_length]
  omega
theorem shaP_all (d : Bs) (k : Nat) (hk : k = shaPadN d.length - 1) : shaP d k 8 = d ++ shaPad d.length := all_eq d k hk
theorem wl_at (s : S8) (i : Nat) : gw s.wl i = match i with | 0 => s.a | 1 => s.b | 2 => s.c | 3 => s.d | 4 => s.e | 5 => s.f | 6 => s.g | 7 => s.h | _ => 0 := by
  unfold gw S8.wl
  rcases i with _ | _ | _ | _ | _ | _ | _ | _ | i <;> rfl

/-! ### pieces -/
theorem joined_snoc (l : List Bs) (k : Nat) (h : k < l.length) : (l.take (k + 1)).flatten = (l.take k).flatten ++ l[k] := by
  rw [List.take_succ_eq_append_getElem h, List.flatten_append]
  simp
end Go.Proofs.YtknoomndofnnmaaDoor
