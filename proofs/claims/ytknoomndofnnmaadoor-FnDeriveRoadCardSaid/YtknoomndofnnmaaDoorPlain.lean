/- Plain lists and numbers: the hash of the thin package, SHA-256, HMAC, HKDF, P_hash. No program in sight. No condition. -/
import Derived.KernelRfl
namespace Go.Proofs.YtknoomndofnnmaaDoor

abbrev Bs := List UInt8

/-- The byte at a place (a name of its own, so that no simp respells it). -/
def gt (xs : Bs) (i : Nat) : UInt8 := xs.getD i 0
theorem gt_eq (xs : Bs) (i : Nat) (h : i < xs.length) : gt xs i = xs[i] := by simp [gt, h]

/-! ### the thin package's own hash -/
def ownMix (sz : Nat) (st : Bs) (n : Nat) (b : UInt8) : Bs := st.set (n % sz) (31 * gt st (n % sz) + b + UInt8.ofNat n)
def ownStep (sz : Nat) (st : Bs) (n : Nat) (b : UInt8) : Bs :=
  (ownMix sz st n b).set ((n + 1) % sz) (gt (ownMix sz st n b) ((n + 1) % sz) ^^^ gt (ownMix sz st n b) (n % sz))
def ownFrom (sz : Nat) : Nat → Bs → Bs → Bs
  | _, st, [] => st
  | n, st, b :: r => ownFrom sz (n + 1) (ownStep sz st n b) r
def ownInit (sz : Nat) : Bs := (List.range sz).map UInt8.ofNat
def ownState (sz : Nat) (data : Bs) : Bs := ownFrom sz 0 (ownInit sz) data
def ownSum (sz : Nat) (data : Bs) : Bs := (ownState sz data).map (· + UInt8.ofNat data.length)

theorem ownFrom_append (sz : Nat) : ∀ (n : Nat) (st d e : Bs), ownFrom sz n st (d ++ e) = ownFrom sz (n + d.length) (ownFrom sz n st d) e
  | n, st, [], e => rfl
  | n, st, b :: r, e => by
    simp only [List.cons_append, ownFrom, ownFrom_append sz (n + 1) _ r e, List.length_cons]
    rw [show n + 1 + r.length = n + (r.length + 1) by omega]
theorem ownState_snoc (sz : Nat) (d : Bs) (b : UInt8) : ownState sz (d ++ [b]) = ownStep sz (ownState sz d) d.length b := by
  simp [ownState, ownFrom_append, ownFrom]
theorem ownStep_length (sz : Nat) (st : Bs) (n : Nat) (b : UInt8) : (ownStep sz st n b).length = st.length := by simp [ownStep, ownMix]
theorem ownMix_length (sz : Nat) (st : Bs) (n : Nat) (b : UInt8) : (ownMix sz st n b).length = st.length := by simp [ownMix]
theorem ownFrom_length (sz : Nat) : ∀ (n : Nat) (st d : Bs), (ownFrom sz n st d).length = st.length
  | _, _, [] => rfl
  | n, st, b :: r => by rw [ownFrom, ownFrom_length, ownStep_length]
theorem ownState_length (sz : Nat) (d : Bs) : (ownState sz d).length = sz := by simp [ownState, ownFrom_length, ownInit]
theorem ownSum_length (sz : Nat) (d : Bs) : (ownSum sz d).length = sz := by simp [ownSum, ownState_length]
theorem ownInit_step (sz k : Nat) (st : Bs) (hl : st.length = sz) (hk : k < sz) :
    ((List.range k).map UInt8.ofNat ++ st.drop k).set k (UInt8.ofNat k) = (List.range (k + 1)).map UInt8.ofNat ++ st.drop (k + 1) := by
  rw [List.set_append_right _ _ (by simp)]
  rw [List.drop_eq_getElem_cons (by omega : k < st.length)]
  simp [List.range_succ, -List.getElem_cons_drop]
theorem ownSum_step (k : Nat) (st : Bs) (c : UInt8) (hk : k < st.length) :
    ((st.take k).map (· + c) ++ st.drop k).set k (gt st k + c) = (st.take (k + 1)).map (· + c) ++ st.drop (k + 1) := by
  rw [List.set_append_right _ _ (by simp; omega)]
  rw [List.drop_eq_getElem_cons hk, gt_eq st k hk]
  have e : (st.take (k + 1)).map (· + c) = (st.take k).map (· + c) ++ [st[k] + c] := by rw [List.take_succ_eq_append_getElem hk, List.map_append]; rfl
  rw [e]
  simp [Nat.min_eq_left (Nat.le_of_lt hk), -List.getElem_cons_drop, -List.map_take]

theorem take_map_snoc (k : Nat) (st : Bs) (c : UInt8) (hk : k < st.length) : (st.take (k + 1)).map (· + c) = (st.take k).map (· + c) ++ [gt st k + c] := by
  rw [List.take_succ_eq_append_getElem hk, List.map_append, gt_eq st k hk]; rfl


/-! ### SHA-256 -/
structure S8 where
  a : UInt32
  b : UInt32
  c : UInt32
  d : UInt32
  e : UInt32
  f : UInt32
  g : UInt32
  h : UInt32
def S8.add (x y : S8) : S8 := ⟨x.a + y.a, x.b + y.b, x.c + y.c, x.d + y.d, x.e + y.e, x.f + y.f, x.g + y.g, x.h + y.h⟩
def shaInit : S8 := ⟨0x6a09e667, 0xbb67ae85, 0x3c6ef372, 0xa54ff53a, 0x510e527f, 0x9b05688c, 0x1f83d9ab, 0x5be0cd19⟩
/-- Turned right by n, 0 < n < 32. -/
def rotr (x : UInt32) (n : UInt32) : UInt32 := (x >>> n) ||| (x <<< (32 - n))
/-- The word at a place. -/
def gw (xs : List UInt32) (i : Nat) : UInt32 := xs.getD i 0
theorem gw_eq (xs : List UInt32) (i : Nat) (h : i < xs.length) : gw xs i = xs[i] := by simp [gw, h]
def be32 (p : Bs) (i : Nat) : UInt32 := ((((gt p i).toUInt32 <<< 24) ||| ((gt p (i + 1)).toUInt32 <<< 16)) ||| ((gt p (i + 2)).toUInt32 <<< 8)) ||| (gt p (i + 3)).toUInt32
def sg1 (x : UInt32) : UInt32 := rotr x 17 ^^^ rotr x 19 ^^^ x >>> 10
def sg0 (x : UInt32) : UInt32 := rotr x 7 ^^^ rotr x 18 ^^^ x >>> 3
def bs1 (x : UInt32) : UInt32 := rotr x 6 ^^^ rotr x 11 ^^^ rotr x 25
def bs0 (x : UInt32) : UInt32 := rotr x 2 ^^^ rotr x 13 ^^^ rotr x 22
def chF (e f g : UInt32) : UInt32 := (e &&& f) ^^^ (~~~e &&& g)
def majF (a b c : UInt32) : UInt32 := (a &&& b) ^^^ (a &&& c) ^^^ (b &&& c)
/-- The next word of the schedule, behind those that are there. -/
def nextW (p : Bs) (ws : List UInt32) : UInt32 :=
  if ws.length < 16 then be32 p (4 * ws.length)
  else sg1 (gw ws (ws.length - 2)) + gw ws (ws.length - 7) + sg0 (gw ws (ws.length - 15)) + gw ws (ws.length - 16)
def schedN (p : Bs) : Nat → List UInt32
  | 0 => []
  | n + 1 => schedN p n ++ [nextW p (schedN p n)]
theorem schedN_length (p : Bs) : ∀ n, (schedN p n).length = n
  | 0 => rfl
  | n + 1 => by simp [schedN, schedN_length p n]
def rnd1 (s : S8) (k w : UInt32) : UInt32 := s.h + bs1 s.e + chF s.e s.f s.g + k + w
def rnd (s : S8) (k w : UInt32) : S8 := ⟨rnd1 s k w + (bs0 s.a + majF s.a s.b s.c), s.a, s.b, s.c, s.d + rnd1 s k w, s.e, s.f, s.g⟩
def rnds (K W : List UInt32) : Nat → S8 → S8
  | 0, s => s
  | n + 1, s => rnd (rnds K W n s) (gw K n) (gw W n)
/-- One block of 64 bytes taken in. -/
def shaBlk (K : List UInt32) (s : S8) (p : Bs) : S8 := s.add (rnds K (schedN p 64) 64 s)
/-- All whole blocks taken in. -/
def shaBlks (K : List UInt32) : Nat → S8 → Bs → S8
  | 0, s, _ => s
  | n + 1, s, p => if p.length < 64 then s else shaBlks K n (shaBlk K s (p.take 64)) (p.drop 64)
def shaAll (K : List UInt32) (s : S8) (p : Bs) : S8 := shaBlks K (p.length / 64) s p

theorem shaAll_small (K : List UInt32) (s : S8) (p : Bs) (h : p.length < 64) : shaAll K s p = s := by
  unfold shaAll
  rw [Nat.div_eq_of_lt h]; rfl
theorem shaAll_step (K : List UInt32) (s : S8) (p : Bs) (h : 64 ≤ p.length) : shaAll K s p = shaAll K (shaBlk K s (p.take 64)) (p.drop 64) := by
  unfold shaAll
  rw [List.length_drop, show p.length / 64 = (p.length - 64) / 64 + 1 by omega, shaBlks, if_neg (by omega)]
theorem schedN_prefix (p : Bs) (k : Nat) : ∀ n, k ≤ n → (schedN p n).take k = schedN p k
  | 0, h => by obtain rfl : k = 0 := by omega
               rfl
  | n + 1, h => by
    rcases Nat.lt_or_ge n k with h1 | h1
    · obtain rfl : k = n + 1 := by omega
      exact List.take_of_length_le (by rw [schedN_length]; exact Nat.le_refl _)
    · rw [schedN, List.take_append_of_le_length (by rw [schedN_length]; exact h1), schedN_prefix p k n h1]
theorem gw_take (xs : List UInt32) (k i : Nat) (h : i < k) : gw (xs.take k) i = gw xs i := by
  unfold gw
  rw [List.getD_eq_getElem?_getD, List.getD_eq_getElem?_getD, List.getElem?_take, if_pos h]
theorem gt_take (xs : Bs) (k i : Nat) (h : i < k) : gt (xs.take k) i = gt xs i := by
  unfold gt
  rw [List.getD_eq_getElem?_getD, List.getD_eq_getElem?_getD, List.getElem?_take, if_pos h]
theorem gt_drop (xs : Bs) (k i : Nat) : gt (xs.drop k) i = gt xs (k + i) := by
  unfold gt
  rw [List.getD_eq_getElem?_getD, List.getD_eq_getElem?_getD, List.getElem?_drop]

end Go.Proofs.YtknoomndofnnmaaDoor
