/- Plain lists: the reference's SHA-256 (padding, blocks, bytes), step by step. No program in sight. No condition. -/
import Derived.Test.YtknoomndofnnmaaDoorPlainC
namespace Go.Proofs.YtknoomndofnnmaaDoor

theorem padN_more {n k : Nat} (h : 1 + k ≤ shaPadN n) (hne : (n + 1 + k) % 64 ≠ 56) : 1 + (k + 1) ≤ shaPadN n := by
  by_cases h1 : n % 64 < 56
  · have e : shaPadN n = 56 - n % 64 := if_pos h1
    omega
  · have e : shaPadN n = 120 - n % 64 := if_neg h1
    omega
theorem padN_done {n k : Nat} (h : 1 + k ≤ shaPadN n) (he : (n + 1 + k) % 64 = 56) : k = shaPadN n - 1 := by
  by_cases h1 : n % 64 < 56
  · have e : shaPadN n = 56 - n % 64 := if_pos h1
    omega
  · have e : shaPadN n = 120 - n % 64 := if_neg h1
    omega
theorem zeros_snoc (d : Bs) (k : Nat) : d ++ [0x80] ++ List.replicate k 0 ++ [0] = d ++ [0x80] ++ List.replicate (k + 1) 0 := by
  rw [List.append_assoc _ (List.replicate k 0), List.replicate_succ']
theorem be64_snoc (v i : Nat) (h : i < 8) : (be64 v).take (i + 1) = (be64 v).take i ++ [UInt8.ofNat (v / 2 ^ (56 - 8 * i))] := by
  rw [List.take_succ_eq_append_getElem (by rw [be64_length]; exact h)]
  simp [be64]
/-- All that is taken in: the bytes, the padding, the length. -/
theorem all_eq (d : Bs) (k : Nat) (hk : k = shaPadN d.length - 1) : d ++ [0x80] ++ List.replicate k 0 ++ (be64 (8 * d.length)).take 8 = d ++ shaPad d.length := by
  subst hk
  rw [List.take_of_length_le (by rw [be64_length]; exact Nat.le_refl _)]
  unfold shaPad
  simp
theorem all_length (d : Bs) : (d ++ shaPad d.length).length = d.length + shaPadN d.length + 8 := by rw [List.length_append, shaPad_length]; omega
theorem blk_step (K : List UInt32) (s : S8) (p : Bs) (j : Nat) (h : 64 * j + 64 ≤ p.length) : shaAll K s (p.drop (64 * j)) = shaAll K (shaBlk K s ((p.drop (64 * j)).take 64)) (p.drop (64 * (j + 1))) := by
  rw [shaAll_step K s _ (by rw [List.length_drop]; omega), List.drop_drop]
  congr 2
theorem blk_done (K : List UInt32) (s : S8) (p : Bs) (j : Nat) (h : p.length ≤ 64 * j) : shaAll K s (p.drop (64 * j)) = s := by
  rw [List.drop_of_length_le h, shaAll_small _ _ _ (by simp)]
/-- The words of a state. -/
def S8.wl (s : S8) : List UInt32 := [s.a, s.b, s.c, s.d, s.e, s.f, s.g, s.h]
/-- The bytes of the first i words. -/
def bytesN (s : S8) (i : Nat) : Bs := (s.wl.take i).flatMap be4
theorem bytesN_zero (s : S8) : bytesN s 0 = [] := rfl
theorem bytesN_all (s : S8) : bytesN s 8 = shaBytes s := by
  unfold bytesN shaBytes S8.wl
  simp [List.append_assoc]
theorem bytesN_snoc (s : S8) (i : Nat) (h : i < 8) : bytesN s (i + 1) = bytesN s i ++ be4 (gw s.wl i) := by
  unfold bytesN
  rw [List.take_succ_eq_append_getElem (by exact h), List.flatMap_append, gw_eq _ _ (by exact h)]
  simp
theorem bytesN_length (s : S8) (i : Nat) (h : i ≤ 8) : (bytesN s i).length = 4 * i := by
  induction i with
  | zero => rfl
  | succ n ih => rw [bytesN_snoc s n (by omega), List.length_append, ih (by omega)]; show 4 * n + 4 = _; omega

/-- What is taken in while it is built: the bytes, 128, k noughts, j bytes of the length. -/
def shaP (d : Bs) (k j : Nat) : Bs := d ++ [0x80] ++ List.replicate k 0 ++ (be64 (8 * d.length)).take j
theorem shaP_zero (d : Bs) : d ++ [0x80] = shaP d 0 0 := by simp [shaP]
theorem shaP_more (d : Bs) (k : Nat) : shaP d k 0 ++ [0] = shaP d (k + 1) 0 := by
  unfold shaP
  rw [List.take_zero, List.append_nil, List.append_nil, zeros_snoc]
theorem shaP_snoc (d : Bs) (k j : Nat) (h : j < 8) : shaP d k j ++ [UInt8.ofNat (8 * d.length / 2 ^ (56 - 8 * j))] = shaP d k (j + 1) := by
  unfold shaP
  rw [be64_snoc _ j h, List.append_assoc]
theorem shaP_length (d : Bs) (k j : Nat) (h : j ≤ 8) : (shaP d k j).length = d.length + 1 + k + j := by
  unfold shaP
  simp [be64_length]
  omega
theorem shaP_all (d : Bs) (k : Nat) (hk : k = shaPadN d.length - 1) : shaP d k 8 = d ++ shaPad d.length := all_eq d k hk
theorem wl_at (s : S8) (i : Nat) : gw s.wl i = match i with | 0 => s.a | 1 => s.b | 2 => s.c | 3 => s.d | 4 => s.e | 5 => s.f | 6 => s.g | 7 => s.h | _ => 0 := by
  unfold gw S8.wl
  rcases i with _ | _ | _ | _ | _ | _ | _ | _ | i <;> rfl

/-! ### pieces -/
theorem joined_snoc (l : List Bs) (k : Nat) (h : k < l.length) : (l.take (k + 1)).flatten = (l.take k).flatten ++ l[k] := by
  rw [List.take_succ_eq_append_getElem h, List.flatten_append]
  simp
end Go.Proofs.YtknoomndofnnmaaDoor
