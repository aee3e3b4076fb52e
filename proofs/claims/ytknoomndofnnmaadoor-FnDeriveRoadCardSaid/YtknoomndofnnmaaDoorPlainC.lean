/- Plain lists: P_hash. No program in sight. No condition. -/
import Derived.Test.YtknoomndofnnmaaDoorPlainB
namespace Go.Proofs.YtknoomndofnnmaaDoor

section
variable (H : HF)
/-- A(k) of RFC 5246. -/
def phA (key seed : Bs) : Nat → Bs
  | 0 => seed
  | k + 1 => mac H key (phA key seed k)
/-- All that came out in k rounds. -/
def phOut (key seed : Bs) : Nat → Bs
  | 0 => []
  | k + 1 => phOut key seed k ++ mac H key (phA H key seed (k + 1) ++ seed)
def phashF (key seed : Bs) (n : Nat) : Bs := (phOut H key seed ((n + H.sz - 1) / H.sz)).take n
end

theorem phOut_length {H : HF} (h : H.Ok) (key seed : Bs) : ∀ k, (phOut H key seed k).length = k * H.sz
  | 0 => by simp [phOut]
  | k + 1 => by simp [phOut, phOut_length h key seed k, mac_length h, Nat.add_mul]
theorem phOut_prefix {H : HF} (h : H.Ok) (key seed : Bs) (j : Nat) : ∀ d, (phOut H key seed (j + d)).take (j * H.sz) = phOut H key seed j
  | 0 => by rw [← phOut_length h key seed j]; exact List.take_length
  | d + 1 => by
    rw [show j + (d + 1) = (j + d) + 1 by omega, phOut]
    rw [List.take_append_of_le_length (by rw [phOut_length h]; exact Nat.mul_le_mul_right _ (by omega)), phOut_prefix h key seed j d]
theorem phashF_of {H : HF} (h : H.Ok) (key seed : Bs) (n k : Nat) (hk : n ≤ k * H.sz) : (phOut H key seed k).take n = phashF H key seed n := by
  unfold phashF
  have hp := h.pos
  have h1 : n ≤ (n + H.sz - 1) / H.sz * H.sz := by
    have := Nat.div_add_mod (n + H.sz - 1) H.sz
    have := Nat.mod_lt (n + H.sz - 1) (y := H.sz) (by omega)
    rw [Nat.mul_comm]; omega
  have hle : (n + H.sz - 1) / H.sz ≤ k := by
    rw [Nat.div_le_iff_le_mul_add_pred (by omega), Nat.mul_comm]; omega
  obtain ⟨d, rfl⟩ := Nat.exists_eq_add_of_le hle
  generalize (n + H.sz - 1) / H.sz = j at *
  rw [← phOut_prefix h key seed j d, List.take_take, Nat.min_eq_left h1]
theorem phashF_length {H : HF} (h : H.Ok) (key seed : Bs) (n : Nat) : (phashF H key seed n).length = n := by
  rw [← phashF_of h key seed n n (Nat.le_mul_of_pos_right n h.pos), List.length_take, phOut_length h, Nat.min_eq_left (Nat.le_mul_of_pos_right n h.pos)]
theorem phashF_prefix {H : HF} (h : H.Ok) (key seed : Bs) (n m : Nat) (hn : n ≤ m) : (phashF H key seed m).take n = phashF H key seed n := by
  have hp := h.pos
  have h1 : m ≤ m * H.sz := Nat.le_mul_of_pos_right m hp
  rw [← phashF_of h key seed m m h1, List.take_take, Nat.min_eq_left hn, phashF_of h key seed n m (by omega)]

end Go.Proofs.YtknoomndofnnmaaDoor
