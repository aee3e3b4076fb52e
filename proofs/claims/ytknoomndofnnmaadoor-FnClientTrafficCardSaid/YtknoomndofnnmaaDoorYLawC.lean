/- More words for the laws: four lengths together, lengths of answers, noughts for none. -/
import Derived.Test.YtknoomndofnnmaaDoorYImplS
import Derived.Test.YtknoomndofnnmaaDoorYSpecI
import Derived.Test.YtknoomndofnnmaaDoorYLawB
namespace Go.Proofs.YtknoomndofnnmaaDoor
open Go Go.RowKit

theorem long_n4 {W : World} {g : Nat} {t : TypeId} {a1 a2 a3 a4 : Option Addr} {c1 c2 c3 c4 : Nat} (n1 n2 n3 n4 : Nat) (h : W.heap[g]? = some (.cells #[.slice a1 n1 c1, .slice a2 n2 c2, .slice a3 n3 c3, .slice a4 n4 c4] t (0, 0))) :
    Calls Tryd.prog 16 #[.slice (some ⟨g, 0, none⟩) 4 4] W fun e w' => ∃ b, e = .returned (.bool b) ∧ (b = false → n1 + n2 + n3 + n4 ≤ 16384) ∧ Chg [] W w' := by
  have e1 : (List.replicate n1 (0 : UInt8)).length = n1 := by simp
  have e2 : (List.replicate n2 (0 : UInt8)).length = n2 := by simp
  have e3 : (List.replicate n3 (0 : UInt8)).length = n3 := by simp
  have e4 : (List.replicate n4 (0 : UInt8)).length = n4 := by simp
  have := laws_long4 (W := W) (g := g) (t := t) (a1 := a1) (c1 := c1) (a2 := a2) (c2 := c2) (a3 := a3) (c3 := c3) (a4 := a4) (c4 := c4) (List.replicate n1 0) (List.replicate n2 0) (List.replicate n3 0) (List.replicate n4 0) (by rw [e1, e2, e3, e4]; exact h)
  rw [e1, e2, e3, e4] at this
  exact this
theorem exportedF_length {H : HF} (hok : H.Ok) (x l c : Bs) (n : Nat) : (exportedF H x l c n).length = n := expandF_length hok _ _ _
theorem orZeros_nil (H : HF) : orZeros H [] = zeros H := if_pos rfl
theorem earlyF_zeros (H : HF) : earlyF H (zeros H) = earlyF H [] := by unfold earlyF; rw [orZeros_zeros, orZeros_nil]
theorem handshakeF_zeros (H : HF) (p : Bs) : handshakeF H p (zeros H) = handshakeF H p [] := by unfold handshakeF; rw [orZeros_zeros, orZeros_nil]
theorem masterF_zeros (H : HF) (p : Bs) : masterF H p (zeros H) = masterF H p [] := by unfold masterF; rw [handshakeF_zeros]
def lblA : ByteArray := { data := #[97] }
theorem lblA_size : lblA.size = 1 := rfl
end Go.Proofs.YtknoomndofnnmaaDoor
