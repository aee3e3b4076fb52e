/- A string's bytes as a new slice; an append to it. -/
import Derived.Test.YtknoomndofnnmaaDoorKit
import Derived.Lib.ConvBytes
namespace Go.Proofs.YtknoomndofnnmaaDoor
open Go Go.RowKit

/-- The bytes of a string. -/
def sb (s : ByteArray) : Bs := s.data.toList
theorem sb_length (s : ByteArray) : (sb s).length = s.size := by unfold sb; rw [Array.length_toList]; rfl
/-- []byte(s). -/
theorem conv_bytes (W : World) (s : ByteArray) (hs : s.size ≤ 1099511627776) :
    ∃ c w' cur m, (convert 9 24 (.string s)).run Tryd.prog W = .ok (.slice (some ⟨W.heap.size, 0, none⟩) s.size c) w' ∧ Chg [] W w' ∧ BS [] w' (.slice (some ⟨W.heap.size, 0, none⟩) s.size c) (sb s) ∧
      w'.heap[W.heap.size]? = some (.cells cur 5 (m, m + 1)) ∧ cur.size = m ∧ m = c ∧ s.size ≤ c := by
  have h := Go.Lib.run_convert_string_bytes (P := Tryd.prog) W 9 24 5 s Tryd.underlying9 Tryd.underlying24 Tryd.underlying5
  have hge := grownCap_ge W s.size 0 5
  have hle := grownCap_le_maxLen W s.size 0 5 (by unfold maxLen; omega)
  have hsz : (Go.Lib.bytesCells W 5 s).size = grownCap W s.size 0 5 := by
    have e : s.data.size = s.size := rfl
    simp [Go.Lib.bytesCells, e]
    omega
  refine ⟨_, _, _, _, h, ⟨rfl, rfl, rfl, by rw [Go.Lib.bytesWorld_size]; omega, fun k hk _ => Go.Lib.bytesWorld_at_old _ _ _ _ hk⟩, ?_, Go.Lib.bytesWorld_at_new W _ s, rfl, hsz, hge⟩
  refine ⟨_, _, by rw [sb_length], by rw [sb_length]; exact hge, hle, (fun h => by cases h), .inr ⟨_, 0, rfl, by simp, fun j hj => ?_⟩⟩
  rw [sb_length] at hj
  have hc := Go.Lib.bytesWorld_cell W 5 s j hj
  rw [Nat.zero_add, hc]
  rfl
end Go.Proofs.YtknoomndofnnmaaDoor
