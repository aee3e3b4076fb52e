/- string(b) and []byte(s). -/
import Derived.Test.YtknoomndofnnmaaDoorCut
import Derived.Laws.IdiomStrings
import Derived.Lib.BufferRead
namespace Go.Proofs.YtknoomndofnnmaaDoor
open Go Go.RowKit

theorem BS.str {S : List Nat} {w : World} {v : Value} {xs : Bs} (h : BS S w v xs) : (convert 24 9 v).run Tryd.prog w = .ok (.string ⟨xs.toArray⟩) w := by
  obtain ⟨a, c, rfl, h1, h2, h3, h⟩ := h
  cases a with
  | none =>
    have hx : xs = [] := List.eq_nil_of_length_eq_zero (by have := h3 rfl; omega)
    subst hx
    exact Lib.run_convert_nil_bytes w 24 9 5 c Tryd.underlying24 Tryd.underlying5 Tryd.underlying9
  | some ad =>
    refine run_convert_bytes_back w 24 9 5 ad c xs Tryd.underlying24 Tryd.underlying5 Tryd.underlying9 fun j hj => ?_
    rcases h with rfl | ⟨b, off, ha, hb, hc⟩
    · simp at hj
    · cases ha
      have : (⟨b, off, none⟩ : Addr).add j = ⟨b, off + j, none⟩ := by unfold Addr.add; split <;> simp_all
      rw [this, hc j hj, gt_eq xs j hj]
end Go.Proofs.YtknoomndofnnmaaDoor
