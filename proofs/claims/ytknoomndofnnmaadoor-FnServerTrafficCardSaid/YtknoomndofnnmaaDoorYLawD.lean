/- An operation that is not wanted, told so that the walk's state stays plain. -/
import Derived.Test.YtknoomndofnnmaaDoorYLawC
namespace Go.Proofs.YtknoomndofnnmaaDoor
open Go Go.RowKit

theorem plan_skipG {P : Program} {ops : Array Oper} {Q : Exit → Act → World → Prop} {S : World → Prop} {o : Oper} {r : List (Oper × Bool)} {a : Act} {w : World} (hw : Region.wanted o (yielded ops a.tmps) = false) (h : wpList P ops (HeldU P ops S Q r) [o] a w) : wpPlan P ops S Q ((o, true) :: r) a w := by
  unfold wpList at h
  rw [if_neg (by simp [hw])] at h
  exact ⟨undef, .inr ⟨hw, rfl⟩, h⟩
end Go.Proofs.YtknoomndofnnmaaDoor
