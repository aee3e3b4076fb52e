/- The hash that is named, as a value and as the reference's function. No condition. -/
import Derived.Test.YtknoomndofnnmaaDoorSpecA
import Derived.Test.YtknoomndofnnmaaDoorKit
namespace Go.Proofs.YtknoomndofnnmaaDoor
open Go Go.RowKit

/-- The reference's hash. -/
def HS (kd sz bk : Int) : HF := if kd = 1 then shaF K0 else ownF (ownSz sz bk) (ownBk sz bk)
theorem HS_ok (kd sz bk : Int) : (HS kd sz bk).Ok := by
  unfold HS
  split
  · exact shaF_ok K0
  · have h := own_range sz bk
    exact ownF_ok h.1 h.2.1 h.2.2.1 h.2.2.2

end Go.Proofs.YtknoomndofnnmaaDoor
