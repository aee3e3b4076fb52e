/- The reference: the hash of bytes, of either kind. -/
import Derived.Test.YtknoomndofnnmaaDoorSpecC
import Derived.Test.YtknoomndofnnmaaDoorSpecD
import Derived.Test.YtknoomndofnnmaaDoorGive
namespace Go.Proofs.YtknoomndofnnmaaDoor
open Go Go.RowKit

set_option maxRecDepth 100000 in
theorem spec_hash (w : World) (kd sz bk : Int) (v : Value) (d : Bs) (hd : d.length ≤ 200000) (hv : BS [] w v d) :
    Calls Tryd.prog 19 #[hV kd sz bk, v] w (Gives w ((HS kd sz bk).sum d)) := by
  by_cases hk : kd = 1
  · subst hk
    show Calls Tryd.prog 19 #[hV 1 sz bk, v] w (Gives w (shaSum K0 d))
    have hc : Chg [] w (w.alloc (hObj 1 sz bk)) := (Chg.refl [] w).alloc _
    have hv1 := hv.keep hc
    go_enter Tryd.func19, Tryd.ntmps19
    go_wp2_with (go_at_call 49; refine (spec_sha _ v d hd hv1).mono ?_; rintro e w1 ⟨x, rfl, hx⟩)
    go_ret
    exact ⟨_, rfl, hx.from hc⟩
  · have e : (HS kd sz bk).sum d = ownSum (ownSz sz bk) d := by unfold HS; rw [if_neg hk]; rfl
    rw [e]
    exact spec_hash_own w kd sz bk hk v d (by omega) hv
theorem HS_sz (kd sz bk : Int) : (HS kd sz bk).sz = kSz kd sz bk := by
  unfold HS kSz
  split <;> rfl
theorem HS_bk (kd sz bk : Int) : (HS kd sz bk).bk = kBk kd sz bk := by
  unfold HS kBk
  split <;> rfl
theorem HS_len (kd sz bk : Int) (d : Bs) : ((HS kd sz bk).sum d).length = kSz kd sz bk := by rw [(HS_ok kd sz bk).len, HS_sz]
end Go.Proofs.YtknoomndofnnmaaDoor
