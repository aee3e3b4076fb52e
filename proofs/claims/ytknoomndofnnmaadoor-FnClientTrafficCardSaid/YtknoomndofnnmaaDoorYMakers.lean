/- The two function values that the thin package hands on, as makers of hashes. -/
import Derived.Test.YtknoomndofnnmaaDoorYMacC
import Derived.Test.YtknoomndofnnmaaDoorYKit
namespace Go.Proofs.YtknoomndofnnmaaDoor
open Go Go.RowKit

/-- The kind of the named hash. -/
def kdOf (kd sz bk : Int) : Kd := if kd = 1 then none else some (ownSz sz bk, ownBk sz bk)
theorem kdOf_one (sz bk : Int) : kdOf 1 sz bk = none := rfl
theorem kdOf_own {kd sz bk : Int} (h : ¬ kd = 1) : kdOf kd sz bk = some (ownSz sz bk, ownBk sz bk) := if_neg h
theorem kdOf_ok (kd sz bk : Int) : (kdOf kd sz bk).ok := by
  unfold kdOf
  split
  · trivial
  · exact own_range sz bk
/-- sha256.New. -/
abbrev newV : Value := .func (.func 42) #[] #[]
/-- h.fresh. -/
abbrev freshV (kd sz bk : Int) : Value := .func (.func 46) #[hV kd sz bk] #[]
theorem maker_digest {K : List UInt32} {w : World} (hK : KAt K w) : Maker K none [0] w newV mkP := by
  have h0 : 0 < w.heap.size := blk_lt hK.2
  refine ⟨trivial, hK, by simp, fun b hb => by simp at hb; omega, 42, #[], #[], rfl, fun vs W => by kernel_rfl, fun W hW => ?_⟩
  have hKW : KAt K W := ⟨hK.1, (hW 0 (by simp)).trans hK.2⟩
  have hp : 0 < W.heap.size := blk_lt hKW.2
  refine (dig_new K W hp).mono ?_
  rintro e w' ⟨d, rfl, hd, hdig, hc⟩
  exact ⟨_, rfl, d, d, rfl, hd, hd, ⟨by omega, by omega, rfl, hdig⟩, hc⟩
theorem maker_own {K : List UInt32} {w : World} (hK : KAt K w) (kd sz bk : Int) : Maker K (some (ownSz sz bk, ownBk sz bk)) [0] w (freshV kd sz bk) mkP := by
  have h0 : 0 < w.heap.size := blk_lt hK.2
  refine ⟨own_range sz bk, hK, by simp, fun b hb => by simp at hb; omega, 46, #[hV kd sz bk], #[], rfl, fun vs W => by kernel_rfl, fun W hW => ?_⟩
  have hKW : KAt K W := ⟨hK.1, (hW 0 (by simp)).trans hK.2⟩
  have hp : 0 < W.heap.size := blk_lt hKW.2
  refine (own_fresh W kd sz bk).mono ?_
  rintro e w' ⟨o, s, rfl, ho, hs, hown, hc⟩
  exact ⟨_, rfl, o, s, rfl, ho, hs, ⟨by omega, by omega, hown⟩, hc⟩
end Go.Proofs.YtknoomndofnnmaaDoor
