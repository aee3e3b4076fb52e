/- The constants' row, as the rows of this seat list it. No condition. -/
import Derived.Test.YtknoomndofnnmaaDoorFrame
import Derived.Test.YtknoomndofnnmaaDoorSpecA
import Derived.LaidMore
namespace Go.Proofs.YtknoomndofnnmaaDoor
open Go Go.ChangeShapes Go.WideShapes Go.ChangeAt Go.RowKit Go.Joins
set_option maxRecDepth 100000

/-- What the rows list. -/
def kLaid : List (String × DataW Unit) := [("loop.example/pub-g03030/pub/sha256._K", Rows.laid_loop_example_pub_g03030_pub_sha256_K)]
theorem kDatum : (Rows.laid_loop_example_pub_g03030_pub_sha256_K : DataW Unit) = .agg (K0.map fun x => .lit (.int .u32 (x.toNat : Int))) := by kernel_rfl
theorem kGlobal : Tryd.prog.globalNamed "loop.example/pub-g03030/pub/sha256._K" = some 0 := by kernel_rfl
theorem kType : (Tryd.prog.globals[0]?).map (·.type) = some 109 := by kernel_rfl
theorem kCells : Tryd.prog.cellsOf 74 = 1 := by kernel_rfl
theorem kCells64 : Tryd.prog.cellsOf 109 = 64 := by kernel_rfl
theorem cells_of_trod {H : Type} {enc : TypeId × Value → H} {w : World} {base fuel : Nat} {spare : Nat → Bool} {held : Bool} {cs : List Value} {L : List UInt32} {q : List MemPlace} (hL : L.length = 64)
    (h : DataW.trod enc Tryd.prog w base spare held fuel 109 cs = some (.agg (L.map fun x => .lit (.int .u32 (x.toNat : Int))), q)) : cs = wrow L := by
  obtain ⟨xs, m, _, hx, hlen, hn, hel⟩ := DataW.trod_array Tryd.underlying109 h
  rw [kCells64] at hlen
  simp only [Prod.mk.injEq, DataW.agg.injEq] at hx
  refine List.ext_getElem (by rw [wrow_length, hlen, hL]) fun i h1 h2 => ?_
  have hi : i < 64 := by omega
  have h0 := hel i hi
  rw [kCells, Nat.mul_one, List.getElem?_eq_getElem (by omega)] at h0
  obtain ⟨a, e1, e2, _⟩ := DataW.trod_int Tryd.underlying74 h0
  have hx1 := congrArg (fun l => l[i]?) hx.1
  simp only [List.getElem?_map] at hx1
  rw [List.getElem?_eq_getElem (by omega), List.getElem?_eq_getElem (by omega)] at hx1
  simp only [Option.map_some, Option.some.injEq] at hx1
  rw [e2] at hx1
  simp only [DataW.lit.injEq, Lit.int.injEq, true_and] at hx1
  rw [List.drop_eq_getElem_cons (by omega)] at e1
  simp only [List.take_succ_cons, List.take_zero, List.cons.injEq, and_true] at e1
  rw [e1, ← hx1]
  simp [wrow, wv]
theorem k_laid {W : World} (hsh : W.ShapedOpen Tryd.prog) (h : laidMetH Tryd.prog kLaid W) : KAt K0 W := by
  obtain ⟨cs, hb, hsz, _⟩ := k_block hsh
  rw [MakeChecks.laidMetH_plain _ _ _ (by kernel_rfl)] at h
  obtain ⟨ps, ⟨g0, t0, cs0, f0, p0, q0, hg0, ht0, hv0, hd0, _, _⟩, _, _⟩ := h
  obtain rfl := Option.some.inj (kGlobal.symm.trans hg0)
  obtain rfl := Option.some.inj (kType.symm.trans ht0)
  have hcs : cs0 = cs := by
    unfold World.var? at hv0
    rw [kGlobal] at hv0
    simp only [Option.bind_some, hb] at hv0
    exact (Option.some.inj hv0).symm
  subst hcs
  rw [kDatum] at hd0
  have e := cells_of_trod K0_length hd0
  refine ⟨K0_length, ?_⟩
  rw [hb, ← e]
/-- The door's own heap meets the condition. -/
theorem door_met (os : Os) (args : Array Value) : laidMetH Tryd.prog kLaid ((World.doorLaid Tryd.prog 400 os).forCall (fun _ _ => 0) ⟨#[], args, []⟩).memory :=
  laidMetH_of_parts3 (fuel := 8) (laidMet_of_run' 8 (by kernel_rfl) (by kernel_rfl)) (by kernel_rfl) (by kernel_rfl)
end Go.Proofs.YtknoomndofnnmaaDoor
