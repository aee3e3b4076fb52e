/- The reference: constants of SHA-256. -/
import Derived.Test.YtknoomndofnnmaaDoorYShaE
import Derived.Great.BuildSlice
namespace Go.Proofs.YtknoomndofnnmaaDoor
open Go Go.RowKit

def K0 : List UInt32 := [1116352408, 1899447441, 3049323471, 3921009573, 961987163, 1508970993, 2453635748, 2870763221, 3624381080, 310598401, 607225278, 1426881987, 1925078388, 2162078206, 2614888103, 3248222580, 3835390401, 4022224774, 264347078, 604807628, 770255983, 1249150122, 1555081692, 1996064986, 2554220882, 2821834349, 2952996808, 3210313671, 3336571891, 3584528711, 113926993, 338241895, 666307205, 773529912, 1294757372, 1396182291, 1695183700, 1986661051, 2177026350, 2456956037, 2730485921, 2820302411, 3259730800, 3345764771, 3516065817, 3600352804, 4094571909, 275423344, 430227734, 506948616, 659060556, 883997877, 958139571, 1322822218, 1537002063, 1747873779, 1955562222, 2024104815, 2227730452, 2361852424, 2428436474, 2756734187, 3204031479, 3329325298]

theorem size64w : (Tryd.prog.info? 109).map (·.size) = some 64 := by kernel_rfl
theorem size8w : (Tryd.prog.info? 75).map (·.size) = some 8 := by kernel_rfl
def wints (L : List UInt32) : List Int := L.map fun x => (x.toNat : Int)
theorem wints_row (L : List UInt32) : (wints L).map (Value.int .u32) = wrow L := by
  unfold wints wrow
  rw [List.map_map]
  rfl
theorem wrow_one (L : List UInt32) : ∀ v ∈ wrow L, v.oneCell' = true := by
  intro v hv
  simp only [wrow, List.mem_map] at hv
  obtain ⟨x, _, rfl⟩ := hv
  rfl
theorem wrow_length (L : List UInt32) : (wrow L).length = L.length := by simp [wrow]

set_option maxRecDepth 100000 in
theorem spec_constants (w : World) : Calls Tryd.prog 102 #[] w fun e w' => e = .returned (.agg (wrow K0).toArray) ∧ Chg [] w w' := by
  go_enter Tryd.func102, Tryd.ntmps102
  go_upto_region 1 with fail
  refine gen_wp (fun w' => w'.heap[w.heap.size]? = some (.cells (wrow (List.replicate 64 0)).toArray 109 (0, 0)) ∧ Chg [] w w') ⟨heap_alloc_new w _, (Chg.refl [] w).alloc _⟩ (fun w1 h1 => ?_)
  apply wp_region_list
  refine wpList_buildFlatArrTo rfl 109 74 64 _ rfl .u32 (wints K0) (some 1) rfl Tryd.underlying109 (by kernel_rfl) (by kernel_rfl) (by kernel_rfl) ?_
  rw [wints_row]
  refine store_row rfl 109 (.tmp 0) (.tmp 1) rfl w.heap.size rfl rfl h1.1 size64w (by kernel_rfl) (by kernel_rfl) (wrow_one _) ?_
  intro w2 hrow hchg
  go_wp2
  refine bodyPost_ret (results_cell_row rfl _ _ w.heap.size 109 _ (0, 0) _ rfl hrow Tryd.underlying109 rfl (size_at size64w (by kernel_rfl))) rfl ⟨rfl, h1.2.and hchg (by simp)⟩
theorem K0_length : K0.length = 64 := by kernel_rfl
attribute [irreducible] K0
end Go.Proofs.YtknoomndofnnmaaDoor
