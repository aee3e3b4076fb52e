/- The constants' row of a world that fits: some 64 words. No condition. -/
import Derived.Test.YtknoomndofnnmaaFrame
namespace Go.Proofs.Ytknoomndofnnmaa
open Go Go.ChangeShapes Go.WideShapes Go.ChangeAt Go.RowKit Go.Joins
set_option maxRecDepth 100000

theorem words_of (P : Program) (w : World) (u : TypeId) (hu : P.underlying u = some (.int .u32)) : ∀ l : List Value, (∀ v ∈ l, Cell.ok P w .any 0 u v) → ∃ K : List UInt32, l = wrow K
  | [], _ => ⟨[], rfl⟩
  | v :: l, h => by
    obtain ⟨K, hK⟩ := words_of P w u hu l (fun x hx => h x (List.mem_cons_of_mem _ hx))
    have hv := h v (List.mem_cons_self ..)
    unfold Cell.ok at hv
    rw [hu] at hv
    cases v <;> simp at hv
    case int k n =>
      obtain ⟨rfl, hn⟩ := hv
      have hb : 0 ≤ n ∧ n < 4294967296 := by
        have h2 : IntKind.u32.min ≤ n ∧ n ≤ IntKind.u32.max := hn
        rw [show IntKind.u32.min = 0 from rfl, show IntKind.u32.max = 4294967295 from rfl] at h2
        omega
      refine ⟨UInt32.ofNat n.toNat :: K, ?_⟩
      have e : ((UInt32.ofNat n.toNat).toNat : Int) = n := by
        rw [UInt32.toNat_ofNat']
        omega
      rw [hK]
      simp only [wrow, wv, List.map_cons, e]
theorem k_any {W : World} (h : W.ShapedOpen Try.prog) : ∃ K, KAt K W := by
  obtain ⟨cs, hb, hsz, hr⟩ := k_block h
  obtain ⟨ts, hts, _, hall⟩ := hr
  have hc : Try.prog.cellTypes Try.prog.depth 108 = some (List.replicate 64 65) := by kernel_rfl
  rw [hc] at hts
  obtain rfl := Option.some.inj hts
  obtain ⟨K, hK⟩ := words_of Try.prog W 65 Try.underlying65 cs.toList (fun v hv => by
    obtain ⟨i, hi, e⟩ := List.getElem_of_mem hv
    have hi' : cs[i]? = some v := by rw [← Array.getElem?_toList, List.getElem?_eq_getElem hi, e]
    obtain ⟨u, hu, hok⟩ := hall i v hi'
    rw [List.length_replicate, List.getElem?_replicate] at hu
    split at hu
    · obtain rfl := Option.some.inj hu
      exact hok
    · cases hu)
  have hcs : cs = (wrow K).toArray := by rw [← hK]
  refine ⟨K, ?_, hcs ▸ hb⟩
  have := congrArg Array.size hcs
  rw [hsz] at this
  simpa [wrow] using this.symm
end Go.Proofs.Ytknoomndofnnmaa
