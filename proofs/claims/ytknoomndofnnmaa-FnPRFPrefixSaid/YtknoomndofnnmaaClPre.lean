/- The law FnPRFPrefix: for every input that its row speaks of the call answers true and leaves its arguments as they were. No condition. -/
import Derived.Test.YtknoomndofnnmaaLawPre
import Derived.Test.YtknoomndofnnmaaFrameP
namespace Go.Proofs.Ytknoomndofnnmaa.LawFnPRFPrefix
open Go Go.ChangeShapes Go.WideShapes Go.ChangeAt Go.RowKit Go.Joins
open Go.ChangeMaps (open_string shut_string)
set_option linter.unusedVariables false
set_option maxRecDepth 100000
theorem lifted (os : Os) (started : os.Started) (H : Type) (enc : TypeId × Value → H) :
    ReturnsInHanded {} Try.checked os 7 .any (Rows.fnPRFPrefixSpec.pre6 enc Try.prog Try.f7 Rows.fnPRFPrefixRow.domain false) (Rows.fnPRFPrefixSpec.post enc Try.prog Try.f7 false true false false) := by
  refine returnsInHanded_of_change_shaped (C := Try.checked) ownKnobNone started (by kernel_rfl) Try.func7
    (ChangeSpec.witness6 (enc := enc) (C := Try.checked) false ⟨#[], #[.agg #[.int .i64 0, .int .i64 0, .int .i64 0], .slice none 0 0, .string ByteArray.empty, .slice none 0 0, .int .i64 0, .int .i64 0], []⟩ 8 (by kernel_rfl) (by kernel_rfl) (by kernel_rfl) (by kernel_rfl)) ?_
  intro W base args ds gs before hval0 hW hcnd _ hsh _
  obtain ⟨K, hK⟩ := k_any hsh
  have hval : ∀ (j : Nat) t v, Try.f7.params[j]? = some t → args[j]? = some v → Value.okWide Try.prog W .any base t v := hval0
  have hW' := hW
  obtain ⟨p, q, hA0, hV0, rfl, hfz, hnd⟩ := hW
  have hA : DataW.TrodAll enc Try.prog W 0 (fun _ => true) true Try.f7.params.toList args.toList ds p := hA0
  have hV : DataW.TrodVars enc Try.prog W (fun _ => true) [] gs q := hV0
  rw [Try.params7] at hA hval
  obtain ⟨v0, vs0, d0, ds0, p0, q0, hargs, rfl, rfl, h0, r0⟩ := trodAll_cons hA
  obtain ⟨v1, vs1, d1, ds1, p1, q1, rfl, rfl, rfl, h1, r1⟩ := trodAll_cons r0
  obtain ⟨v2, vs2, d2, ds2, p2, q2, rfl, rfl, rfl, h2, r2⟩ := trodAll_cons r1
  obtain ⟨v3, vs3, d3, ds3, p3, q3, rfl, rfl, rfl, h3, r3⟩ := trodAll_cons r2
  obtain ⟨v4, vs4, d4, ds4, p4, q4, rfl, rfl, rfl, h4, r4⟩ := trodAll_cons r3
  obtain ⟨v5, vs5, d5, ds5, p5, q5, rfl, rfl, rfl, h5, r5⟩ := trodAll_cons r4
  obtain ⟨rfl, rfl, rfl⟩ := trodAll_nil r5
  obtain rfl : args = #[v0, v1, v2, v3, v4, v5] := by cases args; simp_all
  obtain ⟨rfl, rfl⟩ := trodVars_none hV
  have k0 := h0
  obtain ⟨kd, sz, bk, rfl⟩ := open_hash (hval 0 23 v0 rfl rfl) h0
  have k1 := h1
  obtain ⟨x1, b1⟩ := open_bs (hval 1 24 v1 rfl rfl) h1
  have k2 := h2
  obtain ⟨x2, rfl⟩ := open_str (hval 2 9 v2 rfl rfl) h2
  have k3 := h3
  obtain ⟨x3, b3⟩ := open_bs (hval 3 24 v3 rfl rfl) h3
  have k4 := h4
  obtain ⟨x4, rfl⟩ := open_i (hval 4 3 v4 rfl rfl) h4
  have k5 := h5
  obtain ⟨x5, rfl⟩ := open_i (hval 5 3 v5 rfl rfl) h5
  refine (law_prf_prefix K W hK kd sz bk v1 x1 b1 x2 v3 x3 b3 x4 x5).mono fun e W' ⟨he, hc⟩ => ?_
  subst he
  have bel := hc.below
  exact ⟨_, rfl, _, _, _, [], _, [], hW', trodAll_mk1 (shut_bool Try.underlying4 _), (trodAll_cons_mk (stays (by kernel_rfl) (of_decide_eq_true (by kernel_rfl)) k0 bel) (trodAll_cons_mk (stays (by kernel_rfl) (of_decide_eq_true (by kernel_rfl)) k1 bel) (trodAll_cons_mk (stays (by kernel_rfl) (of_decide_eq_true (by kernel_rfl)) k2 bel) (trodAll_cons_mk (stays (by kernel_rfl) (of_decide_eq_true (by kernel_rfl)) k3 bel) (trodAll_cons_mk (stays (by kernel_rfl) (of_decide_eq_true (by kernel_rfl)) k4 bel) (trodAll_cons_mk (stays (by kernel_rfl) (of_decide_eq_true (by kernel_rfl)) k5 bel) trodAll_mk0)))))), rfl, bel.frame _, fun h => by cases h⟩

theorem over : Rows.fnPRFPrefixRow.holds Try.pinned (OpenSpec.ofChange Rows.fnPRFPrefixSpec) :=
  OpenClaim.holds_of_wide 7 Try.f7 rfl rfl rfl rfl rfl rfl rfl ⟨rfl, rfl, rfl, rfl, rfl⟩ rfl rfl rfl rfl rfl (by kernel_rfl) Try.func7 (by kernel_rfl)
    (of_decide_eq_true (by kernel_rfl)) (by unfold Func.isWrapper; rw [if_neg (of_decide_eq_false (by kernel_rfl))]; exact ⟨rfl, rfl⟩)
    (fun os started H enc _ => lifted os started H enc)
theorem said : Rows.FnPRFPrefixSaid := over
#print axioms said
end Go.Proofs.Ytknoomndofnnmaa.LawFnPRFPrefix
