/- The law FnSum: for every input that its row speaks of the call answers true and leaves its arguments as they were. The card: the listed constants are tied to the program's text. -/
import Derived.Test.YtknoomndofnnmaaDoorLawSum
import Derived.Test.YtknoomndofnnmaaDoorFrameD
import Derived.Test.YtknoomndofnnmaaDoorCards
import Derived.Test.YtknoomndofnnmaaDoorTie
import Derived.SevenTiedAt
namespace Go.Proofs.YtknoomndofnnmaaDoor.LawFnSum
open Go Go.ChangeShapes Go.WideShapes Go.ChangeAt Go.RowKit Go.Joins
open Go.ChangeMaps (open_string shut_string)
set_option linter.unusedVariables false
set_option maxRecDepth 100000
theorem lifted (os : Os) (started : os.Started) (H : Type) (enc : TypeId × Value → H) :
    ReturnsInHanded {} Tryd.checked os 3 .any (fun w args => (Rows.fnSumSpec.pre enc Tryd.prog Tryd.f3 [] false w args ∧ laidMetH Tryd.prog kLaid w) ∧ sizedMet enc Tryd.prog Tryd.f3 (OpenSpec.ofChange Rows.fnSumSpec) false w args)
      (Rows.fnSumSpec.post enc Tryd.prog Tryd.f3 false true false false) := by
  refine handed_shaped_and (C := Tryd.checked) (X := fun w _ => laidMetH Tryd.prog kLaid w) (fun _ _ _ hh h => h.of_heap hh) ownKnobNone started (by kernel_rfl) Tryd.func3
    (ChangeSpec.witness_shaped (enc := enc) (C := Tryd.checked) (os := os) (X := fun w _ => laidMetH Tryd.prog kLaid w) false (World.doorLaid Tryd.prog 400 os) #[.agg #[.int .i64 0, .int .i64 0, .int .i64 0], .slice none 0 0] 8 rfl (World.shaped_of_RefB (by kernel_rfl) (by kernel_rfl)) (by kernel_rfl) (by kernel_rfl) (by kernel_rfl) (door_met os _)) ?_
  intro W base args ds gs before hval0 hW hsh hL
  have hK := k_laid hsh hL
  have hval : ∀ (j : Nat) t v, Tryd.f3.params[j]? = some t → args[j]? = some v → Value.okWide Tryd.prog W .any base t v := hval0
  have hW' := hW
  obtain ⟨p, q, hA0, hV0, rfl, hfz, hnd⟩ := hW
  have hA : DataW.TrodAll enc Tryd.prog W 0 (fun _ => true) true Tryd.f3.params.toList args.toList ds p := hA0
  have hV : DataW.TrodVars enc Tryd.prog W (fun _ => true) ["loop.example/pub-g03030/pub/sha256._K"] gs q := hV0
  rw [Tryd.params3] at hA hval
  obtain ⟨v0, vs0, d0, ds0, p0, q0, hargs, rfl, rfl, h0, r0⟩ := trodAll_cons hA
  obtain ⟨v1, vs1, d1, ds1, p1, q1, rfl, rfl, rfl, h1, r1⟩ := trodAll_cons r0
  obtain ⟨rfl, rfl, rfl⟩ := trodAll_nil r1
  obtain rfl : args = #[v0, v1] := by cases args; simp_all
  obtain ⟨dg, rfl⟩ : ∃ dg, gs = [dg] := by obtain ⟨_, _, _, _, dg, _, e, _⟩ := trodVars_one hV; exact ⟨dg, e⟩
  have k0 := h0
  obtain ⟨kd, sz, bk, rfl⟩ := open_hash (hval 0 23 v0 rfl rfl) h0
  have k1 := h1
  obtain ⟨x1, b1⟩ := open_bs (hval 1 24 v1 rfl rfl) h1
  refine (law_sum W hK kd sz bk v1 x1 b1).mono fun e W' ⟨he, hc⟩ => ?_
  subst he
  have bel := hc.below
  exact ⟨_, rfl, _, _, _, [], _, _, hW', trodAll_mk1 (shut_bool Tryd.underlying4 _), (trodAll_cons_mk (stays (by kernel_rfl) (of_decide_eq_true (by kernel_rfl)) k0 bel) (trodAll_cons_mk (stays (by kernel_rfl) (of_decide_eq_true (by kernel_rfl)) k1 bel) trodAll_mk0)), Below.trodVars laidOutAll bel (by kernel_rfl) hV, bel.frame _, fun h => by cases h⟩

theorem over : Rows.fnSumRow.holds Tryd.pinned (OpenSpec.ofChange Rows.fnSumSpec) :=
  OpenClaim.holds_of_wide 3 Tryd.f3 rfl rfl rfl rfl rfl rfl rfl ⟨rfl, rfl, rfl, rfl, rfl⟩ rfl rfl rfl rfl rfl (by kernel_rfl) Tryd.func3 (by kernel_rfl)
    (of_decide_eq_true (by kernel_rfl)) (by unfold Func.isWrapper; rw [if_neg (of_decide_eq_false (by kernel_rfl))]; exact ⟨rfl, rfl⟩)
    (fun os started H enc _ => lifted os started H enc)
theorem said : Rows.FnSumSaid := over
theorem card_said : Rows.FnSumCardSaid :=
  Claim7.holds_tied_plain_at .later [] [.data] true Rows.fnSumCard.stood.harness true
    over (fun _ h => by cases h) (by kernel_rfl) (fun _ h => by cases h) fnSum_row_tie rfl ⟨rfl, rfl⟩ (by kernel_rfl) rfl
    (fun f fn hf hfn => by
      obtain rfl : f = 3 := (Option.some.inj ((show Tryd.prog.funcNamed "loop.example/pub-g03030/laws.FnSum" = some 3 by kernel_rfl).symm.trans hf)).symm
      obtain rfl : fn = Tryd.f3 := (Option.some.inj (Tryd.func3.symm.trans hfn)).symm
      exact ⟨by kernel_rfl, fun j t ht => by
        rw [Tryd.params3] at ht
        rcases j with _ | _ | j
        · obtain rfl : t = 23 := by simpa using ht.symm
          exact (show Tryd.prog.wantsStandIn 23 = false by kernel_rfl)
        · obtain rfl : t = 24 := by simpa using ht.symm
          exact (show Tryd.prog.wantsStandIn 24 = false by kernel_rfl)
        · simp at ht⟩)
    (by kernel_rfl)
#print axioms card_said
end Go.Proofs.YtknoomndofnnmaaDoor.LawFnSum
