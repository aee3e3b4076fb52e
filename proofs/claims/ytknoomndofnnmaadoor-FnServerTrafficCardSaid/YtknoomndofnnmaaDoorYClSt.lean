/- The law FnServerTraffic: for every input that its row speaks of the call answers true and leaves its arguments as they were. The card: the listed constants are tied to the program's text. -/
import Derived.Test.YtknoomndofnnmaaDoorYLawSt
import Derived.Test.YtknoomndofnnmaaDoorYFrame
import Derived.Test.YtknoomndofnnmaaDoorCards
import Derived.Test.YtknoomndofnnmaaDoorTie
import Derived.SevenTiedAt
namespace Go.Proofs.YtknoomndofnnmaaDoor.LawFnServerTraffic
open Go Go.ChangeShapes Go.WideShapes Go.ChangeAt Go.RowKit Go.Joins
open Go.ChangeMaps (open_string shut_string)
set_option linter.unusedVariables false
set_option maxRecDepth 100000
theorem lifted (os : Os) (started : os.Started) (H : Type) (enc : TypeId × Value → H) :
    ReturnsInHanded {} Tryd.checked os 15 .any (fun w args => (Rows.fnServerTrafficSpec.pre enc Tryd.prog Tryd.f15 [] false w args ∧ laidMetH Tryd.prog kLaid w) ∧ sizedMet enc Tryd.prog Tryd.f15 (OpenSpec.ofChange Rows.fnServerTrafficSpec) false w args)
      (Rows.fnServerTrafficSpec.post enc Tryd.prog Tryd.f15 false true false false) := by
  refine handed_shaped_and (C := Tryd.checked) (X := fun w _ => laidMetH Tryd.prog kLaid w) (fun _ _ _ hh h => h.of_heap hh) ownKnobNone started (by kernel_rfl) Tryd.func15
    (ChangeSpec.witness_shaped (enc := enc) (C := Tryd.checked) (os := os) (X := fun w _ => laidMetH Tryd.prog kLaid w) false (World.doorLaid Tryd.prog 400 os) #[.agg #[.int .i64 0, .int .i64 0, .int .i64 0], .slice none 0 0, .slice none 0 0, .slice none 0 0] 8 rfl (World.shaped_of_RefB (by kernel_rfl) (by kernel_rfl)) (by kernel_rfl) (by kernel_rfl) (by kernel_rfl) (door_met os _)) ?_
  intro W base args ds gs before hval0 hW hsh hL
  have hK := k_laid hsh hL
  have hval : ∀ (j : Nat) t v, Tryd.f15.params[j]? = some t → args[j]? = some v → Value.okWide Tryd.prog W .any base t v := hval0
  have hW' := hW
  obtain ⟨p, q, hA0, hV0, rfl, hfz, hnd⟩ := hW
  have hA : DataW.TrodAll enc Tryd.prog W 0 (fun _ => true) true Tryd.f15.params.toList args.toList ds p := hA0
  have hV : DataW.TrodVars enc Tryd.prog W (fun _ => true) ["loop.example/pub-g03030/pub/sha256._K"] gs q := hV0
  rw [Tryd.params15] at hA hval
  obtain ⟨v0, vs0, d0, ds0, p0, q0, hargs, rfl, rfl, h0, r0⟩ := trodAll_cons hA
  obtain ⟨v1, vs1, d1, ds1, p1, q1, rfl, rfl, rfl, h1, r1⟩ := trodAll_cons r0
  obtain ⟨v2, vs2, d2, ds2, p2, q2, rfl, rfl, rfl, h2, r2⟩ := trodAll_cons r1
  obtain ⟨v3, vs3, d3, ds3, p3, q3, rfl, rfl, rfl, h3, r3⟩ := trodAll_cons r2
  obtain ⟨rfl, rfl, rfl⟩ := trodAll_nil r3
  obtain rfl : args = #[v0, v1, v2, v3] := by cases args; simp_all
  obtain ⟨dg, rfl⟩ : ∃ dg, gs = [dg] := by obtain ⟨_, _, _, _, dg, _, e, _⟩ := trodVars_one hV; exact ⟨dg, e⟩
  have k0 := h0
  obtain ⟨kd, sz, bk, rfl⟩ := open_hash (hval 0 23 v0 rfl rfl) h0
  have k1 := h1
  obtain ⟨x1, b1⟩ := open_bs (hval 1 24 v1 rfl rfl) h1
  have k2 := h2
  obtain ⟨x2, b2⟩ := open_bs (hval 2 24 v2 rfl rfl) h2
  have k3 := h3
  obtain ⟨x3, b3⟩ := open_bs (hval 3 24 v3 rfl rfl) h3
  refine (law_FnServerTraffic W hK kd sz bk v1 x1 b1 v2 x2 b2 v3 x3 b3).mono fun e W' ⟨he, hc⟩ => ?_
  subst he
  have bel := hc.below
  exact ⟨_, rfl, _, _, _, [], _, _, hW', trodAll_mk1 (shut_bool Tryd.underlying4 _), (trodAll_cons_mk (stays (by kernel_rfl) (of_decide_eq_true (by kernel_rfl)) k0 bel) (trodAll_cons_mk (stays (by kernel_rfl) (of_decide_eq_true (by kernel_rfl)) k1 bel) (trodAll_cons_mk (stays (by kernel_rfl) (of_decide_eq_true (by kernel_rfl)) k2 bel) (trodAll_cons_mk (stays (by kernel_rfl) (of_decide_eq_true (by kernel_rfl)) k3 bel) trodAll_mk0)))), Below.trodVars laidOutAll bel (by kernel_rfl) hV, bel.frame _, fun h => by cases h⟩

theorem over : Rows.fnServerTrafficRow.holds Tryd.pinned (OpenSpec.ofChange Rows.fnServerTrafficSpec) :=
  OpenClaim.holds_of_wide 15 Tryd.f15 rfl rfl rfl rfl rfl rfl rfl ⟨rfl, rfl, rfl, rfl, rfl⟩ rfl rfl rfl rfl rfl (by kernel_rfl) Tryd.func15 (by kernel_rfl)
    (of_decide_eq_true (by kernel_rfl)) (by unfold Func.isWrapper; rw [if_neg (of_decide_eq_false (by kernel_rfl))]; exact ⟨rfl, rfl⟩)
    (fun os started H enc _ => lifted os started H enc)
theorem said : Rows.FnServerTrafficSaid := over
theorem card_said : Rows.FnServerTrafficCardSaid :=
  Claim7.holds_tied_plain_at .later [] [.data] true Rows.fnServerTrafficCard.stood.harness true
    over (fun _ h => by cases h) (by kernel_rfl) (fun _ h => by cases h) fnServerTraffic_row_tie rfl ⟨rfl, rfl⟩ (by kernel_rfl) rfl
    (fun f fn hf hfn => by
      obtain rfl : f = 15 := (Option.some.inj ((show Tryd.prog.funcNamed "loop.example/pub-g03030/laws.FnServerTraffic" = some 15 by kernel_rfl).symm.trans hf)).symm
      obtain rfl : fn = Tryd.f15 := (Option.some.inj (Tryd.func15.symm.trans hfn)).symm
      exact ⟨by kernel_rfl, fun j t ht => by
        rw [Tryd.params15] at ht
        rcases j with _ | _ | _ | _ | j
        · obtain rfl : t = 23 := by simpa using ht.symm
          exact (show Tryd.prog.wantsStandIn 23 = false by kernel_rfl)
        · obtain rfl : t = 24 := by simpa using ht.symm
          exact (show Tryd.prog.wantsStandIn 24 = false by kernel_rfl)
        · obtain rfl : t = 24 := by simpa using ht.symm
          exact (show Tryd.prog.wantsStandIn 24 = false by kernel_rfl)
        · obtain rfl : t = 24 := by simpa using ht.symm
          exact (show Tryd.prog.wantsStandIn 24 = false by kernel_rfl)
        · simp at ht⟩)
    (by kernel_rfl)
#print axioms card_said
end Go.Proofs.YtknoomndofnnmaaDoor.LawFnServerTraffic
