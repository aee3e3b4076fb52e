/- A region that draws its order, walked once in the order of a plan, where loads of places that nothing turns may come at any time. -/
import Derived.Test.YtknoomndofnnmaaDoorPlan
import Derived.OrdersHeld
import Derived.Deep.MidRow
namespace Go.Proofs.YtknoomndofnnmaaDoor
open Go Go.RowKit
section
variable {P : Program} {ops : Array Oper} {Q : Exit → Act → World → Prop} {S : World → Prop}

/-- The plan's operations, one by one: (o, true): it yields the same whenever it comes; (o, false): it is the only one that may come. -/
def wpPlan (P : Program) (ops : Array Oper) (S : World → Prop) (Q : Exit → Act → World → Prop) : List (Oper × Bool) → Act → World → Prop
  | [], a, w => Q .normal a w
  | (o, true) :: r, a, w => ∃ v, YieldsIf P ops S o v a ∧ wpPlan P ops S Q r (a.put o.dst v) w
  | (o, false) :: r, a, w => wpList P ops (fun
      | .normal, a', w' => S w' ∧ wpPlan P ops S Q r a' w'
      | _, _, _ => False) [o] a w
/-- Behind one operation. -/
def HeldN (P : Program) (ops : Array Oper) (S : World → Prop) (Q : Exit → Act → World → Prop) (r : List (Oper × Bool)) : Exit → Act → World → Prop
  | .normal, a, w => S w ∧ wpPlan P ops S Q r a w
  | _, _, _ => False
theorem HeldN.mk {r : List (Oper × Bool)} {a : Act} {w : World} (hS : S w) (h : wpPlan P ops S Q r a w) : HeldN P ops S Q r .normal a w := ⟨hS, h⟩
theorem plan_step {o : Oper} {r : List (Oper × Bool)} {a : Act} {w : World} (h : wpList P ops (HeldN P ops S Q r) [o] a w) : wpPlan P ops S Q ((o, false) :: r) a w := by
  unfold wpPlan
  have e : (fun (e : Exit) (a' : Act) (w' : World) => HeldN P ops S Q r e a' w') = (fun
      | .normal, a', w' => S w' ∧ wpPlan P ops S Q r a' w'
      | _, _, _ => False) := by
    funext e a' w'
    cases e <;> rfl
  rw [← e]
  exact h
/-- Behind one that yields anywhere. -/
def HeldU (P : Program) (ops : Array Oper) (S : World → Prop) (Q : Exit → Act → World → Prop) (r : List (Oper × Bool)) : Exit → Act → World → Prop
  | .normal, a, w => wpPlan P ops S Q r a w
  | _, _, _ => False
theorem HeldU.mk {r : List (Oper × Bool)} {a : Act} {w : World} (h : wpPlan P ops S Q r a w) : HeldU P ops S Q r .normal a w := h
theorem plan_uni {o : Oper} {r : List (Oper × Bool)} {a : Act} {w : World} (hu : uniOp2 P o.op = true) (hg : o.guard = none) (h : wpList P ops (HeldU P ops S Q r) [o] a w) : wpPlan P ops S Q ((o, true) :: r) a w := by
  have hw : Region.wanted o (yielded ops a.tmps) = true := by simp [Region.wanted, hg]
  unfold wpList at h
  rw [if_pos hw] at h
  unfold wpPlan
  rcases h with h | ⟨_, _, _, h⟩
  · unfold Oper.wp at h
    have huu := uniOp2.uni hu a.eval
    generalize hr : (execOp a.eval o).run P w = x at h
    cases x with
    | ok x w' =>
      obtain ⟨v, rfl⟩ := plain_value (uniOp2.plain hu) hr
      have hx := huu _ _ _ hr
      have e := hx w
      rw [hr] at e
      cases e
      exact ⟨v, .inl ⟨hw, fun w' _ => hx w'⟩, h⟩
    | halt x w' => cases x <;> exact h.elim
  · exact h.elim
theorem plan_load {o : Oper} {r : List (Oper × Bool)} {a : Act} {w : World} (t : TypeId) (x : Operand) (p : Addr) (v : Value) (ho : o.op = .load t x) (hg : o.guard = none) (hx : a.eval x = .pointer (some p)) (hl : ∀ w, S w → (Instr.loadAt t (.pointer (some p))).run P w = .ok v w)
    (h : wpPlan P ops S Q r (a.put o.dst v) w) : wpPlan P ops S Q ((o, true) :: r) a w := by
  unfold wpPlan
  refine ⟨v, .inl ⟨by simp [Region.wanted, hg], fun w hw => ?_⟩, h⟩
  unfold execOp
  rw [ho]
  simp only [hx, Sem.run_bind, hl w hw, Result.andThen_ok, Sem.run_pure]
theorem plan_nil {a : Act} {w : World} (h : Q .normal a w) : wpPlan P ops S Q [] a w := h
/-- The order fits the region. -/
def planB3 (ops : Array Oper) : List (Nat × Bool) → Array Bool → Bool
  | [], listed => (Region.ready .any ops listed).isEmpty
  | (i, false) :: r, listed => decide (Region.ready .any ops listed = [i]) && planB3 ops r (listed.setIfInBounds i true)
  | (i, true) :: r, listed => (Region.ready .any ops listed).contains i && Region.free .any ops listed i && planB3 ops r (listed.setIfInBounds i true)
theorem plan_any3 (hs : Region.noSelect ops = true) : ∀ (plan : List (Nat × Bool)) (listed : Array Bool) (a : Act) (w : World),
    planB3 ops plan listed = true → S w → wpPlan P ops S (Held2 Q) (plan.filterMap fun x => (ops[x.1]?).map (·, x.2)) a w → wpAnyH P .any ops (Held2 Q) S plan.length listed a w
  | [], listed, a, w, hB, _, h => ⟨by simpa [planB3] using hB, h⟩
  | (i, true) :: r, listed, a, w, hB, hSw, h => by
    simp only [planB3, Bool.and_eq_true] at hB
    obtain ⟨⟨hB0, hB1⟩, hB2⟩ := hB
    have hi : ∃ o, ops[i]? = some o := by
      have : i ∈ Region.ready .any ops listed := by simpa using hB0
      obtain ⟨_, o, ho, _⟩ := mem_ready.1 this
      exact ⟨o, ho⟩
    obtain ⟨o, ho⟩ := hi
    simp only [List.filterMap_cons, ho, Option.map_some] at h
    unfold wpPlan at h
    obtain ⟨v, hy, hK⟩ := h
    exact wpAnyH_take ho hs hB1 hB0 (fun _ _ _ h => h.elim) hy hSw (plan_any3 hs r _ _ w hB2 hSw hK)
  | (i, false) :: r, listed, a, w, hB, hSw, h => by
    simp only [planB3, Bool.and_eq_true, decide_eq_true_eq] at hB
    obtain ⟨hB1, hB2⟩ := hB
    have hi : ∃ o, ops[i]? = some o := by
      have : i ∈ Region.ready .any ops listed := by rw [hB1]; simp
      obtain ⟨_, o, ho, _⟩ := mem_ready.1 this
      exact ⟨o, ho⟩
    obtain ⟨o, ho⟩ := hi
    simp only [List.filterMap_cons, ho, Option.map_some] at h
    refine wpAnyH_all hB1 (by simp) fun j hj => ?_
    obtain rfl : j = i := by simpa using hj
    unfold wpPlan at h
    unfold wpOp
    simp only [ho]
    unfold wpList at h
    have key : ∀ a' w', (S w' ∧ wpPlan P ops S (Held2 Q) (r.filterMap fun x => (ops[x.1]?).map (·, x.2)) a' w') → S w' ∧ wpAnyH P .any ops (Held2 Q) S r.length (listed.setIfInBounds j true) a' w' := fun a' w' h' => ⟨h'.1, plan_any3 hs r _ a' w' hB2 h'.1 h'.2⟩
    split
    · rename_i hw
      rw [if_pos hw] at h
      rcases h with h | ⟨_, _, _, h⟩
      · refine .inl ?_
        unfold Oper.wp at h ⊢
        generalize (execOp a.eval o).run P w = y at h
        cases y with
        | ok x w' =>
          cases x with
          | value v => exact key _ _ h
          | skip => exact key _ _ h
          | defer d => exact key _ _ h
          | enter f args =>
            refine Calls.mono (R := fun | .returned v, w'' => wpList P ops _ [] (a.put o.dst v) w'' | .panicked chain, w'' => False | .outgrown, _ => LetsOut _) h ?_
            rintro (v | c | _) w2 h2
            · exact key _ _ h2
            · exact h2.elim
            · obtain ⟨_, _, h3⟩ := h2; exact h3.elim
          | row r args => exact Rows.mono h fun v w2 h2 => key _ _ h2
          | _ => exact h.elim
        | halt x w' => cases x <;> exact h.elim
      · exact h.elim
    · rename_i hw
      rw [if_neg hw] at h
      exact key _ _ h
/-- One walk, in the order of the plan. -/
theorem region_held {id : Nat} {a : Act} {w : World} {l : List Oper} (S : World → Prop) (plan : List (Nat × Bool)) (hm : P.follows .mixedOrders = true)
    (hB : (Region.noSelect l.toArray && decide (plan.length = l.toArray.size) && planB3 l.toArray plan (Array.replicate l.toArray.size false)) = true) (hS : S w.drew)
    (h : wpPlan P l.toArray S (Held2 Q) (plan.filterMap fun x => (l[x.1]?).map (·, x.2)) a w.drew) : (Code.region id l.toArray true).wp P Q a w := by
  simp only [Bool.and_eq_true, decide_eq_true_eq] at hB
  refine wp_mono (Q := Held2 Q) (wp_region_held (S := S) hm ?_) fun e a w h => by cases e <;> first | exact h | exact h.elim
  have := plan_any3 hB.1.1 plan _ a _ hB.2 hS (by simpa using h)
  rw [hB.1.2] at this
  exact this
end

/-- A call of a function value. -/
theorem call_value {ops : Array Oper} {rest : List Oper} {o : Oper} {a : Act} {w : World} {Q : Exit → Act → World → Prop} (F : Operand) {f : FuncId} {fst cap : Array Value} (hgd : o.guard = none) (ats : Array TypeId)
    (ho : o.op = .call { callee := .value F, args := #[], argTypes := ats }) (hr : a.eval F = .func (.func f) fst cap) (hf : ∀ vs W, (callFunc f vs).run Tryd.prog W = .ok (.enter f vs) W)
    {R : Value → World → Prop} (hc : Calls Tryd.prog f (fst ++ cap) w fun e w' => ∃ x, e = .returned x ∧ R x w') (h : ∀ x w', R x w' → wpList Tryd.prog ops Q rest (a.put o.dst x) w') : wpList Tryd.prog ops Q (o :: rest) a w := by
  refine wpList_plain hgd fun K hK => ?_
  unfold Oper.wp
  have e : (execOp a.eval o).run Tryd.prog w = .ok (.enter f (fst ++ cap)) w := by
    unfold execOp
    simp only [ho, resolve, Sem.run_bind, Sem.run_pure, Result.andThen_ok, hr, Deferred.ofValue]
    unfold invoke
    simp [hf]
  rw [e, Oper.upon_enter]
  refine hc.mono ?_
  rintro e w' ⟨x, rfl, hx⟩
  exact hK _ _ (h x w' hx)
theorem ld_hmac {W : World} {p : Addr} {v : Value} (h : W.cell? p = some v) : (Instr.loadAt 115 (.pointer (some p))).run Tryd.prog W = .ok v W := by simp [go_sem, h]
theorem ld_slice {W : World} {p : Addr} {v : Value} (h : W.cell? p = some v) : (Instr.loadAt 24 (.pointer (some p))).run Tryd.prog W = .ok v W := by simp [go_sem, h]
theorem ld_hash {W : World} {p : Addr} {v : Value} (h : W.cell? p = some v) : (Instr.loadAt 89 (.pointer (some p))).run Tryd.prog W = .ok v W := by simp [go_sem, h]
end Go.Proofs.YtknoomndofnnmaaDoor
