/- A region that draws its order, walked once in the order of a plan: the wider make (extract, slice among what yields anywhere). -/
import Derived.Test.YtknoomndofnnmaaDoorStill
namespace Go.Proofs.YtknoomndofnnmaaDoor
open Go Go.RowKit

theorem Uni.extract {P : Program} (v : Value) (i : Nat) : Uni P (Instr.extract v i) := by
  unfold Instr.extract
  repeat' first | exact Uni.pure _ | exact Uni.stuck _ | split
theorem Uni.addr {P : Program} (v : Value) : Uni P (asAddr v) := by
  unfold asAddr
  split
  · exact Uni.pure _
  · exact Uni.panic _
  · exact Uni.stuck _
/-- An operation that yields in whatever world what it yields in this one. -/
def uniOp2 (P : Program) : Op → Bool
  | .move _ | .assign _ | .nilCheck _ | .indexAddr _ _ _ | .extract _ _ => true
  | .fieldAddr s _ f => fullField P s f
  | _ => false
theorem uniOp2.uni {P : Program} {o : Oper} (h : uniOp2 P o.op = true) (ρ : Operand → Value) : Uni P (execOp ρ o) := by
  cases ho : o.op with
  | nilCheck x => exact Uni.nilCheck ho
  | move x => unfold execOp; rw [ho]; exact Uni.pure _
  | assign x => unfold execOp; rw [ho]; exact Uni.pure _
  | indexAddr t x i => unfold execOp; rw [ho]; exact (Uni.indexAt _ _ _).bind fun _ => Uni.pure _
  | extract x i => unfold execOp; rw [ho]; exact (Uni.extract _ _).bind fun _ => Uni.pure _
  | fieldAddr s x f => unfold execOp; rw [ho] at h ⊢; exact (Uni.fieldAt _ h).bind fun _ => Uni.pure _
  | _ => rw [ho] at h; cases h
theorem uniOp2.plain {P : Program} {o : Oper} (h : uniOp2 P o.op = true) : plainKind o.op = true := by
  cases ho : o.op with
  | nilCheck x => rfl
  | move x => rfl
  | assign x => rfl
  | indexAddr t x i => rfl
  | extract x i => rfl
  | fieldAddr s x f => rfl
  | _ => rw [ho] at h; cases h
section
variable {P : Program} {w : World}
/-- The operations in the order of the plan: each either yields in whatever world and may come now, or is the only one that may come now. -/
def planB2 (P : Program) (ops : Array Oper) : List Nat → Array Bool → Bool
  | [], listed => (Region.ready .any ops listed).isEmpty
  | i :: r, listed => (decide (Region.ready .any ops listed = [i]) || ((Region.ready .any ops listed).contains i && Region.free .any ops listed i && ((ops[i]?).map (fun o => uniOp2 P o.op && o.guard.isNone)).getD false)) &&
      planB2 P ops r (listed.setIfInBounds i true)
theorem uni_yields2 {P : Program} {ops : Array Oper} {o : Oper} (hm : (uniOp2 P o.op && o.guard.isNone) = true) {Q : Exit → Act → World → Prop} {K : List Oper} {a : Act} {w : World} (h : wpList P ops (Held2 Q) (o :: K) a w) :
    ∃ v, Yields P ops o v a ∧ wpList P ops (Held2 Q) K (a.put o.dst v) w := by
  simp only [Bool.and_eq_true, Option.isNone_iff_eq_none] at hm
  have hw : Region.wanted o (yielded ops a.tmps) = true := by simp [Region.wanted, hm.2]
  unfold wpList at h
  rw [if_pos hw] at h
  rcases h with h | ⟨_, _, _, h⟩
  · unfold Oper.wp at h
    have hu := uniOp2.uni hm.1 a.eval
    generalize hr : (execOp a.eval o).run P w = r at h
    cases r with
    | ok x w' =>
      obtain ⟨v, rfl⟩ := plain_value (uniOp2.plain hm.1) hr
      have hx := hu _ _ _ hr
      have e := hx w
      rw [hr] at e
      cases e
      exact ⟨v, .inl ⟨hw, hx⟩, h⟩
    | halt x w' => cases x <;> exact h.elim
  · exact h.elim
theorem plan_any2 {P : Program} {ops : Array Oper} {Q : Exit → Act → World → Prop} (hs : Region.noSelect ops = true) : ∀ (plan : List Nat) (listed : Array Bool) (a : Act) (w : World),
    planB2 P ops plan listed = true → wpList P ops (Held2 Q) (plan.filterMap (ops[·]?)) a w → wpAny P .any ops (Held2 Q) plan.length listed a w
  | [], listed, a, w, hB, h => ⟨by simpa [planB2] using hB, h⟩
  | i :: r, listed, a, w, hB, h => by
    simp only [planB2, Bool.and_eq_true, Bool.or_eq_true, decide_eq_true_eq] at hB
    obtain ⟨hB1, hB2⟩ := hB
    have hi : ∃ o, ops[i]? = some o := by
      rcases hB1 with h1 | h1
      · have : i ∈ Region.ready .any ops listed := by rw [h1]; simp
        obtain ⟨_, o, ho, _⟩ := mem_ready.1 this
        exact ⟨o, ho⟩
      · cases ho : ops[i]? with
        | none => simp [ho] at h1
        | some o => exact ⟨o, rfl⟩
    obtain ⟨o, ho⟩ := hi
    simp only [List.filterMap_cons, ho] at h
    rcases hB1 with h1 | h1
    · refine ⟨fun h0 => (by rw [h1] at h0; cases h0), fun j hj => ?_⟩
      rw [h1] at hj
      obtain rfl : j = i := by simpa using hj
      have hw : wpOp P ops (Held2 Q) j (wpList P ops (Held2 Q) (r.filterMap (ops[·]?))) a w := by unfold wpOp; simp only [ho]; exact h
      exact wpOp_mono (fun a' w' h' => plan_any2 hs r _ a' w' hB2 h') hw
    · simp only [ho, Option.map_some, Option.getD_some] at h1
      obtain ⟨v, hy, hK⟩ := uni_yields2 (P := P) (by simpa using h1.2) h
      exact wpAny_take ho hs h1.1.2 h1.1.1 (fun _ _ _ h => h.elim) hy (plan_any2 hs r _ _ w hB2 hK)
/-- One walk, in the order of the plan. -/
theorem region_plan2 {id : Nat} {Q : Exit → Act → World → Prop} {a : Act} {l : List Oper} (plan : List Nat) (hm : P.follows .mixedOrders = true)
    (hB : (Region.noSelect l.toArray && decide (plan.length = l.toArray.size) && planB2 P l.toArray plan (Array.replicate l.toArray.size false)) = true) 
    (h : wpList P l.toArray (Held2 Q) (plan.filterMap (l[·]?)) a w.drew) : (Code.region id l.toArray true).wp P Q a w := by
  simp only [Bool.and_eq_true, decide_eq_true_eq] at hB
  refine wp_mono (Q := Held2 Q) (wp_region_any hm ?_) fun e a w h => by cases e <;> first | exact h | exact h.elim
  have := plan_any2 hB.1.1 plan _ a _ hB.2 (by simpa using h)
  rw [hB.1.2] at this
  exact this
end
/-- A type assertion, in a region's head. -/
theorem still_one2 {P : Program} {ops : Array Oper} {w : World} {Q : Act → Prop} {o : Oper} {rest : List Oper} {a : Act} {x : Operand} {t u : TypeId} {c : Bool} (ho : o.op = .typeAssert x t u c) (h : wpList P ops (Held1 P ops w Q rest) [o] a w) : wpStill P ops w Q (o :: rest) a := by
  unfold wpList at h
  unfold wpStill
  split
  · rename_i hw
    rw [if_pos hw] at h
    rcases h with h | ⟨_, _, _, h⟩
    · unfold Oper.wp at h
      unfold Oper.still
      generalize hr : (execOp a.eval o).run P w = r at h
      cases r with
      | ok x w' =>
        obtain ⟨v, rfl⟩ : ∃ v, x = .value v := by
          unfold execOp at hr
          rw [ho] at hr
          exact value_only hr
        exact h
      | halt x w' => cases x <;> exact h.elim
    · exact h.elim
  · rename_i hw
    rw [if_neg hw] at h
    exact h.2
end Go.Proofs.YtknoomndofnnmaaDoor
