/- A region that draws its order, walked once in the text's order: the operations ahead of place n leave the world alone, one by one. A region that draws its order, walked once in the order of a plan: the wider make (extract, slice among what yields anywhere). A region that draws its order, walked once in the order of a plan, where loads of places that nothing turns may come at any time. -/
import Derived.Test.YtknoomndofnnmaaDoorYBase
import Derived.OrdersHeld
import Derived.Deep.MidRow
namespace Go.Proofs.YtknoomndofnnmaaDoor
open Go Go.RowKit

/-- Operations that never enter a function. -/
def plainKind : Op → Bool
  | .move _ | .assign _ | .load _ _ | .nilCheck _ | .binOp _ _ _ _ _ | .unOp _ _ _ | .convert _ _ _ | .fieldAddr _ _ _ | .field _ _ _ | .indexAddr _ _ _ | .index _ _ _
  | .slice _ _ _ _ _ | .extract _ _ | .makeFunc _ _ _ | .makeInterface _ _ | .build _ _ | .sliceToArrayPointer _ _ => true
  | .call { callee := .builtin .len, .. } => true
  | .call { callee := .builtin .min, .. } => true
  | _ => false

section
variable {P : Program} {ops : Array Oper} {w : World}

/-- Behind one operation of a region: the world is as it was; what is left goes on. -/
def Held1 (P : Program) (ops : Array Oper) (w : World) (Q : Act → Prop) (rest : List Oper) : Exit → Act → World → Prop
  | .normal, a', w' => w' = w ∧ wpStill P ops w Q rest a'
  | _, _, _ => False
theorem Held1.mk {Q : Act → Prop} {rest : List Oper} {a : Act} (h : wpStill P ops w Q rest a) : Held1 P ops w Q rest .normal a w := ⟨rfl, h⟩

theorem value_only {s : Sem Value} {P : Program} {w w' : World} {x : Next} (h : (do pure (Next.value (← s)) : Sem Next).run P w = .ok x w') : ∃ v, x = .value v := by
  simp only [Sem.run_bind] at h
  cases hs : s.run P w with
  | ok v w1 => simp [hs, Result.andThen, Sem.run_pure] at h; exact ⟨v, h.1.symm⟩
  | halt y w1 => simp [hs, Result.andThen] at h

theorem bind_value {β : Type} {s : Sem β} {f : β → Sem Next} {P : Program} {w w' : World} {x : Next} (h : (s >>= f).run P w = .ok x w') (hf : ∀ b w1, (f b).run P w1 = .ok x w' → ∃ v, x = .value v) : ∃ v, x = .value v := by
  rw [Sem.run_bind] at h
  cases hs : s.run P w with
  | ok b w1 => rw [hs] at h; exact hf b w1 h
  | halt y w1 => rw [hs] at h; cases h

theorem nil_value {P : Program} {ρ : Operand → Value} {o : Oper} {x : Operand} (ho : o.op = .nilCheck x) {w w' : World} {y : Next} (h : (execOp ρ o).run P w = .ok y w') : ∃ v, y = .value v := by
  unfold execOp at h
  rw [ho] at h
  dsimp only at h
  split at h
  · simp [runtimePanic] at h
  · simp [runtimePanic] at h
  · simp [runtimePanic] at h
  · split at h
    · simp [runtimePanic] at h
    · refine bind_value h fun b w1 h => bind_value h fun b w2 h => ?_
      split at h
      · exact bind_value h fun b w3 h => value_only (s := pure _) h
      · exact value_only (s := pure _) h
    · exact value_only (s := pure _) h
  · exact value_only (s := pure _) h

theorem plain_value {P : Program} {ρ : Operand → Value} {o : Oper} (hk : plainKind o.op = true) {w w' : World} {x : Next} (h : (execOp ρ o).run P w = .ok x w') : ∃ v, x = .value v := by
  cases ho : o.op with
  | nilCheck y => exact nil_value ho h
  | call c =>
    rw [ho] at hk
    obtain ⟨callee, args, ats⟩ := c
    cases callee with
    | builtin b =>
      cases b <;> simp [plainKind] at hk
      all_goals (unfold execOp at h; rw [ho] at h; exact value_only h)
    | value _ => simp [plainKind] at hk
    | invoke _ _ => simp [plainKind] at hk
  | _ => first | (rw [ho] at hk; simp [plainKind] at hk; done) | (unfold execOp at h; rw [ho] at h; first | exact value_only h | exact value_only (s := pure _) h)

theorem still_one {Q : Act → Prop} {o : Oper} {rest : List Oper} {a : Act} (hk : plainKind o.op = true) (h : wpList P ops (Held1 P ops w Q rest) [o] a w) : wpStill P ops w Q (o :: rest) a := by
  unfold wpList at h
  unfold wpStill
  split
  · rename_i hw
    rw [if_pos hw] at h
    rcases h with h | ⟨_, _, _, h⟩
    · unfold Oper.wp at h
      unfold Oper.still
      generalize hr : (execOp a.eval o).run P w = r at h
      cases r with
      | ok x w' =>
        obtain ⟨v, rfl⟩ := plain_value hk hr
        exact h
      | halt x w' => cases x <;> exact h.elim
    · exact h.elim
  · rename_i hw
    rw [if_neg hw] at h
    exact h.2

/-- Reads, then a tail in a forced order: one walk. -/
theorem region_tail {id : Nat} {Q : Exit → Act → World → Prop} {a : Act} {l : List Oper} (n : Nat) (hm : P.follows .mixedOrders = true) (hB : Region.lexTailB .any l.toArray n = true)
    (h : wpStill P l.toArray w.drew (fun a' => wpList P l.toArray Q (l.drop n) a' w.drew) (l.take n) a) : (Code.region id l.toArray true).wp P Q a w :=
  wp_region_still_tail n hm hB h
/-- Reads alone: one walk. -/
theorem region_reads {id : Nat} {Q : Exit → Act → World → Prop} {a : Act} {l : List Oper} (hm : P.follows .mixedOrders = true) (hB : Region.lexB .any l.toArray = true)
    (h : wpStill P l.toArray w.drew (fun a' => Q .normal a' w.drew) l a) : (Code.region id l.toArray true).wp P Q a w :=
  wp_region_still_lit hm hB h

/-- What is known of the world, and no more. -/
theorem gen_wp {c : Code} {Q : Exit → Act → World → Prop} {a : Act} {W : World} (C : World → Prop) (h0 : C W) (h : ∀ w', C w' → c.wp P Q a w') : c.wp P Q a W := h W h0
theorem gen_list {l : List Oper} {Q : Exit → Act → World → Prop} {a : Act} {W : World} (C : World → Prop) (h0 : C W) (h : ∀ w', C w' → wpList P ops Q l a w') : wpList P ops Q l a W := h W h0

/-- What yields in one world yields the same in each. -/
def Uni {α : Type} (P : Program) (s : Sem α) : Prop := ∀ w v w1, s.run P w = .ok v w1 → ∀ w', s.run P w' = .ok v w'
theorem Uni.pure {α : Type} {P : Program} (a : α) : Uni P (Pure.pure a : Sem α) := fun w v w1 h w' => by
  rw [Sem.run_pure] at h ⊢
  cases h; rfl
theorem Uni.bind {α β : Type} {P : Program} {s : Sem α} {f : α → Sem β} (hs : Uni P s) (hf : ∀ b, Uni P (f b)) : Uni P (s >>= f) := fun w v w1 h w' => by
  rw [Sem.run_bind] at h ⊢
  cases hr : s.run P w with
  | ok b w2 =>
    rw [hr] at h
    rw [hs _ _ _ hr w']
    exact hf b _ _ _ h w'
  | halt y w2 => rw [hr] at h; cases h
theorem Uni.halt {α : Type} {P : Program} {s : Sem α} (h : ∀ w v w1, s.run P w ≠ .ok v w1) : Uni P s := fun w v w1 hr => absurd hr (h w v w1)
theorem Uni.program {P : Program} : Uni P Go.program := fun w v w1 h w' => by cases h; rfl
theorem Uni.stuck {α : Type} {P : Program} (m : String) : Uni P (Go.stuck m : Sem α) := Uni.halt fun w v w1 h => by cases h
theorem Uni.unsupported {α : Type} {P : Program} (m : Unsupported) : Uni P (Go.unsupported m : Sem α) := Uni.halt fun w v w1 h => by cases h
/-- What never yields. -/
def Dead {α : Type} (P : Program) (s : Sem α) : Prop := ∀ w v w1, s.run P w ≠ .ok v w1
theorem Dead.right {α β : Type} {P : Program} {s : Sem α} {f : α → Sem β} (hf : ∀ b, Dead P (f b)) : Dead P (s >>= f) := fun w v w1 h => by
  rw [Sem.run_bind] at h
  cases hr : s.run P w with
  | ok b w2 => rw [hr] at h; exact hf b _ _ _ h
  | halt y w2 => rw [hr] at h; cases h
theorem Dead.go {α : Type} {P : Program} (v : Value) : Dead P (Go.goPanic v : Sem α) := fun w v w1 h => by cases h
theorem Dead.panic {α : Type} {P : Program} (m : RuntimeError) : Dead P (Go.runtimePanic m : Sem α) := by
  unfold Go.runtimePanic
  refine Dead.right fun p => ?_
  dsimp only
  split
  · exact Dead.go _
  · exact Dead.go _
  · exact Dead.go _
  · exact Dead.go _
  · exact Dead.right fun _ => Dead.right fun _ => Dead.go _
  · exact Dead.right fun _ => Dead.right fun _ => Dead.go _
  · exact Dead.go _
theorem Uni.panic {α : Type} {P : Program} (m : RuntimeError) : Uni P (Go.runtimePanic m : Sem α) := Uni.halt (Dead.panic m)
theorem Uni.bounds {α : Type} {P : Program} (k : IntKind) (x y : Int) (c : BoundsCode) : Uni P (Go.boundsPanic k x y c : Sem α) := Uni.halt (by
  unfold Go.boundsPanic
  split
  · exact Dead.right fun _ => Dead.panic _
  · exact Dead.right fun _ => Dead.panic _)
theorem Uni.info {P : Program} (t : TypeId) : Uni P (Go.typeInfo t) := by
  unfold Go.typeInfo
  refine Uni.program.bind fun p => ?_
  split
  · exact Uni.pure _
  · exact Uni.stuck _
theorem Uni.under {P : Program} (t : TypeId) : Uni P (Go.underlying t) := by
  unfold Go.underlying
  refine Uni.program.bind fun p => ?_
  split
  · exact Uni.pure _
  · exact Uni.stuck _
theorem Uni.size {P : Program} (t : TypeId) : Uni P (Go.sizeOf t) := (Uni.info t).bind fun _ => Uni.pure _
theorem Uni.sure {P : Program} (v : Value) : Uni P (Instr.sureAddr v) := by
  unfold Instr.sureAddr
  split
  · exact Uni.pure _
  · exact Uni.stuck _
theorem Uni.isAgg {P : Program} (t : TypeId) : Uni P (Go.isAgg t) := by
  unfold Go.isAgg
  refine (Uni.under t).bind fun d => ?_
  split <;> exact Uni.pure _
theorem Uni.part {P : Program} (t : TypeId) (cs : Array Value) (o : Nat) : Uni P (Go.part t cs o) := by
  unfold Go.part
  refine (Uni.isAgg t).bind fun d => ?_
  split
  · exact (Uni.size t).bind fun _ => Uni.pure _
  · split
    · exact Uni.pure _
    · exact Uni.stuck _
theorem Uni.blind {P : Program} : ∀ (l : List FieldStep) (t : TypeId) (x : Option Value), Uni P (followBlind l t x)
  | [], t, x => Uni.pure _
  | s :: r, t, x => by
    unfold followBlind
    refine (Uni.under _).bind fun d => ?_
    split
    · split
      · split
        · exact Uni.pure _
        · exact Uni.blind r _ _
        · exact Uni.stuck _
        · exact Uni.pure _
        · exact (Uni.part _ _ _).bind fun _ => Uni.blind r _ _
        · exact Uni.stuck _
        · exact Uni.blind r _ _
      · exact Uni.stuck _
    · exact Uni.stuck _
theorem Uni.ahead {P : Program} (name : String) : ∀ (n : Nat) (t : TypeId) (v : Value), Uni P (nilAhead n t v name)
  | 0, t, v => Uni.pure _
  | n + 1, t, v => by
    unfold nilAhead
    refine (Uni.info _).bind fun i => ?_
    split
    · refine (Uni.blind _ _ _).bind fun d => ?_
      split
      · exact Uni.pure _
      · split
        · exact Uni.ahead name n _ _
        · exact Uni.pure _
        · exact Uni.stuck _
        · exact Uni.pure _
        · exact Uni.pure _
        · refine (Uni.under _).bind fun d => ?_
          split <;> exact Uni.pure _
    · exact Uni.stuck _
theorem Uni.nilCheck {P : Program} {ρ : Operand → Value} {o : Oper} {x : Operand} (ho : o.op = .nilCheck x) : Uni P (execOp ρ o) := by
  unfold execOp
  rw [ho]
  dsimp only
  split
  · exact Uni.panic _
  · exact Uni.panic _
  · exact Uni.panic _
  · split
    · exact Uni.panic _
    · refine Uni.program.bind fun p => (Uni.ahead _ _ _ _).bind fun b => ?_
      split
      · exact (Uni.unsupported _).bind fun _ => Uni.pure _
      · exact Uni.pure _
    · exact Uni.pure _
  · exact Uni.pure _
/-- The field is not of size nought. -/
def fullField (P : Program) (s : TypeId) (f : Nat) : Bool :=
  match P.underlying s with
  | some (.struct fs) => match fs[f]? with
    | some fd => match P.info? fd.type with
      | some i => decide (i.size ≠ 0)
      | none => false
    | none => false
  | _ => false
theorem run_under {P : Program} {t : TypeId} {d : TypeDesc} (h : P.underlying t = some d) (w : World) : (Go.underlying t).run P w = .ok d w := by
  show (match P.underlying t with | some d => (Pure.pure d : Sem TypeDesc) | none => stuck "no such type").run P w = _
  rw [h]; rfl
theorem run_size {P : Program} {t : TypeId} {i : TypeInfo} (h : P.info? t = some i) (w : World) : (Go.sizeOf t).run P w = .ok i.size w := by
  unfold Go.sizeOf
  rw [Sem.run_bind]
  have : (Go.typeInfo t).run P w = .ok i w := by
    show (match P.info? t with | some d => (Pure.pure d : Sem TypeInfo) | none => stuck "no such type").run P w = _
    rw [h]; rfl
  rw [this]; rfl
theorem Uni.fieldAt {P : Program} {s : TypeId} {f : Nat} (v : Value) (h : fullField P s f = true) : Uni P (Instr.fieldAt s v f) := by
  unfold fullField at h
  split at h
  · rename_i fs hu
    split at h
    · rename_i fd hf
      split at h
      · rename_i i hi
        have hs : i.size ≠ 0 := by simpa using h
        intro w y w1 hr w'
        unfold Instr.fieldAt at hr ⊢
        simp only [Sem.run_bind, run_under hu, Result.andThen, hf] at hr ⊢
        cases hv : (Instr.sureAddr v).run P w with
        | ok a w2 =>
          rw [hv] at hr
          rw [Uni.sure v _ _ _ hv w']
          unfold fieldPlace at hr ⊢
          simp only [Sem.run_bind, run_size hi, Result.andThen, if_neg hs, Sem.run_pure] at hr ⊢
          cases hr; rfl
        | halt y w2 => rw [hv] at hr; cases hr
      · cases h
    · cases h
  · cases h
theorem Uni.indexAt {P : Program} (t : TypeId) (x i : Value) : Uni P (Instr.indexAt t x i) := by
  unfold Instr.indexAt
  refine Uni.bind ?_ fun _ => ?_
  · unfold asIntOf
    split
    · exact Uni.pure _
    · exact Uni.unsupported _
    · exact Uni.stuck _
  refine (Uni.under _).bind fun d => ?_
  dsimp only
  repeat' first | exact Uni.pure _ | exact Uni.sure _ | exact Uni.under _ | exact Uni.size _ | exact Uni.stuck _ | exact Uni.unsupported _ | exact Uni.bounds _ _ _ _ | refine Uni.bind ?_ fun _ => ?_ | split
/-- An operation that yields in whatever world what it yields in this one. -/
def uniOp (P : Program) : Op → Bool
  | .move _ | .assign _ | .nilCheck _ | .indexAddr _ _ _ => true
  | .fieldAddr s _ f => fullField P s f
  | _ => false
theorem uniOp.uni {P : Program} {o : Oper} (h : uniOp P o.op = true) (ρ : Operand → Value) : Uni P (execOp ρ o) := by
  cases ho : o.op with
  | nilCheck x => exact Uni.nilCheck ho
  | move x => unfold execOp; rw [ho]; exact Uni.pure _
  | assign x => unfold execOp; rw [ho]; exact Uni.pure _
  | indexAddr t x i => unfold execOp; rw [ho]; exact (Uni.indexAt _ _ _).bind fun _ => Uni.pure _
  | fieldAddr s x f => unfold execOp; rw [ho] at h ⊢; exact (Uni.fieldAt _ h).bind fun _ => Uni.pure _
  | _ => rw [ho] at h; cases h
theorem uniOp.plain {P : Program} {o : Oper} (h : uniOp P o.op = true) : plainKind o.op = true := by
  cases ho : o.op with
  | nilCheck x => rfl
  | move x => rfl
  | assign x => rfl
  | indexAddr t x i => rfl
  | fieldAddr s x f => rfl
  | _ => rw [ho] at h; cases h
/-- The operations in the order of the plan: each either yields in whatever world and may come now, or is the only one that may come now. -/
def planB (P : Program) (ops : Array Oper) : List Nat → Array Bool → Bool
  | [], listed => (Region.ready .any ops listed).isEmpty
  | i :: r, listed => (decide (Region.ready .any ops listed = [i]) || ((Region.ready .any ops listed).contains i && Region.free .any ops listed i && ((ops[i]?).map (fun o => uniOp P o.op && o.guard.isNone)).getD false)) &&
      planB P ops r (listed.setIfInBounds i true)
/-- Behind a region that ends well. -/
def Held2 (Q : Exit → Act → World → Prop) : Exit → Act → World → Prop
  | .normal, a, w => Q .normal a w
  | _, _, _ => False
theorem Held2.mk {Q : Exit → Act → World → Prop} {a : Act} {w : World} (h : Q .normal a w) : Held2 Q .normal a w := h
/-- Behind the first part of a list: the rest. -/
def HeldL (P : Program) (ops : Array Oper) (Q : Exit → Act → World → Prop) (rest : List Oper) : Exit → Act → World → Prop
  | .normal, a, w => wpList P ops (Held2 Q) rest a w
  | _, _, _ => False
theorem HeldL.mk {P : Program} {ops : Array Oper} {Q : Exit → Act → World → Prop} {rest : List Oper} {a : Act} {w : World} (h : wpList P ops (Held2 Q) rest a w) : HeldL P ops Q rest .normal a w := h
theorem list_cut {P : Program} {ops : Array Oper} {Q : Exit → Act → World → Prop} (l2 : List Oper) : ∀ {l : List Oper} {a : Act} {w : World}, wpList P ops (HeldL P ops Q l2) l a w → wpList P ops (Held2 Q) (l ++ l2) a w
  | [], a, w, h => h
  | o :: r, a, w, h => by
    rw [List.cons_append]
    unfold wpList at h ⊢
    split
    · rename_i hw
      rw [if_pos hw] at h
      rcases h with h | ⟨_, _, _, h⟩
      · refine .inl ?_
        unfold Oper.wp at h ⊢
        generalize (execOp a.eval o).run P w = y at h
        cases y with
        | ok x w' =>
          cases x with
          | value v => exact list_cut l2 h
          | skip => exact list_cut l2 h
          | defer d => exact list_cut l2 h
          | enter f args =>
            refine Calls.mono (R := fun | .returned v, w'' => wpList P ops (HeldL P ops Q l2) r (a.put o.dst v) w'' | .panicked chain, w'' => HeldL P ops Q l2 (.panic chain) a w'' | .outgrown, _ => LetsOut (HeldL P ops Q l2)) h ?_
            rintro (v | c | _) w2 h2
            · exact list_cut l2 h2
            · exact h2.elim
            · obtain ⟨_, _, h3⟩ := h2; exact h3.elim
          | row r args => exact Rows.mono h fun v w2 h2 => list_cut l2 h2
          | _ => exact h.elim
        | halt x w' => cases x <;> exact h.elim
      · exact h.elim
    · rename_i hw
      rw [if_neg hw] at h
      exact list_cut l2 h
theorem list_cutAt {P : Program} {ops : Array Oper} {Q : Exit → Act → World → Prop} (n : Nat) {l : List Oper} {a : Act} {w : World} (h : wpList P ops (HeldL P ops Q (l.drop n)) (l.take n) a w) : wpList P ops (Held2 Q) l a w := by
  have := list_cut (l.drop n) h
  rwa [List.take_append_drop] at this
theorem uni_yields {P : Program} {ops : Array Oper} {o : Oper} (hm : (uniOp P o.op && o.guard.isNone) = true) {Q : Exit → Act → World → Prop} {K : List Oper} {a : Act} {w : World} (h : wpList P ops (Held2 Q) (o :: K) a w) :
    ∃ v, Yields P ops o v a ∧ wpList P ops (Held2 Q) K (a.put o.dst v) w := by
  simp only [Bool.and_eq_true, Option.isNone_iff_eq_none] at hm
  have hw : Region.wanted o (yielded ops a.tmps) = true := by simp [Region.wanted, hm.2]
  unfold wpList at h
  rw [if_pos hw] at h
  rcases h with h | ⟨_, _, _, h⟩
  · unfold Oper.wp at h
    have hu := uniOp.uni hm.1 a.eval
    generalize hr : (execOp a.eval o).run P w = r at h
    cases r with
    | ok x w' =>
      obtain ⟨v, rfl⟩ := plain_value (uniOp.plain hm.1) hr
      have hx := hu _ _ _ hr
      have e := hx w
      rw [hr] at e
      cases e
      exact ⟨v, .inl ⟨hw, hx⟩, h⟩
    | halt x w' => cases x <;> exact h.elim
  · exact h.elim
theorem plan_any {P : Program} {ops : Array Oper} {Q : Exit → Act → World → Prop} (hs : Region.noSelect ops = true) : ∀ (plan : List Nat) (listed : Array Bool) (a : Act) (w : World),
    planB P ops plan listed = true → wpList P ops (Held2 Q) (plan.filterMap (ops[·]?)) a w → wpAny P .any ops (Held2 Q) plan.length listed a w
  | [], listed, a, w, hB, h => ⟨by simpa [planB] using hB, h⟩
  | i :: r, listed, a, w, hB, h => by
    simp only [planB, Bool.and_eq_true, Bool.or_eq_true, decide_eq_true_eq] at hB
    obtain ⟨hB1, hB2⟩ := hB
    have hi : ∃ o, ops[i]? = some o := by
      rcases hB1 with h1 | h1
      · have : i ∈ Region.ready .any ops listed := by rw [h1]; simp
        obtain ⟨_, o, ho, _⟩ := mem_ready.1 this
        exact ⟨o, ho⟩
      · cases ho : ops[i]? with
        | none => simp [ho] at h1
        | some o => exact ⟨o, rfl⟩
    obtain ⟨o, ho⟩ := hi
    simp only [List.filterMap_cons, ho] at h
    rcases hB1 with h1 | h1
    · refine ⟨fun h0 => (by rw [h1] at h0; cases h0), fun j hj => ?_⟩
      rw [h1] at hj
      obtain rfl : j = i := by simpa using hj
      have hw : wpOp P ops (Held2 Q) j (wpList P ops (Held2 Q) (r.filterMap (ops[·]?))) a w := by unfold wpOp; simp only [ho]; exact h
      exact wpOp_mono (fun a' w' h' => plan_any hs r _ a' w' hB2 h') hw
    · simp only [ho, Option.map_some, Option.getD_some] at h1
      obtain ⟨v, hy, hK⟩ := uni_yields (P := P) (by simpa using h1.2) h
      exact wpAny_take ho hs h1.1.2 h1.1.1 (fun _ _ _ h => h.elim) hy (plan_any hs r _ _ w hB2 hK)
/-- One walk, in the order of the plan. -/
theorem region_plan {id : Nat} {Q : Exit → Act → World → Prop} {a : Act} {l : List Oper} (plan : List Nat) (hm : P.follows .mixedOrders = true)
    (hB : (Region.noSelect l.toArray && decide (plan.length = l.toArray.size) && planB P l.toArray plan (Array.replicate l.toArray.size false)) = true) 
    (h : wpList P l.toArray (Held2 Q) (plan.filterMap (l[·]?)) a w.drew) : (Code.region id l.toArray true).wp P Q a w := by
  simp only [Bool.and_eq_true, decide_eq_true_eq] at hB
  refine wp_mono (Q := Held2 Q) (wp_region_any hm ?_) fun e a w h => by cases e <;> first | exact h | exact h.elim
  have := plan_any hB.1.1 plan _ a _ hB.2 (by simpa using h)
  rw [hB.1.2] at this
  exact this
end
end Go.Proofs.YtknoomndofnnmaaDoor

namespace Go.Proofs.YtknoomndofnnmaaDoor
open Go Go.RowKit

theorem Uni.extract {P : Program} (v : Value) (i : Nat) : Uni P (Instr.extract v i) := by
  unfold Instr.extract
  repeat' first | exact Uni.pure _ | exact Uni.stuck _ | split
theorem Uni.addr {P : Program} (v : Value) : Uni P (asAddr v) := by
  unfold asAddr
  split
  · exact Uni.pure _
  · exact Uni.panic _
  · exact Uni.stuck _
/-- An operation that yields in whatever world what it yields in this one. -/
def uniOp2 (P : Program) : Op → Bool
  | .move _ | .assign _ | .nilCheck _ | .indexAddr _ _ _ | .extract _ _ => true
  | .fieldAddr s _ f => fullField P s f
  | _ => false
theorem uniOp2.uni {P : Program} {o : Oper} (h : uniOp2 P o.op = true) (ρ : Operand → Value) : Uni P (execOp ρ o) := by
  cases ho : o.op with
  | nilCheck x => exact Uni.nilCheck ho
  | move x => unfold execOp; rw [ho]; exact Uni.pure _
  | assign x => unfold execOp; rw [ho]; exact Uni.pure _
  | indexAddr t x i => unfold execOp; rw [ho]; exact (Uni.indexAt _ _ _).bind fun _ => Uni.pure _
  | extract x i => unfold execOp; rw [ho]; exact (Uni.extract _ _).bind fun _ => Uni.pure _
  | fieldAddr s x f => unfold execOp; rw [ho] at h ⊢; exact (Uni.fieldAt _ h).bind fun _ => Uni.pure _
  | _ => rw [ho] at h; cases h
theorem uniOp2.plain {P : Program} {o : Oper} (h : uniOp2 P o.op = true) : plainKind o.op = true := by
  cases ho : o.op with
  | nilCheck x => rfl
  | move x => rfl
  | assign x => rfl
  | indexAddr t x i => rfl
  | extract x i => rfl
  | fieldAddr s x f => rfl
  | _ => rw [ho] at h; cases h
section
variable {P : Program} {w : World}
/-- The operations in the order of the plan: each either yields in whatever world and may come now, or is the only one that may come now. -/
def planB2 (P : Program) (ops : Array Oper) : List Nat → Array Bool → Bool
  | [], listed => (Region.ready .any ops listed).isEmpty
  | i :: r, listed => (decide (Region.ready .any ops listed = [i]) || ((Region.ready .any ops listed).contains i && Region.free .any ops listed i && ((ops[i]?).map (fun o => uniOp2 P o.op && o.guard.isNone)).getD false)) &&
      planB2 P ops r (listed.setIfInBounds i true)
theorem uni_yields2 {P : Program} {ops : Array Oper} {o : Oper} (hm : (uniOp2 P o.op && o.guard.isNone) = true) {Q : Exit → Act → World → Prop} {K : List Oper} {a : Act} {w : World} (h : wpList P ops (Held2 Q) (o :: K) a w) :
    ∃ v, Yields P ops o v a ∧ wpList P ops (Held2 Q) K (a.put o.dst v) w := by
  simp only [Bool.and_eq_true, Option.isNone_iff_eq_none] at hm
  have hw : Region.wanted o (yielded ops a.tmps) = true := by simp [Region.wanted, hm.2]
  unfold wpList at h
  rw [if_pos hw] at h
  rcases h with h | ⟨_, _, _, h⟩
  · unfold Oper.wp at h
    have hu := uniOp2.uni hm.1 a.eval
    generalize hr : (execOp a.eval o).run P w = r at h
    cases r with
    | ok x w' =>
      obtain ⟨v, rfl⟩ := plain_value (uniOp2.plain hm.1) hr
      have hx := hu _ _ _ hr
      have e := hx w
      rw [hr] at e
      cases e
      exact ⟨v, .inl ⟨hw, hx⟩, h⟩
    | halt x w' => cases x <;> exact h.elim
  · exact h.elim
theorem plan_any2 {P : Program} {ops : Array Oper} {Q : Exit → Act → World → Prop} (hs : Region.noSelect ops = true) : ∀ (plan : List Nat) (listed : Array Bool) (a : Act) (w : World),
    planB2 P ops plan listed = true → wpList P ops (Held2 Q) (plan.filterMap (ops[·]?)) a w → wpAny P .any ops (Held2 Q) plan.length listed a w
  | [], listed, a, w, hB, h => ⟨by simpa [planB2] using hB, h⟩
  | i :: r, listed, a, w, hB, h => by
    simp only [planB2, Bool.and_eq_true, Bool.or_eq_true, decide_eq_true_eq] at hB
    obtain ⟨hB1, hB2⟩ := hB
    have hi : ∃ o, ops[i]? = some o := by
      rcases hB1 with h1 | h1
      · have : i ∈ Region.ready .any ops listed := by rw [h1]; simp
        obtain ⟨_, o, ho, _⟩ := mem_ready.1 this
        exact ⟨o, ho⟩
      · cases ho : ops[i]? with
        | none => simp [ho] at h1
        | some o => exact ⟨o, rfl⟩
    obtain ⟨o, ho⟩ := hi
    simp only [List.filterMap_cons, ho] at h
    rcases hB1 with h1 | h1
    · refine ⟨fun h0 => (by rw [h1] at h0; cases h0), fun j hj => ?_⟩
      rw [h1] at hj
      obtain rfl : j = i := by simpa using hj
      have hw : wpOp P ops (Held2 Q) j (wpList P ops (Held2 Q) (r.filterMap (ops[·]?))) a w := by unfold wpOp; simp only [ho]; exact h
      exact wpOp_mono (fun a' w' h' => plan_any2 hs r _ a' w' hB2 h') hw
    · simp only [ho, Option.map_some, Option.getD_some] at h1
      obtain ⟨v, hy, hK⟩ := uni_yields2 (P := P) (by simpa using h1.2) h
      exact wpAny_take ho hs h1.1.2 h1.1.1 (fun _ _ _ h => h.elim) hy (plan_any2 hs r _ _ w hB2 hK)
/-- One walk, in the order of the plan. -/
theorem region_plan2 {id : Nat} {Q : Exit → Act → World → Prop} {a : Act} {l : List Oper} (plan : List Nat) (hm : P.follows .mixedOrders = true)
    (hB : (Region.noSelect l.toArray && decide (plan.length = l.toArray.size) && planB2 P l.toArray plan (Array.replicate l.toArray.size false)) = true) 
    (h : wpList P l.toArray (Held2 Q) (plan.filterMap (l[·]?)) a w.drew) : (Code.region id l.toArray true).wp P Q a w := by
  simp only [Bool.and_eq_true, decide_eq_true_eq] at hB
  refine wp_mono (Q := Held2 Q) (wp_region_any hm ?_) fun e a w h => by cases e <;> first | exact h | exact h.elim
  have := plan_any2 hB.1.1 plan _ a _ hB.2 (by simpa using h)
  rw [hB.1.2] at this
  exact this
end
/-- A type assertion, in a region's head. -/
theorem still_one2 {P : Program} {ops : Array Oper} {w : World} {Q : Act → Prop} {o : Oper} {rest : List Oper} {a : Act} {x : Operand} {t u : TypeId} {c : Bool} (ho : o.op = .typeAssert x t u c) (h : wpList P ops (Held1 P ops w Q rest) [o] a w) : wpStill P ops w Q (o :: rest) a := by
  unfold wpList at h
  unfold wpStill
  split
  · rename_i hw
    rw [if_pos hw] at h
    rcases h with h | ⟨_, _, _, h⟩
    · unfold Oper.wp at h
      unfold Oper.still
      generalize hr : (execOp a.eval o).run P w = r at h
      cases r with
      | ok x w' =>
        obtain ⟨v, rfl⟩ : ∃ v, x = .value v := by
          unfold execOp at hr
          rw [ho] at hr
          exact value_only hr
        exact h
      | halt x w' => cases x <;> exact h.elim
    · exact h.elim
  · rename_i hw
    rw [if_neg hw] at h
    exact h.2
end Go.Proofs.YtknoomndofnnmaaDoor

namespace Go.Proofs.YtknoomndofnnmaaDoor
open Go Go.RowKit
section
variable {P : Program} {ops : Array Oper} {Q : Exit → Act → World → Prop} {S : World → Prop}

/-- The plan's operations, one by one: (o, true): it yields the same whenever it comes; (o, false): it is the only one that may come. -/
def wpPlan (P : Program) (ops : Array Oper) (S : World → Prop) (Q : Exit → Act → World → Prop) : List (Oper × Bool) → Act → World → Prop
  | [], a, w => Q .normal a w
  | (o, true) :: r, a, w => ∃ v, YieldsIf P ops S o v a ∧ wpPlan P ops S Q r (a.put o.dst v) w
  | (o, false) :: r, a, w => wpList P ops (fun
      | .normal, a', w' => S w' ∧ wpPlan P ops S Q r a' w'
      | _, _, _ => False) [o] a w
/-- Behind one operation. -/
def HeldN (P : Program) (ops : Array Oper) (S : World → Prop) (Q : Exit → Act → World → Prop) (r : List (Oper × Bool)) : Exit → Act → World → Prop
  | .normal, a, w => S w ∧ wpPlan P ops S Q r a w
  | _, _, _ => False
theorem HeldN.mk {r : List (Oper × Bool)} {a : Act} {w : World} (hS : S w) (h : wpPlan P ops S Q r a w) : HeldN P ops S Q r .normal a w := ⟨hS, h⟩
theorem plan_step {o : Oper} {r : List (Oper × Bool)} {a : Act} {w : World} (h : wpList P ops (HeldN P ops S Q r) [o] a w) : wpPlan P ops S Q ((o, false) :: r) a w := by
  unfold wpPlan
  have e : (fun (e : Exit) (a' : Act) (w' : World) => HeldN P ops S Q r e a' w') = (fun
      | .normal, a', w' => S w' ∧ wpPlan P ops S Q r a' w'
      | _, _, _ => False) := by
    funext e a' w'
    cases e <;> rfl
  rw [← e]
  exact h
/-- Behind one that yields anywhere. -/
def HeldU (P : Program) (ops : Array Oper) (S : World → Prop) (Q : Exit → Act → World → Prop) (r : List (Oper × Bool)) : Exit → Act → World → Prop
  | .normal, a, w => wpPlan P ops S Q r a w
  | _, _, _ => False
theorem HeldU.mk {r : List (Oper × Bool)} {a : Act} {w : World} (h : wpPlan P ops S Q r a w) : HeldU P ops S Q r .normal a w := h
theorem plan_uni {o : Oper} {r : List (Oper × Bool)} {a : Act} {w : World} (hu : uniOp2 P o.op = true) (hg : o.guard = none) (h : wpList P ops (HeldU P ops S Q r) [o] a w) : wpPlan P ops S Q ((o, true) :: r) a w := by
  have hw : Region.wanted o (yielded ops a.tmps) = true := by simp [Region.wanted, hg]
  unfold wpList at h
  rw [if_pos hw] at h
  unfold wpPlan
  rcases h with h | ⟨_, _, _, h⟩
  · unfold Oper.wp at h
    have huu := uniOp2.uni hu a.eval
    generalize hr : (execOp a.eval o).run P w = x at h
    cases x with
    | ok x w' =>
      obtain ⟨v, rfl⟩ := plain_value (uniOp2.plain hu) hr
      have hx := huu _ _ _ hr
      have e := hx w
      rw [hr] at e
      cases e
      exact ⟨v, .inl ⟨hw, fun w' _ => hx w'⟩, h⟩
    | halt x w' => cases x <;> exact h.elim
  · exact h.elim
theorem plan_load {o : Oper} {r : List (Oper × Bool)} {a : Act} {w : World} (t : TypeId) (x : Operand) (p : Addr) (v : Value) (ho : o.op = .load t x) (hg : o.guard = none) (hx : a.eval x = .pointer (some p)) (hl : ∀ w, S w → (Instr.loadAt t (.pointer (some p))).run P w = .ok v w)
    (h : wpPlan P ops S Q r (a.put o.dst v) w) : wpPlan P ops S Q ((o, true) :: r) a w := by
  unfold wpPlan
  refine ⟨v, .inl ⟨by simp [Region.wanted, hg], fun w hw => ?_⟩, h⟩
  unfold execOp
  rw [ho]
  simp only [hx, Sem.run_bind, hl w hw, Result.andThen_ok, Sem.run_pure]
theorem plan_nil {a : Act} {w : World} (h : Q .normal a w) : wpPlan P ops S Q [] a w := h
/-- The order fits the region. -/
def planB3 (ops : Array Oper) : List (Nat × Bool) → Array Bool → Bool
  | [], listed => (Region.ready .any ops listed).isEmpty
  | (i, false) :: r, listed => decide (Region.ready .any ops listed = [i]) && planB3 ops r (listed.setIfInBounds i true)
  | (i, true) :: r, listed => (Region.ready .any ops listed).contains i && Region.free .any ops listed i && planB3 ops r (listed.setIfInBounds i true)
theorem plan_any3 (hs : Region.noSelect ops = true) : ∀ (plan : List (Nat × Bool)) (listed : Array Bool) (a : Act) (w : World),
    planB3 ops plan listed = true → S w → wpPlan P ops S (Held2 Q) (plan.filterMap fun x => (ops[x.1]?).map (·, x.2)) a w → wpAnyH P .any ops (Held2 Q) S plan.length listed a w
  | [], listed, a, w, hB, _, h => ⟨by simpa [planB3] using hB, h⟩
  | (i, true) :: r, listed, a, w, hB, hSw, h => by
    simp only [planB3, Bool.and_eq_true] at hB
    obtain ⟨⟨hB0, hB1⟩, hB2⟩ := hB
    have hi : ∃ o, ops[i]? = some o := by
      have : i ∈ Region.ready .any ops listed := by simpa using hB0
      obtain ⟨_, o, ho, _⟩ := mem_ready.1 this
      exact ⟨o, ho⟩
    obtain ⟨o, ho⟩ := hi
    simp only [List.filterMap_cons, ho, Option.map_some] at h
    unfold wpPlan at h
    obtain ⟨v, hy, hK⟩ := h
    exact wpAnyH_take ho hs hB1 hB0 (fun _ _ _ h => h.elim) hy hSw (plan_any3 hs r _ _ w hB2 hSw hK)
  | (i, false) :: r, listed, a, w, hB, hSw, h => by
    simp only [planB3, Bool.and_eq_true, decide_eq_true_eq] at hB
    obtain ⟨hB1, hB2⟩ := hB
    have hi : ∃ o, ops[i]? = some o := by
      have : i ∈ Region.ready .any ops listed := by rw [hB1]; simp
      obtain ⟨_, o, ho, _⟩ := mem_ready.1 this
      exact ⟨o, ho⟩
    obtain ⟨o, ho⟩ := hi
    simp only [List.filterMap_cons, ho, Option.map_some] at h
    refine wpAnyH_all hB1 (by simp) fun j hj => ?_
    obtain rfl : j = i := by simpa using hj
    unfold wpPlan at h
    unfold wpOp
    simp only [ho]
    unfold wpList at h
    have key : ∀ a' w', (S w' ∧ wpPlan P ops S (Held2 Q) (r.filterMap fun x => (ops[x.1]?).map (·, x.2)) a' w') → S w' ∧ wpAnyH P .any ops (Held2 Q) S r.length (listed.setIfInBounds j true) a' w' := fun a' w' h' => ⟨h'.1, plan_any3 hs r _ a' w' hB2 h'.1 h'.2⟩
    split
    · rename_i hw
      rw [if_pos hw] at h
      rcases h with h | ⟨_, _, _, h⟩
      · refine .inl ?_
        unfold Oper.wp at h ⊢
        generalize (execOp a.eval o).run P w = y at h
        cases y with
        | ok x w' =>
          cases x with
          | value v => exact key _ _ h
          | skip => exact key _ _ h
          | defer d => exact key _ _ h
          | enter f args =>
            refine Calls.mono (R := fun | .returned v, w'' => wpList P ops _ [] (a.put o.dst v) w'' | .panicked chain, w'' => False | .outgrown, _ => LetsOut _) h ?_
            rintro (v | c | _) w2 h2
            · exact key _ _ h2
            · exact h2.elim
            · obtain ⟨_, _, h3⟩ := h2; exact h3.elim
          | row r args => exact Rows.mono h fun v w2 h2 => key _ _ h2
          | _ => exact h.elim
        | halt x w' => cases x <;> exact h.elim
      · exact h.elim
    · rename_i hw
      rw [if_neg hw] at h
      exact key _ _ h
/-- One walk, in the order of the plan. -/
theorem region_held {id : Nat} {a : Act} {w : World} {l : List Oper} (S : World → Prop) (plan : List (Nat × Bool)) (hm : P.follows .mixedOrders = true)
    (hB : (Region.noSelect l.toArray && decide (plan.length = l.toArray.size) && planB3 l.toArray plan (Array.replicate l.toArray.size false)) = true) (hS : S w.drew)
    (h : wpPlan P l.toArray S (Held2 Q) (plan.filterMap fun x => (l[x.1]?).map (·, x.2)) a w.drew) : (Code.region id l.toArray true).wp P Q a w := by
  simp only [Bool.and_eq_true, decide_eq_true_eq] at hB
  refine wp_mono (Q := Held2 Q) (wp_region_held (S := S) hm ?_) fun e a w h => by cases e <;> first | exact h | exact h.elim
  have := plan_any3 hB.1.1 plan _ a _ hB.2 hS (by simpa using h)
  rw [hB.1.2] at this
  exact this
end

/-- A call of a function value. -/
theorem call_value {ops : Array Oper} {rest : List Oper} {o : Oper} {a : Act} {w : World} {Q : Exit → Act → World → Prop} (F : Operand) {f : FuncId} {fst cap : Array Value} (hgd : o.guard = none) (ats : Array TypeId)
    (ho : o.op = .call { callee := .value F, args := #[], argTypes := ats }) (hr : a.eval F = .func (.func f) fst cap) (hf : ∀ vs W, (callFunc f vs).run Tryd.prog W = .ok (.enter f vs) W)
    {R : Value → World → Prop} (hc : Calls Tryd.prog f (fst ++ cap) w fun e w' => ∃ x, e = .returned x ∧ R x w') (h : ∀ x w', R x w' → wpList Tryd.prog ops Q rest (a.put o.dst x) w') : wpList Tryd.prog ops Q (o :: rest) a w := by
  refine wpList_plain hgd fun K hK => ?_
  unfold Oper.wp
  have e : (execOp a.eval o).run Tryd.prog w = .ok (.enter f (fst ++ cap)) w := by
    unfold execOp
    simp only [ho, resolve, Sem.run_bind, Sem.run_pure, Result.andThen_ok, hr, Deferred.ofValue]
    unfold invoke
    simp [hf]
  rw [e, Oper.upon_enter]
  refine hc.mono ?_
  rintro e w' ⟨x, rfl, hx⟩
  exact hK _ _ (h x w' hx)
theorem ld_hmac {W : World} {p : Addr} {v : Value} (h : W.cell? p = some v) : (Instr.loadAt 115 (.pointer (some p))).run Tryd.prog W = .ok v W := by simp [go_sem, h]
theorem ld_slice {W : World} {p : Addr} {v : Value} (h : W.cell? p = some v) : (Instr.loadAt 24 (.pointer (some p))).run Tryd.prog W = .ok v W := by simp [go_sem, h]
theorem ld_hash {W : World} {p : Addr} {v : Value} (h : W.cell? p = some v) : (Instr.loadAt 89 (.pointer (some p))).run Tryd.prog W = .ok v W := by simp [go_sem, h]
end Go.Proofs.YtknoomndofnnmaaDoor
