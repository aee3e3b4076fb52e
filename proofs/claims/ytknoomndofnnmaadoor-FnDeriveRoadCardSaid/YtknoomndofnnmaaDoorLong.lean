/- More words for laws: lengths together, slices of strings in drawn regions. -/
import Derived.Test.YtknoomndofnnmaaDoorLaw
import Derived.Test.YtknoomndofnnmaaDoorConvB
namespace Go.Proofs.YtknoomndofnnmaaDoor
open Go Go.RowKit

theorem long_n2 {W : World} {g : Nat} {t : TypeId} {a1 a2 : Option Addr} {c1 c2 : Nat} (n1 n2 : Nat) (h : W.heap[g]? = some (.cells #[.slice a1 n1 c1, .slice a2 n2 c2] t (0, 0))) :
    Calls Tryd.prog 16 #[.slice (some ⟨g, 0, none⟩) 2 2] W fun e w' => ∃ b, e = .returned (.bool b) ∧ (b = false → n1 + n2 ≤ 16384) ∧ Chg [] W w' := by
  have e1 : (List.replicate n1 (0 : UInt8)).length = n1 := by simp
  have e2 : (List.replicate n2 (0 : UInt8)).length = n2 := by simp
  have := laws_long2 (W := W) (g := g) (t := t) (a1 := a1) (c1 := c1) (a2 := a2) (c2 := c2) (List.replicate n1 0) (List.replicate n2 0) (by rw [e1, e2]; exact h)
  rw [e1, e2] at this
  exact this
theorem long_n3 {W : World} {g : Nat} {t : TypeId} {a1 a2 a3 : Option Addr} {c1 c2 c3 : Nat} (n1 n2 n3 : Nat) (h : W.heap[g]? = some (.cells #[.slice a1 n1 c1, .slice a2 n2 c2, .slice a3 n3 c3] t (0, 0))) :
    Calls Tryd.prog 16 #[.slice (some ⟨g, 0, none⟩) 3 3] W fun e w' => ∃ b, e = .returned (.bool b) ∧ (b = false → n1 + n2 + n3 ≤ 16384) ∧ Chg [] W w' := by
  have e1 : (List.replicate n1 (0 : UInt8)).length = n1 := by simp
  have e2 : (List.replicate n2 (0 : UInt8)).length = n2 := by simp
  have e3 : (List.replicate n3 (0 : UInt8)).length = n3 := by simp
  have := laws_long3 (W := W) (g := g) (t := t) (a1 := a1) (c1 := c1) (a2 := a2) (c2 := c2) (a3 := a3) (c3 := c3) (List.replicate n1 0) (List.replicate n2 0) (List.replicate n3 0) (by rw [e1, e2, e3]; exact h)
  rw [e1, e2, e3] at this
  exact this
theorem plan_uniG {P : Program} {ops : Array Oper} {Q : Exit → Act → World → Prop} {S : World → Prop} {o : Oper} {r : List (Oper × Bool)} {a : Act} {w : World} (hu : uniOp2 P o.op = true) (hw : Region.wanted o (yielded ops a.tmps) = true) (h : wpList P ops (HeldU P ops S Q r) [o] a w) : wpPlan P ops S Q ((o, true) :: r) a w := by
  unfold wpList at h
  rw [if_pos hw] at h
  unfold wpPlan
  rcases h with h | ⟨_, _, _, h⟩
  · unfold Oper.wp at h
    have huu := uniOp2.uni hu a.eval
    generalize hr : (execOp a.eval o).run P w = x at h
    cases x with
    | ok x w' =>
      obtain ⟨v, rfl⟩ := plain_value (uniOp2.plain hu) hr
      have hx := huu _ _ _ hr
      have e := hx w
      rw [hr] at e
      cases e
      exact ⟨v, .inl ⟨hw, fun w' _ => hx w'⟩, h⟩
    | halt x w' => cases x <;> exact h.elim
  · exact h.elim
theorem plan_moveV {P : Program} {ops : Array Oper} {Q : Exit → Act → World → Prop} {S : World → Prop} {o : Oper} {r : List (Oper × Bool)} {a : Act} {w : World} (v : Value) (x : Operand) (ho : o.op = .move x) (hw : Region.wanted o (yielded ops a.tmps) = true) (hx : a.eval x = v) (h : wpPlan P ops S Q r (a.put o.dst v) w) : wpPlan P ops S Q ((o, true) :: r) a w :=
  plan_move x ho hw (hx ▸ h)
set_option maxRecDepth 100000 in
theorem plan_slice_s {ops : Array Oper} {Q : Exit → Act → World → Prop} {S : World → Prop} {o : Oper} {r : List (Oper × Bool)} {a : Act} {w : World} (v : Value) (x : Operand) (lo hi mx : Option Operand) (ho : o.op = .slice 9 x lo hi mx) (hw : Region.wanted o (yielded ops a.tmps) = true)
    {X : Value} {LO HI MX : Option Value} (hs : ∀ W, (Instr.slice 9 X LO HI MX).run Tryd.prog W = .ok v W) (hx : a.eval x = X) (h1 : lo.map a.eval = LO) (h2 : hi.map a.eval = HI) (h3 : mx.map a.eval = MX) (h : wpPlan Tryd.prog ops S Q r (a.put o.dst v) w) : wpPlan Tryd.prog ops S Q ((o, true) :: r) a w :=
  plan_val v hw (fun W _ => by
    unfold execOp
    rw [ho]
    simp only [Sem.run_bind, hx, h1, h2, h3, run_sliceAt_string (P := Tryd.prog) W 9 _ _ _ _ Tryd.underlying9, hs W, Result.andThen_ok, Sem.run_pure]) h
set_option maxRecDepth 100000 in
theorem plan_slice_b {ops : Array Oper} {Q : Exit → Act → World → Prop} {S : World → Prop} {o : Oper} {r : List (Oper × Bool)} {a : Act} {w : World} (v : Value) (x : Operand) (lo hi mx : Option Operand) (ho : o.op = .slice 24 x lo hi mx) (hw : Region.wanted o (yielded ops a.tmps) = true)
    {X : Value} {LO HI MX : Option Value} (hs : ∀ W, (Instr.slice 24 X LO HI MX).run Tryd.prog W = .ok v W) (hx : a.eval x = X) (h1 : lo.map a.eval = LO) (h2 : hi.map a.eval = HI) (h3 : mx.map a.eval = MX) (h : wpPlan Tryd.prog ops S Q r (a.put o.dst v) w) : wpPlan Tryd.prog ops S Q ((o, true) :: r) a w :=
  plan_val v hw (fun W _ => by
    unfold execOp
    rw [ho]
    simp only [Sem.run_bind, hx, h1, h2, h3, run_sliceAt_slice (P := Tryd.prog) W 24 _ _ _ _ Tryd.underlying24, hs W, Result.andThen_ok, Sem.run_pure]) h
/-- The two halves of a string. -/
theorem sb_cut (s : ByteArray) (k : Nat) (_h : k ≤ s.size) : sb (s.extract 0 k) ++ sb (s.extract k s.size) = sb s := by
  unfold sb
  rw [ByteArray.data_extract, ByteArray.data_extract, Array.toList_extract, Array.toList_extract]
  have e : s.data.toList.length = s.size := by rw [Array.length_toList]; rfl
  have e1 : s.data.toList.extract 0 k = s.data.toList.take k := by simp [List.extract]
  have e2 : s.data.toList.extract k s.size = s.data.toList.drop k := by
    unfold List.extract
    exact List.take_of_length_le (by rw [List.length_drop, e]; omega)
  rw [e1, e2, List.take_append_drop]
theorem str_head (s : ByteArray) (k : Nat) (h : k ≤ s.size) (W : World) : (Instr.slice 9 (.string s) none (some (.int .i64 (k : Int))) none).run Tryd.prog W = .ok (.string (s.extract 0 k)) W := by
  rw [run_slice_string_h (P := Tryd.prog) W 9 s Tryd.underlying9 .i64 (k : Int) (by omega) (by omega)]
  simp
theorem str_tail (s : ByteArray) (k : Nat) (h : k ≤ s.size) (W : World) : (Instr.slice 9 (.string s) (some (.int .i64 (k : Int))) none none).run Tryd.prog W = .ok (.string (s.extract k s.size)) W := by
  rw [run_slice_string_l (P := Tryd.prog) W 9 s Tryd.underlying9 .i64 (k : Int) (by omega) (by omega)]
  simp
end Go.Proofs.YtknoomndofnnmaaDoor
