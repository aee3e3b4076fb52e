/- Words for functions that answer with new bytes, for walks that build them by appends and makes; more ways to take an operation of a drawn region first. No condition. -/
import Derived.Test.YtknoomndofnnmaaDoorOwnB
import Derived.Test.YtknoomndofnnmaaDoorHeld
import Derived.Test.YtknoomndofnnmaaDoorCut
import Derived.Deep.DeepCutAuto
namespace Go.Proofs.YtknoomndofnnmaaDoor
open Go Go.RowKit

/-- The value v is a row of its own that reads as X, made behind w; nothing that was has changed. -/
def Fr (w : World) (X : Bs) (w' : World) (v : Value) : Prop := Own w' v X ∧ Chg [] w w' ∧ ∀ g, v.ownBlock = some g → w.heap.size ≤ g
/-- The call ends with such a value. -/
def Gives (w : World) (X : Bs) (e : Ending) (w' : World) : Prop := ∃ v, e = .returned v ∧ Fr w X w' v
theorem Fr.bs {w w' : World} {X : Bs} {v : Value} (h : Fr w X w' v) {S : List Nat} (hS : ∀ k ∈ S, k < w.heap.size) : BS S w' v X := h.1.bs fun g hg hm => by
  have := h.2.2 g hg
  have := hS g hm
  omega
theorem Fr.bs0 {w w' : World} {X : Bs} {v : Value} (h : Fr w X w' v) : BS [] w' v X := h.bs (by simp)
theorem Fr.from {w w1 w' : World} {X : Bs} {v : Value} (h : Fr w1 X w' v) (hc : Chg [] w w1) : Fr w X w' v := ⟨h.1, hc.trans h.2.1, fun g hg => Nat.le_trans hc.size (h.2.2 g hg)⟩
theorem Fr.then {w w1 w' : World} {X : Bs} {v : Value} (h : Fr w X w1 v) (hc : Chg [] w1 w') : Fr w X w' v := ⟨h.1.chg hc (by simp), h.2.1.trans hc, h.2.2⟩
theorem BS.keep {w w' : World} {v : Value} {xs : Bs} {S : List Nat} (h : BS S w v xs) (hc : Chg [] w w') : BS S w' v xs := h.chg hc (by simp)


/-- A slice's length. -/
def slLen : Value → Nat
  | .slice _ n _ => n
  | _ => 0
theorem Own.len {w : World} {v : Value} {xs : Bs} (h : Own w v xs) : slLen v = xs.length := by
  rcases h with ⟨rfl, rfl⟩ | ⟨g, cap, cur, rfl, _⟩ <;> rfl
theorem Own.form {w : World} {v : Value} {xs : Bs} (h : Own w v xs) : ∃ b c, v = .slice b xs.length c := by
  rcases h with ⟨rfl, rfl⟩ | ⟨g, cap, cur, rfl, _⟩ <;> exact ⟨_, _, rfl⟩
/-- An empty row of its own. -/
theorem own_empty (W : World) (cs : Array Value) (h : cs = #[]) : Own (W.alloc (.cells cs 5)) (.slice (some ⟨W.heap.size, 0, none⟩) 0 0) [] := by
  subst h
  exact .inr ⟨W.heap.size, 0, #[], rfl, heap_alloc_new W _, Nat.le_refl _, Nat.zero_le _, rfl, rfl⟩
/-- A row of its own that is as long as it may be. -/
theorem own_row {W : World} {g : Nat} {xs : Bs} (h : W.heap[g]? = some (.cells (brow xs).toArray 5 (0, 0))) (hn : xs.length ≤ 1000000) {n : Nat} (hl : n = xs.length) : Own W (.slice (some ⟨g, 0, none⟩) n n) xs := by
  subst hl
  exact .inr ⟨g, _, _, rfl, h, Nat.le_refl _, by unfold maxLen; omega, by rw [List.size_toArray, brow_length], by rw [List.take_of_length_le (by rw [brow_length]; exact Nat.le_refl _)]⟩
theorem Fr.nil (w : World) : Fr w [] w (.slice none 0 0) := ⟨Own.nil w, Chg.refl _ _, by simp [Value.ownBlock]⟩
/-- Bytes appended to such a value. -/
theorem Fr.app {w w' w0 w1 : World} {X Z : Bs} {v v' : Value} (h : Fr w X w' v) (hc0 : Chg [] w' w0) (ho : Own w1 v' Z) (hc : Chg v.ownBlock.toList w0 w1) (hf : ∀ k, v'.ownBlock = some k → v.ownBlock = some k ∨ w0.heap.size ≤ k) : Fr w Z w1 v' := by
  refine ⟨ho, (h.2.1.trans hc0).and hc fun i hi => .inr (h.2.2 i (by simpa using hi)), fun g hg => ?_⟩
  rcases hf g hg with h1 | h1
  · exact h.2.2 g h1
  · have := h.2.1.size; have := hc0.size; omega
theorem run_cut2 (a : Option Addr) (len cap n m : Nat) (hn : n ≤ m) (hm : m ≤ cap) (w : World) :
    (Instr.slice 24 (.slice a len cap) (some (.int .i64 (n : Int))) (some (.int .i64 (m : Int))) none).run Tryd.prog w = .ok (.slice (cutO a cap n) (m - n) (cap - n)) w := by
  rw [run_slice_lh (P := Tryd.prog) w 24 a len cap (by kernel_rfl) .i64 .i64 (n : Int) (m : Int) (by omega) (by omega) (by omega)]
  have := size_u8 w
  rw [show Tryd.prog.elem 24 = 5 from by kernel_rfl, this]
  simp [sliced, cutO]
theorem BS.cut2 {S : List Nat} {w : World} {a : Option Addr} {c : Nat} {xs : Bs} (h : BS S w (.slice a xs.length c) xs) (n m : Nat) (hn : n ≤ m) (hm : m ≤ xs.length) : BS S w (.slice (cutO a c n) (m - n) (c - n)) ((xs.drop n).take (m - n)) := by
  have h1 := h.cut n (by omega)
  have e : xs.length - n = (xs.drop n).length := by simp
  rw [e] at h1
  exact h1.head (m - n) (by simp; omega)
section
variable {P : Program} {ops : Array Oper} {Q : Exit → Act → World → Prop} {S : World → Prop}
theorem plan_val {o : Oper} {r : List (Oper × Bool)} {a : Act} {w : World} (v : Value) (hw : Region.wanted o (yielded ops a.tmps) = true) (hv : ∀ W, S W → (execOp a.eval o).run P W = .ok (.value v) W) (h : wpPlan P ops S Q r (a.put o.dst v) w) : wpPlan P ops S Q ((o, true) :: r) a w := ⟨v, .inl ⟨hw, hv⟩, h⟩
theorem plan_skip {o : Oper} {r : List (Oper × Bool)} {a : Act} {w : World} (hw : Region.wanted o (yielded ops a.tmps) = false) (h : wpPlan P ops S Q r (a.put o.dst undef) w) : wpPlan P ops S Q ((o, true) :: r) a w := ⟨undef, .inr ⟨hw, rfl⟩, h⟩
theorem plan_loadG {o : Oper} {r : List (Oper × Bool)} {a : Act} {w : World} (t : TypeId) (x : Operand) (p : Addr) (v : Value) (ho : o.op = .load t x) (hw : Region.wanted o (yielded ops a.tmps) = true) (hx : a.eval x = .pointer (some p)) (hl : ∀ w, S w → (Instr.loadAt t (.pointer (some p))).run P w = .ok v w)
    (h : wpPlan P ops S Q r (a.put o.dst v) w) : wpPlan P ops S Q ((o, true) :: r) a w :=
  plan_val v hw (fun w hw => by
    unfold execOp
    rw [ho]
    simp only [hx, Sem.run_bind, hl w hw, Result.andThen_ok, Sem.run_pure]) h
theorem plan_move {o : Oper} {r : List (Oper × Bool)} {a : Act} {w : World} (x : Operand) (ho : o.op = .move x) (hw : Region.wanted o (yielded ops a.tmps) = true) (h : wpPlan P ops S Q r (a.put o.dst (a.eval x)) w) : wpPlan P ops S Q ((o, true) :: r) a w :=
  plan_val _ hw (fun w _ => by unfold execOp; rw [ho]; rfl) h
theorem plan_assign {o : Oper} {r : List (Oper × Bool)} {a : Act} {w : World} (x : Operand) (ho : o.op = .assign x) (hw : Region.wanted o (yielded ops a.tmps) = true) (h : wpPlan P ops S Q r (a.put o.dst (a.eval x)) w) : wpPlan P ops S Q ((o, true) :: r) a w :=
  plan_val _ hw (fun w _ => by unfold execOp; rw [ho]; rfl) h
theorem plan_makeFunc {o : Oper} {r : List (Oper × Bool)} {a : Act} {w : World} (fn : Fn) (xs ys : Array Operand) (ho : o.op = .makeFunc fn xs ys) (hw : Region.wanted o (yielded ops a.tmps) = true) (h : wpPlan P ops S Q r (a.put o.dst (.func fn (xs.map a.eval) (ys.map a.eval))) w) : wpPlan P ops S Q ((o, true) :: r) a w :=
  plan_val _ hw (fun w _ => by unfold execOp; rw [ho]; rfl) h
end
theorem run_len_bytes {ty : TypeId} (b : Option Addr) (n c : Nat) (w : World) : (Builtin.len_ #[24] ty #[.slice b n c]).run Tryd.prog w = .ok (.int .i64 (n : Int)) w := by
  simp [Builtin.len_, run_underlying Tryd.underlying24, goInt]
theorem plan_len {ops : Array Oper} {Q : Exit → Act → World → Prop} {S : World → Prop} {o : Oper} {r : List (Oper × Bool)} {a : Act} {w : World} (x : Operand) (ho : o.op = .call { callee := .builtin .len, args := #[x], argTypes := #[24] }) (hw : Region.wanted o (yielded ops a.tmps) = true) {b : Option Addr} {n c : Nat} (hx : a.eval x = .slice b n c) (h : wpPlan Tryd.prog ops S Q r (a.put o.dst (.int .i64 (n : Int))) w) : wpPlan Tryd.prog ops S Q ((o, true) :: r) a w :=
  plan_val _ hw (fun w _ => by
    unfold execOp
    simp only [ho, resolve, invoke, builtin, Sem.run_bind, Sem.run_pure, Result.andThen_ok, List.map_toArray, List.map_cons, List.map_nil, hx, run_len_bytes]) h

/-- The named hash as a value; its block. -/
abbrev hV (kd sz bk : Int) : Value := .agg #[.int .i64 kd, .int .i64 sz, .int .i64 bk]
abbrev hObj (kd sz bk : Int) : Obj := .cells #[.int .i64 kd, .int .i64 sz, .int .i64 bk] 23 (0, 0)
theorem ld_hV {W : World} {g : Nat} {kd sz bk : Int} (h : W.heap[g]? = some (hObj kd sz bk)) : (Instr.loadAt 23 (.pointer (some ⟨g, 0, none⟩))).run Tryd.prog W = .ok (hV kd sz bk) W := by
  have c0 : W.cell? ⟨g, 0, none⟩ = some (.int .i64 kd) := blk_cell h 0
  have c1 : W.cell? ⟨g, 1, none⟩ = some (.int .i64 sz) := blk_cell h 1
  have c2 : W.cell? ⟨g, 2, none⟩ = some (.int .i64 bk) := blk_cell h 2
  simp [go_sem, c0, c1, c2]

theorem own_range (sz bk : Int) : 1 ≤ ownSz sz bk ∧ ownSz sz bk ≤ 16 ∧ ownSz sz bk ≤ ownBk sz bk ∧ ownBk sz bk ≤ 32 := by
  unfold ownSz ownBk
  split <;> omega
/-- The sizes of the named hash. -/
def kSz (kd sz bk : Int) : Nat := if kd = 1 then 32 else ownSz sz bk
def kBk (kd sz bk : Int) : Nat := if kd = 1 then 64 else ownBk sz bk
theorem kSz_own {kd sz bk : Int} (h : kd ≠ 1) : kSz kd sz bk = ownSz sz bk := if_neg h
theorem kBk_own {kd sz bk : Int} (h : kd ≠ 1) : kBk kd sz bk = ownBk sz bk := if_neg h
end Go.Proofs.YtknoomndofnnmaaDoor
