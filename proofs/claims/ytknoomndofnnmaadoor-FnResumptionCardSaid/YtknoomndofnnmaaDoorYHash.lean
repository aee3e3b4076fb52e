/- The two hashes under one name: what their methods do. -/
import Derived.Test.YtknoomndofnnmaaDoorYShaH
import Derived.Test.YtknoomndofnnmaaDoorYOwn
import Derived.Test.YtknoomndofnnmaaDoorYStill
import Derived.Handy
namespace Go.Proofs.YtknoomndofnnmaaDoor
open Go Go.RowKit

/-- Which hash: SHA-256 (none), or the package's own one of a size and a block. -/
abbrev Kd := Option (Nat × Nat)
def hfK (K : List UInt32) : Kd → HF
  | none => shaF K
  | some (sz, bk) => ownF sz bk
def Kd.ok : Kd → Prop
  | none => True
  | some (sz, bk) => 1 ≤ sz ∧ sz ≤ 16 ∧ sz ≤ bk ∧ bk ≤ 32
theorem hfK_ok (K : List UInt32) {κ : Kd} (h : κ.ok) : (hfK K κ).Ok := by
  cases κ with
  | none => exact shaF_ok K
  | some p => obtain ⟨sz, bk⟩ := p; exact ownF_ok h.1 h.2.1 h.2.2.1 h.2.2.2
def kTy : Kd → TypeId
  | none => 43
  | some _ => 50
def fWrite : Kd → FuncId
  | none => 43
  | some _ => 47
def fSum : Kd → FuncId
  | none => 45
  | some _ => 48
def fReset : Kd → FuncId
  | none => 77
  | some _ => 80
def fSize : Kd → FuncId
  | none => 143
  | some _ => 154
def fBlock : Kd → FuncId
  | none => 141
  | some _ => 153
/-- The hash at p (its row at s; SHA-256: the same block) has taken d in. -/
def HAt (K : List UInt32) (κ : Kd) (w : World) (p s : Nat) (d : Bs) : Prop :=
  p ≠ 0 ∧ s ≠ 0 ∧ match κ with
    | none => s = p ∧ DigAt K w p d
    | some (sz, bk) => OwnAt w p s sz bk d.length (ownState sz d)
/-- A hash in whatever state. -/
def HRaw (κ : Kd) (w : World) (p s : Nat) : Prop :=
  p ≠ 0 ∧ s ≠ 0 ∧ match κ with
    | none => s = p ∧ DigRaw w p
    | some (sz, bk) => ∃ n st, OwnAt w p s sz bk n st
theorem HAt.raw {K : List UInt32} {κ : Kd} {w : World} {p s : Nat} {d : Bs} (h : HAt K κ w p s d) : HRaw κ w p s := by
  obtain ⟨h1, h2, h⟩ := h
  refine ⟨h1, h2, ?_⟩
  cases κ with
  | none => exact ⟨h.1, h.2.raw⟩
  | some q => exact ⟨_, _, h⟩
theorem HAt.chg {K : List UInt32} {κ : Kd} {w w' : World} {p s : Nat} {d : Bs} {S : List Nat} (h : HAt K κ w p s d) (hc : Chg S w w') (hp : p ∉ S) (hs : s ∉ S) : HAt K κ w' p s d := by
  obtain ⟨h1, h2, h⟩ := h
  refine ⟨h1, h2, ?_⟩
  cases κ with
  | none => exact ⟨h.1, h.2.chg hc hp⟩
  | some q => exact OwnAt.chg h hc hp hs
theorem HRaw.chg {κ : Kd} {w w' : World} {p s : Nat} {S : List Nat} (h : HRaw κ w p s) (hc : Chg S w w') (hp : p ∉ S) (hs : s ∉ S) : HRaw κ w' p s := by
  obtain ⟨h1, h2, h⟩ := h
  refine ⟨h1, h2, ?_⟩
  cases κ with
  | none => exact ⟨h.1, h.2.chg hc hp⟩
  | some q => obtain ⟨n, st, h⟩ := h; exact ⟨n, st, OwnAt.chg h hc hp hs⟩
theorem HRaw.lt {κ : Kd} {w : World} {p s : Nat} (h : HRaw κ w p s) : p < w.heap.size ∧ s < w.heap.size := by
  obtain ⟨h1, h2, h⟩ := h
  cases κ with
  | none => obtain ⟨rfl, _, _, _, _, _, _, h⟩ := h; exact ⟨blk_lt h, blk_lt h⟩
  | some q => obtain ⟨n, st, h⟩ := h; exact ⟨blk_lt h.2.2.2.2.1, blk_lt h.2.2.2.2.2⟩

theorem h_write (K : List UInt32) (κ : Kd) (w : World) (p s : Nat) (d : Bs) (hK : KAt K w) (h : HAt K κ w p s d) (hd : d.length ≤ 500000) (v : Value) (xs : Bs) (hx : xs.length ≤ 65536) (hv : BS [p, s] w v xs) :
    Calls Tryd.prog (fWrite κ) #[.pointer (some ⟨p, 0, none⟩), v] w fun e w' => e = .returned (.tuple #[.int .i64 xs.length, .nilIface]) ∧ HAt K κ w' p s (d ++ xs) ∧ Chg [p, s] w w' := by
  obtain ⟨h1, h2, h⟩ := h
  cases κ with
  | none =>
    obtain ⟨rfl, h⟩ := h
    exact (dig_write K w s d hK h (by omega) v xs hx (hv.old (by simp))).mono fun _ _ ⟨he, hd, hc⟩ => ⟨he, ⟨h1, h2, rfl, hd⟩, hc.mono (by simp)⟩
  | some q =>
    exact (own_write w p s q.1 q.2 d (by omega) h v xs (by omega) hv).mono fun _ _ ⟨he, hd, hc⟩ => ⟨he, ⟨h1, h2, hd⟩, hc⟩
theorem h_sum (K : List UInt32) (κ : Kd) (w : World) (p s : Nat) (d : Bs) (hK : KAt K w) (h : HAt K κ w p s d) (hd : d.length ≤ 500000) (vin : Value) (hv : Own w vin []) (hvo : ∀ g, vin.ownBlock = some g → g ∉ [p, s]) :
    Calls Tryd.prog (fSum κ) #[.pointer (some ⟨p, 0, none⟩), vin] w fun e w' => ∃ v', e = .returned v' ∧ Own w' v' ((hfK K κ).sum d) ∧ Chg vin.ownBlock.toList w w' ∧ ∀ g, v'.ownBlock = some g → vin.ownBlock = some g ∨ w.heap.size ≤ g := by
  obtain ⟨h1, h2, h⟩ := h
  cases κ with
  | none =>
    obtain ⟨rfl, h⟩ := h
    exact dig_sum K w s d hK h hd vin hv fun g hg => by have := hvo g hg; simp at this; exact this
  | some q => exact own_sum w p s q.1 q.2 d h vin hv hvo
theorem h_reset (K : List UInt32) (κ : Kd) (w : World) (p s : Nat) (h : HRaw κ w p s) :
    Calls Tryd.prog (fReset κ) #[.pointer (some ⟨p, 0, none⟩)] w fun e w' => e = .returned (.tuple #[]) ∧ HAt K κ w' p s [] ∧ Chg [p, s] w w' := by
  obtain ⟨h1, h2, h⟩ := h
  cases κ with
  | none =>
    obtain ⟨rfl, h⟩ := h
    exact (dig_reset K w s h).mono fun _ _ ⟨he, hd, hc⟩ => ⟨he, ⟨h1, h2, rfl, hd⟩, hc.mono (by simp)⟩
  | some q =>
    obtain ⟨n, st, h⟩ := h
    exact (own_reset w p s q.1 q.2 n st h).mono fun _ _ ⟨he, hd, hc⟩ => ⟨he, ⟨h1, h2, hd⟩, hc⟩
theorem h_size (κ : Kd) (w : World) (p s : Nat) (h : HRaw κ w p s) (K : List UInt32) :
    Calls Tryd.prog (fSize κ) #[.pointer (some ⟨p, 0, none⟩)] w fun e w' => e = .returned (.int .i64 (hfK K κ).sz) ∧ w = w' := by
  obtain ⟨h1, h2, h⟩ := h
  cases κ with
  | none => exact dig_size w p h.2
  | some q =>
    obtain ⟨n, st, h⟩ := h
    exact own_size w p s q.1 q.2 n st h
theorem h_block (κ : Kd) (w : World) (p s : Nat) (h : HRaw κ w p s) (K : List UInt32) :
    Calls Tryd.prog (fBlock κ) #[.pointer (some ⟨p, 0, none⟩)] w fun e w' => e = .returned (.int .i64 (hfK K κ).bk) ∧ w = w' := by
  obtain ⟨h1, h2, h⟩ := h
  cases κ with
  | none => exact dig_block w p
  | some q =>
    obtain ⟨n, st, h⟩ := h
    exact own_block w p s q.1 q.2 n st h

theorem run_size_types (w : World) : (Go.program).run Tryd.prog w = .ok Tryd.prog w := rfl
/-- A call through an interface value that holds a hash. -/
theorem invoke_op {ops : Array Oper} {rest : List Oper} {o : Oper} {a : Act} {w : World} {Q : Exit → Act → World → Prop} (hgd : o.guard = none) (recv : Operand) (name : String) (args : Array Operand) (ats : Array TypeId)
    (ho : o.op = .call { callee := .invoke recv name, args := args, argTypes := ats }) {T : TypeId} {v : Value} (hr : a.eval recv = .iface T v) {f : FuncId} {v2 : Value}
    (hm : ∀ W, (Go.method (Tryd.prog.types.size + Made.depth) T v name).run Tryd.prog W = .ok (f, v2) W) (hf : ∀ vs W, (callFunc f vs).run Tryd.prog W = .ok (.enter f vs) W) (vs : Array Value) (has : args.map a.eval = vs)
    {R : Value → World → Prop} (hc : Calls Tryd.prog f (#[v2] ++ vs) w fun e w' => ∃ x, e = .returned x ∧ R x w') (h : ∀ x w', R x w' → wpList Tryd.prog ops Q rest (a.put o.dst x) w') : wpList Tryd.prog ops Q (o :: rest) a w := by
  refine wpList_plain hgd fun K hK => ?_
  unfold Oper.wp
  have e : (execOp a.eval o).run Tryd.prog w = .ok (.enter f (#[v2] ++ vs)) w := by
    unfold execOp
    simp only [ho, resolve, Sem.run_bind, Sem.run_pure, Result.andThen_ok, hr, has]
    unfold invoke
    have e1 : (#[Value.iface T v] ++ vs)[0]? = some (Value.iface T v) := by
      rw [Array.getElem?_append_left (by simp)]; rfl
    have e2 : (#[Value.iface T v] ++ vs).extract 1 (#[Value.iface T v] ++ vs).size = vs := by
      rcases vs with ⟨l⟩
      simp
    simp only [e1, e2, callMethod, Sem.run_bind, run_size_types, Result.andThen_ok, hm, hf]
  rw [e, Oper.upon_enter]
  refine hc.mono ?_
  rintro e w' ⟨x, rfl, hx⟩
  exact hK _ _ (h x w' hx)
theorem invoke_op1 {ops : Array Oper} {rest : List Oper} {o : Oper} {a : Act} {w : World} {Q : Exit → Act → World → Prop} (hgd : o.guard = none) (recv : Operand) (name : String) (x : Operand) (ats : Array TypeId)
    (ho : o.op = .call { callee := .invoke recv name, args := #[x], argTypes := ats }) {T : TypeId} {v : Value} (hr : a.eval recv = .iface T v) {u : Value} (hx : a.eval x = u) {f : FuncId} {v2 : Value}
    (hm : ∀ W, (Go.method (Tryd.prog.types.size + Made.depth) T v name).run Tryd.prog W = .ok (f, v2) W) (hf : ∀ vs W, (callFunc f vs).run Tryd.prog W = .ok (.enter f vs) W)
    {R : Value → World → Prop} (hc : Calls Tryd.prog f #[v2, u] w fun e w' => ∃ x, e = .returned x ∧ R x w') (h : ∀ x w', R x w' → wpList Tryd.prog ops Q rest (a.put o.dst x) w') : wpList Tryd.prog ops Q (o :: rest) a w :=
  invoke_op hgd recv name #[x] ats ho hr hm hf #[u] (by simp [hx]) hc h
theorem invoke_op0 {ops : Array Oper} {rest : List Oper} {o : Oper} {a : Act} {w : World} {Q : Exit → Act → World → Prop} (hgd : o.guard = none) (recv : Operand) (name : String) (ats : Array TypeId)
    (ho : o.op = .call { callee := .invoke recv name, args := #[], argTypes := ats }) {T : TypeId} {v : Value} (hr : a.eval recv = .iface T v) {f : FuncId} {v2 : Value}
    (hm : ∀ W, (Go.method (Tryd.prog.types.size + Made.depth) T v name).run Tryd.prog W = .ok (f, v2) W) (hf : ∀ vs W, (callFunc f vs).run Tryd.prog W = .ok (.enter f vs) W)
    {R : Value → World → Prop} (hc : Calls Tryd.prog f #[v2] w fun e w' => ∃ x, e = .returned x ∧ R x w') (h : ∀ x w', R x w' → wpList Tryd.prog ops Q rest (a.put o.dst x) w') : wpList Tryd.prog ops Q (o :: rest) a w :=
  invoke_op hgd recv name #[] ats ho hr hm hf #[] (by simp) hc h
theorem Calls.some {f : FuncId} {args : Array Value} {w : World} {v : Value} {R : World → Prop} (h : Calls Tryd.prog f args w fun e w' => e = .returned v ∧ R w') : Calls Tryd.prog f args w fun e w' => ∃ x, e = .returned x ∧ (x = v ∧ R w') :=
  h.mono fun _ _ ⟨he, hr⟩ => ⟨_, he, rfl, hr⟩
theorem cf_write (κ : Kd) (vs : Array Value) (W : World) : (callFunc (fWrite κ) vs).run Tryd.prog W = .ok (.enter (fWrite κ) vs) W := by
  cases κ <;> kernel_rfl
theorem cf_sum (κ : Kd) (vs : Array Value) (W : World) : (callFunc (fSum κ) vs).run Tryd.prog W = .ok (.enter (fSum κ) vs) W := by
  cases κ <;> kernel_rfl
theorem cf_reset (κ : Kd) (vs : Array Value) (W : World) : (callFunc (fReset κ) vs).run Tryd.prog W = .ok (.enter (fReset κ) vs) W := by
  cases κ <;> kernel_rfl
theorem cf_size (κ : Kd) (vs : Array Value) (W : World) : (callFunc (fSize κ) vs).run Tryd.prog W = .ok (.enter (fSize κ) vs) W := by
  cases κ <;> kernel_rfl
theorem cf_block (κ : Kd) (vs : Array Value) (W : World) : (callFunc (fBlock κ) vs).run Tryd.prog W = .ok (.enter (fBlock κ) vs) W := by
  cases κ <;> kernel_rfl
theorem m_write (κ : Kd) (a : Addr) (w : World) : (Go.method (Tryd.prog.types.size + Made.depth) (kTy κ) (.pointer (some a)) "Write").run Tryd.prog w = .ok (fWrite κ, .pointer (some a)) w := by
  cases κ <;> kernel_rfl
theorem m_sum (κ : Kd) (a : Addr) (w : World) : (Go.method (Tryd.prog.types.size + Made.depth) (kTy κ) (.pointer (some a)) "Sum").run Tryd.prog w = .ok (fSum κ, .pointer (some a)) w := by
  cases κ <;> kernel_rfl
theorem m_reset (κ : Kd) (a : Addr) (w : World) : (Go.method (Tryd.prog.types.size + Made.depth) (kTy κ) (.pointer (some a)) "Reset").run Tryd.prog w = .ok (fReset κ, .pointer (some a)) w := by
  cases κ <;> kernel_rfl
theorem m_size (κ : Kd) (a : Addr) (w : World) : (Go.method (Tryd.prog.types.size + Made.depth) (kTy κ) (.pointer (some a)) "Size").run Tryd.prog w = .ok (fSize κ, .pointer (some a)) w := by
  cases κ <;> kernel_rfl
theorem m_block (κ : Kd) (a : Addr) (w : World) : (Go.method (Tryd.prog.types.size + Made.depth) (kTy κ) (.pointer (some a)) "BlockSize").run Tryd.prog w = .ok (fBlock κ, .pointer (some a)) w := by
  cases κ <;> kernel_rfl

section
variable {ops : Array Oper} {rest : List Oper} {o : Oper} {a : Act} {w : World} {Q : Exit → Act → World → Prop}
theorem inv_write (κ : Kd) (p : Nat) {u : Value} (hgd : o.guard = none) (recv x : Operand) (ho : o.op = .call { callee := .invoke recv "Write", args := #[x], argTypes := #[24] }) (hr : a.eval recv = .iface (kTy κ) (.pointer (some ⟨p, 0, none⟩))) (hx : a.eval x = u)
    {v : Value} {R : World → Prop} (hc : Calls Tryd.prog (fWrite κ) #[.pointer (some ⟨p, 0, none⟩), u] w fun e w' => e = .returned v ∧ R w') (h : ∀ w', R w' → wpList Tryd.prog ops Q rest (a.put o.dst v) w') : wpList Tryd.prog ops Q (o :: rest) a w :=
  invoke_op1 hgd recv "Write" x _ ho hr hx (m_write κ ⟨p, 0, none⟩) (cf_write κ) (Calls.some hc) (by rintro x w' ⟨rfl, hh⟩; exact h w' hh)
theorem inv_sum (κ : Kd) (p : Nat) {u : Value} (hgd : o.guard = none) (recv x : Operand) (ho : o.op = .call { callee := .invoke recv "Sum", args := #[x], argTypes := #[24] }) (hr : a.eval recv = .iface (kTy κ) (.pointer (some ⟨p, 0, none⟩))) (hx : a.eval x = u)
    {R : Value → World → Prop} (hc : Calls Tryd.prog (fSum κ) #[.pointer (some ⟨p, 0, none⟩), u] w fun e w' => ∃ v, e = .returned v ∧ R v w') (h : ∀ v w', R v w' → wpList Tryd.prog ops Q rest (a.put o.dst v) w') : wpList Tryd.prog ops Q (o :: rest) a w :=
  invoke_op1 hgd recv "Sum" x _ ho hr hx (m_sum κ ⟨p, 0, none⟩) (cf_sum κ) hc h
theorem inv_reset (κ : Kd) (p : Nat) (hgd : o.guard = none) (recv : Operand) (ho : o.op = .call { callee := .invoke recv "Reset", args := #[], argTypes := #[] }) (hr : a.eval recv = .iface (kTy κ) (.pointer (some ⟨p, 0, none⟩)))
    {v : Value} {R : World → Prop} (hc : Calls Tryd.prog (fReset κ) #[.pointer (some ⟨p, 0, none⟩)] w fun e w' => e = .returned v ∧ R w') (h : ∀ w', R w' → wpList Tryd.prog ops Q rest (a.put o.dst v) w') : wpList Tryd.prog ops Q (o :: rest) a w :=
  invoke_op0 hgd recv "Reset" _ ho hr (m_reset κ ⟨p, 0, none⟩) (cf_reset κ) (Calls.some hc) (by rintro x w' ⟨rfl, hh⟩; exact h w' hh)
theorem inv_size (κ : Kd) (p : Nat) (hgd : o.guard = none) (recv : Operand) (ho : o.op = .call { callee := .invoke recv "Size", args := #[], argTypes := #[] }) (hr : a.eval recv = .iface (kTy κ) (.pointer (some ⟨p, 0, none⟩)))
    {v : Value} {R : World → Prop} (hc : Calls Tryd.prog (fSize κ) #[.pointer (some ⟨p, 0, none⟩)] w fun e w' => e = .returned v ∧ R w') (h : ∀ w', R w' → wpList Tryd.prog ops Q rest (a.put o.dst v) w') : wpList Tryd.prog ops Q (o :: rest) a w :=
  invoke_op0 hgd recv "Size" _ ho hr (m_size κ ⟨p, 0, none⟩) (cf_size κ) (Calls.some hc) (by rintro x w' ⟨rfl, hh⟩; exact h w' hh)
theorem inv_block (κ : Kd) (p : Nat) (hgd : o.guard = none) (recv : Operand) (ho : o.op = .call { callee := .invoke recv "BlockSize", args := #[], argTypes := #[] }) (hr : a.eval recv = .iface (kTy κ) (.pointer (some ⟨p, 0, none⟩)))
    {v : Value} {R : World → Prop} (hc : Calls Tryd.prog (fBlock κ) #[.pointer (some ⟨p, 0, none⟩)] w fun e w' => e = .returned v ∧ R w') (h : ∀ w', R w' → wpList Tryd.prog ops Q rest (a.put o.dst v) w') : wpList Tryd.prog ops Q (o :: rest) a w :=
  invoke_op0 hgd recv "BlockSize" _ ho hr (m_block κ ⟨p, 0, none⟩) (cf_block κ) (Calls.some hc) (by rintro x w' ⟨rfl, hh⟩; exact h w' hh)
theorem m_unm (a : Addr) (w : World) : (Go.method (Tryd.prog.types.size + Made.depth) (kTy none) (.pointer (some a)) "UnmarshalBinary").run Tryd.prog w = .ok (144, .pointer (some a)) w := by kernel_rfl
theorem cf_unm (vs : Array Value) (W : World) : (callFunc 144 vs).run Tryd.prog W = .ok (.enter 144 vs) W := by kernel_rfl
theorem m_mar (a : Addr) (w : World) : (Go.method (Tryd.prog.types.size + Made.depth) (kTy none) (.pointer (some a)) "MarshalBinary").run Tryd.prog w = .ok (142, .pointer (some a)) w := by kernel_rfl
theorem cf_mar (vs : Array Value) (W : World) : (callFunc 142 vs).run Tryd.prog W = .ok (.enter 142 vs) W := by kernel_rfl
theorem inv_unm (p : Nat) {u : Value} (hgd : o.guard = none) (recv x : Operand) (ho : o.op = .call { callee := .invoke recv "UnmarshalBinary", args := #[x], argTypes := #[24] }) (hr : a.eval recv = .iface (kTy none) (.pointer (some ⟨p, 0, none⟩))) (hx : a.eval x = u)
    {v : Value} {R : World → Prop} (hc : Calls Tryd.prog 144 #[.pointer (some ⟨p, 0, none⟩), u] w fun e w' => e = .returned v ∧ R w') (h : ∀ w', R w' → wpList Tryd.prog ops Q rest (a.put o.dst v) w') : wpList Tryd.prog ops Q (o :: rest) a w :=
  invoke_op1 hgd recv "UnmarshalBinary" x _ ho hr hx (m_unm ⟨p, 0, none⟩) cf_unm (Calls.some hc) (by rintro x w' ⟨rfl, hh⟩; exact h w' hh)
theorem inv_mar (p : Nat) (hgd : o.guard = none) (recv : Operand) (ho : o.op = .call { callee := .invoke recv "MarshalBinary", args := #[], argTypes := #[] }) (hr : a.eval recv = .iface (kTy none) (.pointer (some ⟨p, 0, none⟩)))
    {R : Value → World → Prop} (hc : Calls Tryd.prog 142 #[.pointer (some ⟨p, 0, none⟩)] w fun e w' => ∃ v, e = .returned v ∧ R v w') (h : ∀ v w', R v w' → wpList Tryd.prog ops Q rest (a.put o.dst v) w') : wpList Tryd.prog ops Q (o :: rest) a w :=
  invoke_op0 hgd recv "MarshalBinary" _ ho hr (m_mar ⟨p, 0, none⟩) cf_mar hc h
end
end Go.Proofs.YtknoomndofnnmaaDoor
