/- Words for functions that answer with new bytes, for walks that build them by appends and makes; more ways to take an operation of a drawn region first. No condition. A string's bytes as a new slice; an append to it. The laws' helpers (long, same) and the thin package's copy of bytes. More words for laws: lengths together, slices of strings in drawn regions. -/
import Derived.Test.YtknoomndofnnmaaDoorYOwn
import Derived.Test.YtknoomndofnnmaaDoorYStill
import Derived.Test.YtknoomndofnnmaaDoorYBytes
import Derived.Deep.DeepCutAuto
import Derived.Lib.ConvBytes
namespace Go.Proofs.YtknoomndofnnmaaDoor
open Go Go.RowKit

/-- The value v is a row of its own that reads as X, made behind w; nothing that was has changed. -/
def Fr (w : World) (X : Bs) (w' : World) (v : Value) : Prop := Own w' v X ∧ Chg [] w w' ∧ ∀ g, v.ownBlock = some g → w.heap.size ≤ g
/-- The call ends with such a value. -/
def Gives (w : World) (X : Bs) (e : Ending) (w' : World) : Prop := ∃ v, e = .returned v ∧ Fr w X w' v
theorem Fr.bs {w w' : World} {X : Bs} {v : Value} (h : Fr w X w' v) {S : List Nat} (hS : ∀ k ∈ S, k < w.heap.size) : BS S w' v X := h.1.bs fun g hg hm => by
  have := h.2.2 g hg
  have := hS g hm
  omega
theorem Fr.bs0 {w w' : World} {X : Bs} {v : Value} (h : Fr w X w' v) : BS [] w' v X := h.bs (by simp)
theorem Fr.from {w w1 w' : World} {X : Bs} {v : Value} (h : Fr w1 X w' v) (hc : Chg [] w w1) : Fr w X w' v := ⟨h.1, hc.trans h.2.1, fun g hg => Nat.le_trans hc.size (h.2.2 g hg)⟩
theorem Fr.then {w w1 w' : World} {X : Bs} {v : Value} (h : Fr w X w1 v) (hc : Chg [] w1 w') : Fr w X w' v := ⟨h.1.chg hc (by simp), h.2.1.trans hc, h.2.2⟩
theorem BS.keep {w w' : World} {v : Value} {xs : Bs} {S : List Nat} (h : BS S w v xs) (hc : Chg [] w w') : BS S w' v xs := h.chg hc (by simp)


/-- A slice's length. -/
def slLen : Value → Nat
  | .slice _ n _ => n
  | _ => 0
theorem Own.len {w : World} {v : Value} {xs : Bs} (h : Own w v xs) : slLen v = xs.length := by
  rcases h with ⟨rfl, rfl⟩ | ⟨g, cap, cur, rfl, _⟩ <;> rfl
theorem Own.form {w : World} {v : Value} {xs : Bs} (h : Own w v xs) : ∃ b c, v = .slice b xs.length c := by
  rcases h with ⟨rfl, rfl⟩ | ⟨g, cap, cur, rfl, _⟩ <;> exact ⟨_, _, rfl⟩
/-- An empty row of its own. -/
theorem own_empty (W : World) (cs : Array Value) (h : cs = #[]) : Own (W.alloc (.cells cs 5)) (.slice (some ⟨W.heap.size, 0, none⟩) 0 0) [] := by
  subst h
  exact .inr ⟨W.heap.size, 0, #[], rfl, heap_alloc_new W _, Nat.le_refl _, Nat.zero_le _, rfl, rfl⟩
/-- A row of its own that is as long as it may be. -/
theorem own_row {W : World} {g : Nat} {xs : Bs} (h : W.heap[g]? = some (.cells (brow xs).toArray 5 (0, 0))) (hn : xs.length ≤ 1000000) {n : Nat} (hl : n = xs.length) : Own W (.slice (some ⟨g, 0, none⟩) n n) xs := by
  subst hl
  exact .inr ⟨g, _, _, rfl, h, Nat.le_refl _, by unfold maxLen; omega, by rw [List.size_toArray, brow_length], by rw [List.take_of_length_le (by rw [brow_length]; exact Nat.le_refl _)]⟩
theorem Fr.nil (w : World) : Fr w [] w (.slice none 0 0) := ⟨Own.nil w, Chg.refl _ _, by simp [Value.ownBlock]⟩
/-- Bytes appended to such a value. -/
theorem Fr.app {w w' w0 w1 : World} {X Z : Bs} {v v' : Value} (h : Fr w X w' v) (hc0 : Chg [] w' w0) (ho : Own w1 v' Z) (hc : Chg v.ownBlock.toList w0 w1) (hf : ∀ k, v'.ownBlock = some k → v.ownBlock = some k ∨ w0.heap.size ≤ k) : Fr w Z w1 v' := by
  refine ⟨ho, (h.2.1.trans hc0).and hc fun i hi => .inr (h.2.2 i (by simpa using hi)), fun g hg => ?_⟩
  rcases hf g hg with h1 | h1
  · exact h.2.2 g h1
  · have := h.2.1.size; have := hc0.size; omega
theorem run_cut2 (a : Option Addr) (len cap n m : Nat) (hn : n ≤ m) (hm : m ≤ cap) (w : World) :
    (Instr.slice 24 (.slice a len cap) (some (.int .i64 (n : Int))) (some (.int .i64 (m : Int))) none).run Tryd.prog w = .ok (.slice (cutO a cap n) (m - n) (cap - n)) w := by
  rw [run_slice_lh (P := Tryd.prog) w 24 a len cap (by kernel_rfl) .i64 .i64 (n : Int) (m : Int) (by omega) (by omega) (by omega)]
  have := size_u8 w
  rw [show Tryd.prog.elem 24 = 5 from by kernel_rfl, this]
  simp [sliced, cutO]
theorem BS.cut2 {S : List Nat} {w : World} {a : Option Addr} {c : Nat} {xs : Bs} (h : BS S w (.slice a xs.length c) xs) (n m : Nat) (hn : n ≤ m) (hm : m ≤ xs.length) : BS S w (.slice (cutO a c n) (m - n) (c - n)) ((xs.drop n).take (m - n)) := by
  have h1 := h.cut n (by omega)
  have e : xs.length - n = (xs.drop n).length := by simp
  rw [e] at h1
  exact h1.head (m - n) (by simp; omega)
section
variable {P : Program} {ops : Array Oper} {Q : Exit → Act → World → Prop} {S : World → Prop}
theorem plan_val {o : Oper} {r : List (Oper × Bool)} {a : Act} {w : World} (v : Value) (hw : Region.wanted o (yielded ops a.tmps) = true) (hv : ∀ W, S W → (execOp a.eval o).run P W = .ok (.value v) W) (h : wpPlan P ops S Q r (a.put o.dst v) w) : wpPlan P ops S Q ((o, true) :: r) a w := ⟨v, .inl ⟨hw, hv⟩, h⟩
theorem plan_skip {o : Oper} {r : List (Oper × Bool)} {a : Act} {w : World} (hw : Region.wanted o (yielded ops a.tmps) = false) (h : wpPlan P ops S Q r (a.put o.dst undef) w) : wpPlan P ops S Q ((o, true) :: r) a w := ⟨undef, .inr ⟨hw, rfl⟩, h⟩
theorem plan_loadG {o : Oper} {r : List (Oper × Bool)} {a : Act} {w : World} (t : TypeId) (x : Operand) (p : Addr) (v : Value) (ho : o.op = .load t x) (hw : Region.wanted o (yielded ops a.tmps) = true) (hx : a.eval x = .pointer (some p)) (hl : ∀ w, S w → (Instr.loadAt t (.pointer (some p))).run P w = .ok v w)
    (h : wpPlan P ops S Q r (a.put o.dst v) w) : wpPlan P ops S Q ((o, true) :: r) a w :=
  plan_val v hw (fun w hw => by
    unfold execOp
    rw [ho]
    simp only [hx, Sem.run_bind, hl w hw, Result.andThen_ok, Sem.run_pure]) h
theorem plan_move {o : Oper} {r : List (Oper × Bool)} {a : Act} {w : World} (x : Operand) (ho : o.op = .move x) (hw : Region.wanted o (yielded ops a.tmps) = true) (h : wpPlan P ops S Q r (a.put o.dst (a.eval x)) w) : wpPlan P ops S Q ((o, true) :: r) a w :=
  plan_val _ hw (fun w _ => by unfold execOp; rw [ho]; rfl) h
theorem plan_assign {o : Oper} {r : List (Oper × Bool)} {a : Act} {w : World} (x : Operand) (ho : o.op = .assign x) (hw : Region.wanted o (yielded ops a.tmps) = true) (h : wpPlan P ops S Q r (a.put o.dst (a.eval x)) w) : wpPlan P ops S Q ((o, true) :: r) a w :=
  plan_val _ hw (fun w _ => by unfold execOp; rw [ho]; rfl) h
theorem plan_makeFunc {o : Oper} {r : List (Oper × Bool)} {a : Act} {w : World} (fn : Fn) (xs ys : Array Operand) (ho : o.op = .makeFunc fn xs ys) (hw : Region.wanted o (yielded ops a.tmps) = true) (h : wpPlan P ops S Q r (a.put o.dst (.func fn (xs.map a.eval) (ys.map a.eval))) w) : wpPlan P ops S Q ((o, true) :: r) a w :=
  plan_val _ hw (fun w _ => by unfold execOp; rw [ho]; rfl) h
end
theorem run_len_bytes {ty : TypeId} (b : Option Addr) (n c : Nat) (w : World) : (Builtin.len_ #[24] ty #[.slice b n c]).run Tryd.prog w = .ok (.int .i64 (n : Int)) w := by
  simp [Builtin.len_, run_underlying Tryd.underlying24, goInt]
theorem plan_len {ops : Array Oper} {Q : Exit → Act → World → Prop} {S : World → Prop} {o : Oper} {r : List (Oper × Bool)} {a : Act} {w : World} (x : Operand) (ho : o.op = .call { callee := .builtin .len, args := #[x], argTypes := #[24] }) (hw : Region.wanted o (yielded ops a.tmps) = true) {b : Option Addr} {n c : Nat} (hx : a.eval x = .slice b n c) (h : wpPlan Tryd.prog ops S Q r (a.put o.dst (.int .i64 (n : Int))) w) : wpPlan Tryd.prog ops S Q ((o, true) :: r) a w :=
  plan_val _ hw (fun w _ => by
    unfold execOp
    simp only [ho, resolve, invoke, builtin, Sem.run_bind, Sem.run_pure, Result.andThen_ok, List.map_toArray, List.map_cons, List.map_nil, hx, run_len_bytes]) h

/-- The named hash as a value; its block. -/
abbrev hV (kd sz bk : Int) : Value := .agg #[.int .i64 kd, .int .i64 sz, .int .i64 bk]
abbrev hObj (kd sz bk : Int) : Obj := .cells #[.int .i64 kd, .int .i64 sz, .int .i64 bk] 23 (0, 0)
theorem ld_hV {W : World} {g : Nat} {kd sz bk : Int} (h : W.heap[g]? = some (hObj kd sz bk)) : (Instr.loadAt 23 (.pointer (some ⟨g, 0, none⟩))).run Tryd.prog W = .ok (hV kd sz bk) W := by
  have c0 : W.cell? ⟨g, 0, none⟩ = some (.int .i64 kd) := blk_cell h 0
  have c1 : W.cell? ⟨g, 1, none⟩ = some (.int .i64 sz) := blk_cell h 1
  have c2 : W.cell? ⟨g, 2, none⟩ = some (.int .i64 bk) := blk_cell h 2
  simp [go_sem, c0, c1, c2]

theorem own_range (sz bk : Int) : 1 ≤ ownSz sz bk ∧ ownSz sz bk ≤ 16 ∧ ownSz sz bk ≤ ownBk sz bk ∧ ownBk sz bk ≤ 32 := by
  unfold ownSz ownBk
  split <;> omega
/-- The sizes of the named hash. -/
def kSz (kd sz bk : Int) : Nat := if kd = 1 then 32 else ownSz sz bk
def kBk (kd sz bk : Int) : Nat := if kd = 1 then 64 else ownBk sz bk
theorem kSz_own {kd sz bk : Int} (h : kd ≠ 1) : kSz kd sz bk = ownSz sz bk := if_neg h
theorem kBk_own {kd sz bk : Int} (h : kd ≠ 1) : kBk kd sz bk = ownBk sz bk := if_neg h
end Go.Proofs.YtknoomndofnnmaaDoor

namespace Go.Proofs.YtknoomndofnnmaaDoor
open Go Go.RowKit

/-- The bytes of a string. -/
def sb (s : ByteArray) : Bs := s.data.toList
theorem sb_length (s : ByteArray) : (sb s).length = s.size := by unfold sb; rw [Array.length_toList]; rfl
/-- []byte(s). -/
theorem conv_bytes (W : World) (s : ByteArray) (hs : s.size ≤ 1099511627776) :
    ∃ c w' cur m, (convert 9 24 (.string s)).run Tryd.prog W = .ok (.slice (some ⟨W.heap.size, 0, none⟩) s.size c) w' ∧ Chg [] W w' ∧ BS [] w' (.slice (some ⟨W.heap.size, 0, none⟩) s.size c) (sb s) ∧
      w'.heap[W.heap.size]? = some (.cells cur 5 (m, m + 1)) ∧ cur.size = m ∧ m = c ∧ s.size ≤ c := by
  have h := Go.Lib.run_convert_string_bytes (P := Tryd.prog) W 9 24 5 s Tryd.underlying9 Tryd.underlying24 Tryd.underlying5
  have hge := grownCap_ge W s.size 0 5
  have hle := grownCap_le_maxLen W s.size 0 5 (by unfold maxLen; omega)
  have hsz : (Go.Lib.bytesCells W 5 s).size = grownCap W s.size 0 5 := by
    have e : s.data.size = s.size := rfl
    simp [Go.Lib.bytesCells, e]
    omega
  refine ⟨_, _, _, _, h, ⟨rfl, rfl, rfl, by rw [Go.Lib.bytesWorld_size]; omega, fun k hk _ => Go.Lib.bytesWorld_at_old _ _ _ _ hk⟩, ?_, Go.Lib.bytesWorld_at_new W _ s, rfl, hsz, hge⟩
  refine ⟨_, _, by rw [sb_length], by rw [sb_length]; exact hge, hle, (fun h => by cases h), .inr ⟨_, 0, rfl, by simp, fun j hj => ?_⟩⟩
  rw [sb_length] at hj
  have hc := Go.Lib.bytesWorld_cell W 5 s j hj
  rw [Nat.zero_add, hc]
  rfl
end Go.Proofs.YtknoomndofnnmaaDoor

namespace Go.Proofs.YtknoomndofnnmaaDoor
open Go Go.RowKit

/-- A copy, nil if there are no bytes. -/
def GivesN (w : World) (X : Bs) (e : Ending) (w' : World) : Prop := ∃ v, e = .returned v ∧ Fr w X w' v ∧ (v = .slice none 0 0 ↔ X = [])
theorem impl_copied (w : World) (v : Value) (d : Bs) (hd : d.length ≤ 1000000) (hv : BS [] w v d) : Calls Tryd.prog 44 #[v] w (GivesN w d) := by
  go_enter Tryd.func44, Tryd.ntmps44
  go_wp2_with (at_builtin; refine append_bytes (v := .slice none 0 0) (xs := []) (ys := d) (u := v) rfl _ _ rfl rfl (Own.nil w) rfl hv.src (by simp; omega) ?_; intro v1 w1 hown1 hchg1 hsame1 hnil1)
  go_ret
  exact ⟨_, rfl, (Fr.nil w).app (Chg.refl [] w) hown1 hchg1 hsame1, by simpa using hnil1⟩
theorem laws_same (w : World) (v u : Value) (xs : Bs) (hv : BS [] w v xs) (hu : BS [] w u xs) : Calls Tryd.prog 17 #[v, u] w fun e w' => e = .returned (.bool true) ∧ Chg [] w w' := by
  have e1 := fun (S : List Nat) (W : World) (h : BS S W v xs) => h.str
  have h1 := hv.str
  have h2 := hu.str
  go_enter Tryd.func17, Tryd.ntmps17
  go_wp2
  go_ret
  exact ⟨rfl, Chg.refl [] w⟩
/-- The lengths' sum. -/
def lenSum (l : List (Value × Bs)) : Nat := (l.map (·.2.length)).sum
theorem lenSum_take (l : List (Value × Bs)) (k : Nat) (h : k < l.length) : lenSum (l.take (k + 1)) = lenSum (l.take k) + l[k].2.length := by
  unfold lenSum
  rw [List.take_succ_eq_append_getElem h, List.map_append, List.sum_append]
  rfl
set_option maxRecDepth 100000 in
theorem laws_long (w : World) (g n : Nat) (l : List (Value × Bs)) (t : TypeId) (hn : n = l.length) (hl : n ≤ 1000) (hg : w.heap[g]? = some (.cells (l.map (·.1)).toArray t (0, 0))) (hs : ∀ p ∈ l, ∃ a c, p.1 = .slice a p.2.length c) :
    Calls Tryd.prog 16 #[.slice (some ⟨g, 0, none⟩) n n] w fun e w' => ∃ b, e = .returned (.bool b) ∧ (b = false → lenSum l ≤ 16384) ∧ Chg [] w w' := by
  go_enter Tryd.func16, Tryd.ntmps16
  go_wp2
  go_loopw [3, 8] (fun x i wr => ∃ k : Nat, k ≤ n ∧ i = .int .i64 k ∧ x = .int .i64 (lenSum (l.take k) : Nat) ∧ lenSum (l.take k) ≤ 16384 ∧ wr = w) (fun _ i _ => n - (intOf i).toNat)
  case atStart => exact ⟨0, by omega, rfl, rfl, by simp [lenSum], rfl⟩
  case round =>
    obtain ⟨k, hk, rfl, rfl, hsum, hw⟩ := hrel
    subst hw
    by_cases hlt : k < n
    · obtain ⟨a, c, he⟩ := hs l[k] (List.getElem_mem _)
      have ck : wr.cell? ⟨g, k, none⟩ = some (.slice a l[k].2.length c) := by
        rw [blk_cell hg, ← he]; simp [List.getElem?_eq_getElem (show k < l.length by omega)]
      have hdd : decide ((k : Int) < (n : Int)) = true := by simpa using hlt
      have hst := lenSum_take l k (by omega)
      obtain ⟨m, hm⟩ : ∃ m, m = l[k].2.length := ⟨_, rfl⟩
      rw [← hm] at ck hst
      by_cases hbig : (16384 : Int) - (lenSum (l.take k) : Nat) < (m : Int)
      · go_wp2
        go_ret
        exact ⟨true, rfl, by simp, Chg.refl [] _⟩
      · go_wp2
        go_roundw
        case rel => exact ⟨k + 1, by omega, by go_num, by rw [hst]; go_num, by omega, by first | rfl | trivial⟩
        case measure => simp [intOf]; omega
    · obtain rfl : k = n := by omega
      go_wp2
      go_ret
      exact ⟨false, rfl, fun _ => by rw [hn, List.take_length] at hsum; exact hsum, Chg.refl [] _⟩
theorem laws_long1 {W : World} {g : Nat} {t : TypeId} {a1 : Option Addr} {c1 : Nat} (x1 : Bs) (h : W.heap[g]? = some (.cells #[.slice a1 x1.length c1] t (0, 0))) :
    Calls Tryd.prog 16 #[.slice (some ⟨g, 0, none⟩) 1 1] W fun e w' => ∃ b, e = .returned (.bool b) ∧ (b = false → x1.length ≤ 16384) ∧ Chg [] W w' := by
  refine (laws_long W g 1 [(.slice a1 x1.length c1, x1)] t rfl (by omega) h ?_).mono ?_
  · intro p hp
    simp only [List.mem_cons, List.not_mem_nil, or_false] at hp
    rcases hp with rfl <;> exact ⟨_, _, rfl⟩
  · rintro e w' ⟨b, he, hb, hc⟩
    refine ⟨b, he, fun h => ?_, hc⟩
    have := hb h
    simp [lenSum] at this
    omega
theorem laws_long2 {W : World} {g : Nat} {t : TypeId} {a1 : Option Addr} {c1 : Nat} {a2 : Option Addr} {c2 : Nat} (x1 x2 : Bs) (h : W.heap[g]? = some (.cells #[.slice a1 x1.length c1, .slice a2 x2.length c2] t (0, 0))) :
    Calls Tryd.prog 16 #[.slice (some ⟨g, 0, none⟩) 2 2] W fun e w' => ∃ b, e = .returned (.bool b) ∧ (b = false → x1.length + x2.length ≤ 16384) ∧ Chg [] W w' := by
  refine (laws_long W g 2 [(.slice a1 x1.length c1, x1), (.slice a2 x2.length c2, x2)] t rfl (by omega) h ?_).mono ?_
  · intro p hp
    simp only [List.mem_cons, List.not_mem_nil, or_false] at hp
    rcases hp with rfl | rfl <;> exact ⟨_, _, rfl⟩
  · rintro e w' ⟨b, he, hb, hc⟩
    refine ⟨b, he, fun h => ?_, hc⟩
    have := hb h
    simp [lenSum] at this
    omega
theorem laws_long3 {W : World} {g : Nat} {t : TypeId} {a1 : Option Addr} {c1 : Nat} {a2 : Option Addr} {c2 : Nat} {a3 : Option Addr} {c3 : Nat} (x1 x2 x3 : Bs) (h : W.heap[g]? = some (.cells #[.slice a1 x1.length c1, .slice a2 x2.length c2, .slice a3 x3.length c3] t (0, 0))) :
    Calls Tryd.prog 16 #[.slice (some ⟨g, 0, none⟩) 3 3] W fun e w' => ∃ b, e = .returned (.bool b) ∧ (b = false → x1.length + x2.length + x3.length ≤ 16384) ∧ Chg [] W w' := by
  refine (laws_long W g 3 [(.slice a1 x1.length c1, x1), (.slice a2 x2.length c2, x2), (.slice a3 x3.length c3, x3)] t rfl (by omega) h ?_).mono ?_
  · intro p hp
    simp only [List.mem_cons, List.not_mem_nil, or_false] at hp
    rcases hp with rfl | rfl | rfl <;> exact ⟨_, _, rfl⟩
  · rintro e w' ⟨b, he, hb, hc⟩
    refine ⟨b, he, fun h => ?_, hc⟩
    have := hb h
    simp [lenSum] at this
    omega
theorem laws_long4 {W : World} {g : Nat} {t : TypeId} {a1 : Option Addr} {c1 : Nat} {a2 : Option Addr} {c2 : Nat} {a3 : Option Addr} {c3 : Nat} {a4 : Option Addr} {c4 : Nat} (x1 x2 x3 x4 : Bs) (h : W.heap[g]? = some (.cells #[.slice a1 x1.length c1, .slice a2 x2.length c2, .slice a3 x3.length c3, .slice a4 x4.length c4] t (0, 0))) :
    Calls Tryd.prog 16 #[.slice (some ⟨g, 0, none⟩) 4 4] W fun e w' => ∃ b, e = .returned (.bool b) ∧ (b = false → x1.length + x2.length + x3.length + x4.length ≤ 16384) ∧ Chg [] W w' := by
  refine (laws_long W g 4 [(.slice a1 x1.length c1, x1), (.slice a2 x2.length c2, x2), (.slice a3 x3.length c3, x3), (.slice a4 x4.length c4, x4)] t rfl (by omega) h ?_).mono ?_
  · intro p hp
    simp only [List.mem_cons, List.not_mem_nil, or_false] at hp
    rcases hp with rfl | rfl | rfl | rfl <;> exact ⟨_, _, rfl⟩
  · rintro e w' ⟨b, he, hb, hc⟩
    refine ⟨b, he, fun h => ?_, hc⟩
    have := hb h
    simp [lenSum] at this
    omega
end Go.Proofs.YtknoomndofnnmaaDoor

namespace Go.Proofs.YtknoomndofnnmaaDoor
open Go Go.RowKit

theorem long_n2 {W : World} {g : Nat} {t : TypeId} {a1 a2 : Option Addr} {c1 c2 : Nat} (n1 n2 : Nat) (h : W.heap[g]? = some (.cells #[.slice a1 n1 c1, .slice a2 n2 c2] t (0, 0))) :
    Calls Tryd.prog 16 #[.slice (some ⟨g, 0, none⟩) 2 2] W fun e w' => ∃ b, e = .returned (.bool b) ∧ (b = false → n1 + n2 ≤ 16384) ∧ Chg [] W w' := by
  have e1 : (List.replicate n1 (0 : UInt8)).length = n1 := by simp
  have e2 : (List.replicate n2 (0 : UInt8)).length = n2 := by simp
  have := laws_long2 (W := W) (g := g) (t := t) (a1 := a1) (c1 := c1) (a2 := a2) (c2 := c2) (List.replicate n1 0) (List.replicate n2 0) (by rw [e1, e2]; exact h)
  rw [e1, e2] at this
  exact this
theorem long_n3 {W : World} {g : Nat} {t : TypeId} {a1 a2 a3 : Option Addr} {c1 c2 c3 : Nat} (n1 n2 n3 : Nat) (h : W.heap[g]? = some (.cells #[.slice a1 n1 c1, .slice a2 n2 c2, .slice a3 n3 c3] t (0, 0))) :
    Calls Tryd.prog 16 #[.slice (some ⟨g, 0, none⟩) 3 3] W fun e w' => ∃ b, e = .returned (.bool b) ∧ (b = false → n1 + n2 + n3 ≤ 16384) ∧ Chg [] W w' := by
  have e1 : (List.replicate n1 (0 : UInt8)).length = n1 := by simp
  have e2 : (List.replicate n2 (0 : UInt8)).length = n2 := by simp
  have e3 : (List.replicate n3 (0 : UInt8)).length = n3 := by simp
  have := laws_long3 (W := W) (g := g) (t := t) (a1 := a1) (c1 := c1) (a2 := a2) (c2 := c2) (a3 := a3) (c3 := c3) (List.replicate n1 0) (List.replicate n2 0) (List.replicate n3 0) (by rw [e1, e2, e3]; exact h)
  rw [e1, e2, e3] at this
  exact this
theorem plan_uniG {P : Program} {ops : Array Oper} {Q : Exit → Act → World → Prop} {S : World → Prop} {o : Oper} {r : List (Oper × Bool)} {a : Act} {w : World} (hu : uniOp2 P o.op = true) (hw : Region.wanted o (yielded ops a.tmps) = true) (h : wpList P ops (HeldU P ops S Q r) [o] a w) : wpPlan P ops S Q ((o, true) :: r) a w := by
  unfold wpList at h
  rw [if_pos hw] at h
  unfold wpPlan
  rcases h with h | ⟨_, _, _, h⟩
  · unfold Oper.wp at h
    have huu := uniOp2.uni hu a.eval
    generalize hr : (execOp a.eval o).run P w = x at h
    cases x with
    | ok x w' =>
      obtain ⟨v, rfl⟩ := plain_value (uniOp2.plain hu) hr
      have hx := huu _ _ _ hr
      have e := hx w
      rw [hr] at e
      cases e
      exact ⟨v, .inl ⟨hw, fun w' _ => hx w'⟩, h⟩
    | halt x w' => cases x <;> exact h.elim
  · exact h.elim
theorem plan_moveV {P : Program} {ops : Array Oper} {Q : Exit → Act → World → Prop} {S : World → Prop} {o : Oper} {r : List (Oper × Bool)} {a : Act} {w : World} (v : Value) (x : Operand) (ho : o.op = .move x) (hw : Region.wanted o (yielded ops a.tmps) = true) (hx : a.eval x = v) (h : wpPlan P ops S Q r (a.put o.dst v) w) : wpPlan P ops S Q ((o, true) :: r) a w :=
  plan_move x ho hw (hx ▸ h)
set_option maxRecDepth 100000 in
theorem plan_slice_s {ops : Array Oper} {Q : Exit → Act → World → Prop} {S : World → Prop} {o : Oper} {r : List (Oper × Bool)} {a : Act} {w : World} (v : Value) (x : Operand) (lo hi mx : Option Operand) (ho : o.op = .slice 9 x lo hi mx) (hw : Region.wanted o (yielded ops a.tmps) = true)
    {X : Value} {LO HI MX : Option Value} (hs : ∀ W, (Instr.slice 9 X LO HI MX).run Tryd.prog W = .ok v W) (hx : a.eval x = X) (h1 : lo.map a.eval = LO) (h2 : hi.map a.eval = HI) (h3 : mx.map a.eval = MX) (h : wpPlan Tryd.prog ops S Q r (a.put o.dst v) w) : wpPlan Tryd.prog ops S Q ((o, true) :: r) a w :=
  plan_val v hw (fun W _ => by
    unfold execOp
    rw [ho]
    simp only [Sem.run_bind, hx, h1, h2, h3, run_sliceAt_string (P := Tryd.prog) W 9 _ _ _ _ Tryd.underlying9, hs W, Result.andThen_ok, Sem.run_pure]) h
set_option maxRecDepth 100000 in
theorem plan_slice_b {ops : Array Oper} {Q : Exit → Act → World → Prop} {S : World → Prop} {o : Oper} {r : List (Oper × Bool)} {a : Act} {w : World} (v : Value) (x : Operand) (lo hi mx : Option Operand) (ho : o.op = .slice 24 x lo hi mx) (hw : Region.wanted o (yielded ops a.tmps) = true)
    {X : Value} {LO HI MX : Option Value} (hs : ∀ W, (Instr.slice 24 X LO HI MX).run Tryd.prog W = .ok v W) (hx : a.eval x = X) (h1 : lo.map a.eval = LO) (h2 : hi.map a.eval = HI) (h3 : mx.map a.eval = MX) (h : wpPlan Tryd.prog ops S Q r (a.put o.dst v) w) : wpPlan Tryd.prog ops S Q ((o, true) :: r) a w :=
  plan_val v hw (fun W _ => by
    unfold execOp
    rw [ho]
    simp only [Sem.run_bind, hx, h1, h2, h3, run_sliceAt_slice (P := Tryd.prog) W 24 _ _ _ _ Tryd.underlying24, hs W, Result.andThen_ok, Sem.run_pure]) h
/-- The two halves of a string. -/
theorem sb_cut (s : ByteArray) (k : Nat) (_h : k ≤ s.size) : sb (s.extract 0 k) ++ sb (s.extract k s.size) = sb s := by
  unfold sb
  rw [ByteArray.data_extract, ByteArray.data_extract, Array.toList_extract, Array.toList_extract]
  have e : s.data.toList.length = s.size := by rw [Array.length_toList]; rfl
  have e1 : s.data.toList.extract 0 k = s.data.toList.take k := by simp [List.extract]
  have e2 : s.data.toList.extract k s.size = s.data.toList.drop k := by
    unfold List.extract
    exact List.take_of_length_le (by rw [List.length_drop, e]; omega)
  rw [e1, e2, List.take_append_drop]
theorem str_head (s : ByteArray) (k : Nat) (h : k ≤ s.size) (W : World) : (Instr.slice 9 (.string s) none (some (.int .i64 (k : Int))) none).run Tryd.prog W = .ok (.string (s.extract 0 k)) W := by
  rw [run_slice_string_h (P := Tryd.prog) W 9 s Tryd.underlying9 .i64 (k : Int) (by omega) (by omega)]
  simp
theorem str_tail (s : ByteArray) (k : Nat) (h : k ≤ s.size) (W : World) : (Instr.slice 9 (.string s) (some (.int .i64 (k : Int))) none none).run Tryd.prog W = .ok (.string (s.extract k s.size)) W := by
  rw [run_slice_string_l (P := Tryd.prog) W 9 s Tryd.underlying9 .i64 (k : Int) (by omega) (by omega)]
  simp
end Go.Proofs.YtknoomndofnnmaaDoor
