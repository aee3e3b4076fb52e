/- What makes hashes; words for hmac.New. -/
import Derived.Test.YtknoomndofnnmaaDoorYMacB
import Derived.Test.YtknoomndofnnmaaDoorYStill
import Derived.Defers
import Derived.Recover
import Derived.LaidEql
namespace Go.Proofs.YtknoomndofnnmaaDoor
open Go Go.RowKit

def mkP (p : Nat) : Value := .pointer (some ⟨p, 0, none⟩)
def mkI (κ : Kd) (p : Nat) : Value := .iface (kTy κ) (.pointer (some ⟨p, 0, none⟩))
/-- A new hash. -/
def FreshR (K : List UInt32) (κ : Kd) (mk : Nat → Value) (W : World) (x : Value) (w' : World) : Prop :=
  ∃ p s, x = mk p ∧ W.heap.size ≤ p ∧ W.heap.size ≤ s ∧ HAt K κ w' p s [] ∧ Chg [] W w'
/-- A function value that makes hashes while the blocks B are as they were. -/
def Maker (K : List UInt32) (κ : Kd) (B : List Nat) (w0 : World) (F : Value) (mk : Nat → Value) : Prop :=
  κ.ok ∧ KAt K w0 ∧ 0 ∈ B ∧ (∀ b ∈ B, b < w0.heap.size) ∧ ∃ f fst cap, F = .func (.func f) fst cap ∧ (∀ vs W, (callFunc f vs).run Tryd.prog W = .ok (.enter f vs) W) ∧
    ∀ W, (∀ b ∈ B, W.heap[b]? = w0.heap[b]?) → Calls Tryd.prog f (fst ++ cap) W fun e w' => ∃ x, e = .returned x ∧ FreshR K κ mk W x w'
theorem Maker.chg {K : List UInt32} {κ : Kd} {B S : List Nat} {w0 w1 : World} {F : Value} {mk : Nat → Value} (h : Maker K κ B w0 F mk) (hc : Chg S w0 w1) (hS : Apart B S) : Maker K κ B w1 F mk := by
  obtain ⟨h1, h2, h3, h4, f, fst, cap, h5, h6, h7⟩ := h
  refine ⟨h1, h2.chg hc (hS 0 h3), h3, fun b hb => Nat.lt_of_lt_of_le (h4 b hb) hc.size, f, fst, cap, h5, h6, fun W hW => h7 W fun b hb => ?_⟩
  rw [hW b hb]
  exact hc.block b (h4 b hb) (hS b hb)
theorem Maker.old {K : List UInt32} {κ : Kd} {B S : List Nat} {w0 w1 : World} {F : Value} {mk : Nat → Value} (h : Maker K κ B w0 F mk) (hc : Chg S w0 w1) (hS : ∀ b ∈ S, w0.heap.size ≤ b) : Maker K κ B w1 F mk :=
  h.chg hc fun b hb hm => by have := h.2.2.2.1 b hb; have := hS b hm; omega

/-- The block is a row. -/
def IsRow (w : World) (b : Nat) : Prop := ∃ c t, w.heap[b]? = some (.cells c t (0, 0))
theorem HRaw.isRow {κ : Kd} {w : World} {p s : Nat} (h : HRaw κ w p s) : IsRow w p := by
  obtain ⟨_, _, h⟩ := h
  cases κ with
  | none => obtain ⟨_, _, _, _, _, _, _, h⟩ := h; exact ⟨_, _, h⟩
  | some q => obtain ⟨n, st, h⟩ := h; exact ⟨_, _, h.2.2.2.2.1⟩
theorem info_some {t : TypeId} {α : Type} {g : TypeInfo → α} {v : α} (h : (Tryd.prog.info? t).map g = some v) : ∃ i, Tryd.prog.info? t = some i ∧ g i = v := by
  cases hq : Tryd.prog.info? t with
  | none => simp [hq] at h
  | some i => exact ⟨i, rfl, by simpa [hq] using h⟩
theorem ne_size (i : TypeInfo) {n : Nat} (h : i.size = n) (hn : n ≠ 0) : i.size ≠ 0 := by rw [h]; exact hn
theorem eql_other (κ : Kd) {w : World} {p q : Nat} (hne : q ≠ p) (hp : IsRow w p) (hq : IsRow w q) :
    (binOp .eql 89 (.iface (kTy κ) (.pointer (some ⟨q, 0, none⟩))) (.iface (kTy κ) (.pointer (some ⟨p, 0, none⟩)))).run Tryd.prog w = .ok (.bool false) w := by
  obtain ⟨c1, t1, h1⟩ := hp
  obtain ⟨c2, t2, h2⟩ := hq
  cases κ with
  | none =>
    obtain ⟨i, hi, hc⟩ := info_some (g := (·.comparable)) (t := 43) (v := true) (by kernel_rfl)
    obtain ⟨j, hj, hs⟩ := info_some (g := (·.size)) (t := 79) (v := 75) (by kernel_rfl)
    exact run_eql_iface_ptr_other w Tryd.underlying89 Tryd.underlying43 hi hc hj (ne_size j hs (by omega)) (by intro he; cases he; exact hne rfl) h2 h1
  | some x =>
    obtain ⟨i, hi, hc⟩ := info_some (g := (·.comparable)) (t := 50) (v := true) (by kernel_rfl)
    obtain ⟨j, hj, hs⟩ := info_some (g := (·.size)) (t := 84) (v := 4) (by kernel_rfl)
    exact run_eql_iface_ptr_other w Tryd.underlying89 Tryd.underlying50 hi hc hj (ne_size j hs (by omega)) (by intro he; cases he; exact hne rfl) h2 h1
/-- What New says. -/
def NewSaid (K : List UInt32) (κ : Kd) (w : World) (key : Bs) (e : Ending) (w' : World) : Prop :=
  ∃ h p s q t bo bi, e = .returned (.pointer (some ⟨h, 0, none⟩)) ∧ MacAt K κ w' h p s q t bo bi key [] false ∧ Chg [] w w' ∧ ∀ x ∈ [h, p, s, q, t, bo, bi], w.heap.size ≤ x
theorem gen_plan {P : Program} {ops : Array Oper} {S : World → Prop} {Q : Exit → Act → World → Prop} {r : List (Oper × Bool)} {a : Act} {W : World} (C : World → Prop) (h0 : C W) (h : ∀ w', C w' → wpPlan P ops S Q r a w') : wpPlan P ops S Q r a W := h W h0
/-- What New knows of the memory, with its pads. -/
structure NewMem (K : List UInt32) (κ : Kd) (w w' : World) (h V p s q t : Nat) (ov iv : Value) (kl : Int) : Prop where
  rh : w'.heap[h]? = some (.cells #[ov, iv, .iface (kTy κ) (.pointer (some ⟨q, 0, none⟩)), .iface (kTy κ) (.pointer (some ⟨p, 0, none⟩)), .bool false, .bool false, .int .i64 kl] 121 (0, 0))
  rV : w'.heap[V]? = some (.cells #[.pointer (some ⟨h, 0, none⟩)] 115 (0, 0))
  chg : Chg [] w w'
  out : HAt K κ w' q t []
  inn : HAt K κ w' p s []
theorem NewMem.step {K : List UInt32} {κ : Kd} {w w' w2 : World} {h V p s q t : Nat} {ov iv : Value} {kl : Int} (m : NewMem K κ w w' h V p s q t ov iv kl) {S : List Nat} (hc : Chg S w' w2) (hS : Apart [h, V, p, s, q, t] S) (hn : ∀ b ∈ S, w.heap.size ≤ b) : NewMem K κ w w2 h V p s q t ov iv kl :=
  ⟨hc.row m.rh (hS h (by simp)), hc.row m.rV (hS V (by simp)), m.chg.and hc fun b hb => .inr (hn b hb), m.out.chg hc (hS q (by simp)) (hS t (by simp)), m.inn.chg hc (hS p (by simp)) (hS s (by simp))⟩
theorem NewMem.lt {K : List UInt32} {κ : Kd} {w w' : World} {h V p s q t : Nat} {ov iv : Value} {kl : Int} (m : NewMem K κ w w' h V p s q t ov iv kl) : ∀ x ∈ [h, V, p, s, q, t], x < w'.heap.size := by
  have h1 := blk_lt m.rh
  have h2 := blk_lt m.rV
  have h3 := m.out.raw.lt
  have h4 := m.inn.raw.lt
  intro x hx
  simp at hx
  omega
theorem NewMem.pads {K : List UInt32} {κ : Kd} {w w' : World} {h V p s q t : Nat} {ov iv ov' iv' : Value} {kl : Int} {i : Nat} {u : Value} (m : NewMem K κ w w' h V p s q t ov iv kl) (hh : Apart [V, p, s, q, t] [h]) (hw : w.heap.size ≤ h) (hi : (#[ov, iv, .iface (kTy κ) (.pointer (some ⟨q, 0, none⟩)), .iface (kTy κ) (.pointer (some ⟨p, 0, none⟩)), .bool false, .bool false, .int .i64 kl] : Array Value).setIfInBounds i u = #[ov', iv', .iface (kTy κ) (.pointer (some ⟨q, 0, none⟩)), .iface (kTy κ) (.pointer (some ⟨p, 0, none⟩)), .bool false, .bool false, .int .i64 kl]) : NewMem K κ w (w'.setCell ⟨h, i, none⟩ u) h V p s q t ov' iv' kl := by
  have hc : Chg [h] w' (w'.setCell ⟨h, i, none⟩ u) := (Chg.refl _ _).setCell (.inl (by simp)) _
  refine ⟨?_, hc.row m.rV (hh V (by simp)), m.chg.and hc (by simp; omega), m.out.chg hc (hh q (by simp)) (hh t (by simp)), m.inn.chg hc (hh p (by simp)) (hh s (by simp))⟩
  rw [← hi]
  exact blk_set m.rh u
/-- A row of noughts. -/
def zN (n : Nat) : Bs := List.replicate n 0
theorem zN_length (n : Nat) : (zN n).length = n := by simp [zN]
/-- What New knows of the memory behind the key's look. -/
structure PadMem (K : List UInt32) (κ : Kd) (w w' : World) (h V p s q t gi go bk : Nat) (kl : Int) (xi xo : Bs) : Prop where
  rh : w'.heap[h]? = some (.cells #[.slice (some ⟨go, 0, none⟩) bk bk, .slice (some ⟨gi, 0, none⟩) bk bk, .iface (kTy κ) (.pointer (some ⟨q, 0, none⟩)), .iface (kTy κ) (.pointer (some ⟨p, 0, none⟩)), .bool false, .bool false, .int .i64 kl] 121 (0, 0))
  rV : w'.heap[V]? = some (.cells #[.pointer (some ⟨h, 0, none⟩)] 115 (0, 0))
  chg : Chg [] w w'
  out : HRaw κ w' q t
  inn : HAt K κ w' p s []
  ri : w'.heap[gi]? = some (.cells (brow xi).toArray 5 (0, 0))
  ro : w'.heap[go]? = some (.cells (brow xo).toArray 5 (0, 0))
theorem PadMem.drew {K : List UInt32} {κ : Kd} {w w' : World} {h V p s q t gi go bk : Nat} {kl : Int} {xi xo : Bs} (m : PadMem K κ w w' h V p s q t gi go bk kl xi xo) : PadMem K κ w w'.drew h V p s q t gi go bk kl xi xo :=
  ⟨m.rh, m.rV, m.chg.drew, m.out.chg (Chg.refl [] w').drew (by simp) (by simp), m.inn.chg (Chg.refl [] w').drew (by simp) (by simp), m.ri, m.ro⟩
theorem PadMem.stepI {K : List UInt32} {κ : Kd} {w w' w2 : World} {h V p s q t gi go bk : Nat} {kl : Int} {xi xo yi : Bs} (m : PadMem K κ w w' h V p s q t gi go bk kl xi xo) (hc : Chg [gi] w' w2) (hr : w2.heap[gi]? = some (.cells (brow yi).toArray 5 (0, 0))) (hn : ∀ x ∈ [h, V, p, s, q, t], x ≠ gi) (hg : gi ≠ go) (hw : w.heap.size ≤ gi) : PadMem K κ w w2 h V p s q t gi go bk kl yi xo :=
  have a : ∀ x ∈ [h, V, p, s, q, t], x ∉ [gi] := fun x hx => by simpa using hn x hx
  ⟨hc.row m.rh (a h (by simp)), hc.row m.rV (a V (by simp)), m.chg.and hc (by simp; omega), m.out.chg hc (a q (by simp)) (a t (by simp)), m.inn.chg hc (a p (by simp)) (a s (by simp)), hr, hc.row m.ro (by simp; omega)⟩
theorem PadMem.stepO {K : List UInt32} {κ : Kd} {w w' w2 : World} {h V p s q t gi go bk : Nat} {kl : Int} {xi xo yo : Bs} (m : PadMem K κ w w' h V p s q t gi go bk kl xi xo) (hc : Chg [go] w' w2) (hr : w2.heap[go]? = some (.cells (brow yo).toArray 5 (0, 0))) (hn : ∀ x ∈ [h, V, p, s, q, t], x ≠ go) (hg : gi ≠ go) (hw : w.heap.size ≤ go) : PadMem K κ w w2 h V p s q t gi go bk kl xi yo :=
  have a : ∀ x ∈ [h, V, p, s, q, t], x ∉ [go] := fun x hx => by simpa using hn x hx
  ⟨hc.row m.rh (a h (by simp)), hc.row m.rV (a V (by simp)), m.chg.and hc (by simp; omega), m.out.chg hc (a q (by simp)) (a t (by simp)), m.inn.chg hc (a p (by simp)) (a s (by simp)), hc.row m.ri (by simp; omega), hr⟩
theorem row_pad {w : World} {g n : Nat} {xs : Bs} {t : TypeId} (h : w.heap[g]? = some (.cells (brow xs).toArray t (0, 0))) (hl : xs.length = n) (hn : n ≤ 1000000) : Pad g w (.slice (some ⟨g, 0, none⟩) n n) xs := by
  subst hl
  exact ⟨0, _, rfl, Nat.le_refl _, by unfold maxLen; omega, fun j hj => by rw [Nat.zero_add]; exact (blk_cell h j).trans (bv_cell xs j hj)⟩
/-- The first k bytes turned. -/
def xorN (x : UInt8) (xs : Bs) (k : Nat) : Bs := (xs.take k).map (· ^^^ x) ++ xs.drop k
theorem xorN_length (x : UInt8) (xs : Bs) (k : Nat) : (xorN x xs k).length = xs.length := by simp [xorN]; omega
theorem xorN_gt (x : UInt8) (xs : Bs) (k : Nat) (hk : k < xs.length) : gt (xorN x xs k) k = gt xs k := by
  unfold xorN gt
  rw [List.getD_eq_getElem?_getD, List.getD_eq_getElem?_getD, List.getElem?_append_right (by simp; omega)]
  simp [Nat.min_eq_left (Nat.le_of_lt hk)]
theorem xorN_step (x : UInt8) (xs : Bs) (k : Nat) (hk : k < xs.length) : (xorN x xs k).set k (gt xs k ^^^ x) = xorN x xs (k + 1) := by
  unfold xorN
  rw [List.set_append_right _ _ (by simp; omega), List.drop_eq_getElem_cons hk, gt_eq xs k hk]
  have e : (xs.take (k + 1)).map (· ^^^ x) = (xs.take k).map (· ^^^ x) ++ [xs[k] ^^^ x] := by rw [List.take_succ_eq_append_getElem hk, List.map_append]; rfl
  rw [e]
  simp [Nat.min_eq_left (Nat.le_of_lt hk), -List.getElem_cons_drop, -List.map_take]
theorem xorN_all (x : UInt8) (xs : Bs) : xorN x xs xs.length = xs.map (· ^^^ x) := by simp [xorN]
theorem xor36 (x : UInt8) : bits .xor .u8 (x.toNat : Int) 54 = ((x ^^^ 0x36).toNat : Int) := u8_xor' x 0x36
theorem xor5c (x : UInt8) : bits .xor .u8 (x.toNat : Int) 92 = ((x ^^^ 0x5c).toNat : Int) := u8_xor' x 0x5c
theorem pad_row (bk : Nat) (k0 : Bs) (hk : k0.length ≤ bk) : (brow (zN bk)).take 0 ++ brow (k0.take (min k0.length bk)) ++ (brow (zN bk)).drop (0 + min k0.length bk) = brow (padTo bk k0) := by
  rw [Nat.min_eq_left hk, List.take_length, List.take_zero, List.nil_append, Nat.zero_add]
  unfold padTo zN brow
  rw [List.map_append]
  simp
theorem padTo_length (n : Nat) (k : Bs) (h : k.length ≤ n) : (padTo n k).length = n := by simp [padTo]; omega
end Go.Proofs.YtknoomndofnnmaaDoor
