/- Words on memory that all walks of this seat use: bytes as cells, what a step may change. No condition. -/
import Derived.Test.YtknoomndofnnmaaDoorProg
import Derived.Test.YtknoomndofnnmaaDoorYPlain
import Derived.WalkKit
import Derived.Lib.Hide
import Derived.Deep.LoopGhost
import Derived.Deep.RegionHeld3
import Derived.Deep.QuietTactic
import Derived.BigQuiet
import Derived.StillTailTactics
namespace Go.Proofs.YtknoomndofnnmaaDoor
open Go Go.RowKit

/-- A byte as a value. -/
def bv (x : UInt8) : Value := .int .u8 (x.toNat : Int)
/-- Bytes as cells. -/
def brow (xs : Bs) : List Value := xs.map bv

theorem brow_length (xs : Bs) : (brow xs).length = xs.length := by simp [brow]
theorem brow_get (xs : Bs) (i : Nat) (h : i < xs.length) : (brow xs)[i]? = some (.int .u8 ((gt xs i).toNat : Int)) := by
  simp [brow, bv, h, gt]
theorem brow_set (xs : Bs) (i : Nat) (x : UInt8) : (brow xs).set i (.int .u8 (x.toNat : Int)) = brow (xs.set i x) := by
  simp [brow, bv, List.map_set]

/-- From w to w' nothing that was there has changed but for the blocks in S. -/
structure Chg (S : List Nat) (w w' : World) : Prop where
  os : w'.os = w.os
  tape : w'.tape = w.tape
  output : w'.output = w.output
  size : w.heap.size ≤ w'.heap.size
  block : ∀ k, k < w.heap.size → k ∉ S → w'.heap[k]? = w.heap[k]?

theorem Chg.refl (S : List Nat) (w : World) : Chg S w w := ⟨rfl, rfl, rfl, Nat.le_refl _, fun _ _ _ => rfl⟩
theorem Chg.trans {S : List Nat} {a b c : World} (h : Chg S a b) (k : Chg S b c) : Chg S a c :=
  ⟨k.os.trans h.os, k.tape.trans h.tape, k.output.trans h.output, Nat.le_trans h.size k.size, fun i hi hS => (k.block i (Nat.lt_of_lt_of_le hi h.size) hS).trans (h.block i hi hS)⟩
theorem Chg.and {S S' : List Nat} {a b c : World} (h : Chg S a b) (k : Chg S' b c) (hs : ∀ i ∈ S', i ∈ S ∨ a.heap.size ≤ i) : Chg S a c :=
  ⟨k.os.trans h.os, k.tape.trans h.tape, k.output.trans h.output, Nat.le_trans h.size k.size, fun i hi hS =>
    (k.block i (Nat.lt_of_lt_of_le hi h.size) fun hm => by rcases hs i hm with h1 | h1; exact hS h1; omega).trans (h.block i hi hS)⟩
theorem Chg.mono {S S' : List Nat} {w w' : World} (h : Chg S w w') (hs : ∀ k ∈ S, k < w.heap.size → k ∈ S') : Chg S' w w' :=
  ⟨h.os, h.tape, h.output, h.size, fun k hk hS => h.block k hk fun hm => hS (hs k hm hk)⟩
theorem Chg.drew {S : List Nat} {a w : World} (h : Chg S a w) : Chg S a w.drew := ⟨h.os, h.tape, h.output, h.size, h.block⟩
theorem Chg.drewN {S : List Nat} {a w : World} (n : Nat) (h : Chg S a w) : Chg S a (w.drewN n) := ⟨h.os, h.tape, h.output, h.size, h.block⟩
theorem Chg.alloc {S : List Nat} {a w : World} (h : Chg S a w) (o : Obj) : Chg S a (w.alloc o) :=
  h.trans ⟨rfl, rfl, rfl, by simp, fun k hk _ => Below.heap_alloc _ _ _ hk⟩
theorem Chg.setCell {S : List Nat} {a w : World} (h : Chg S a w) {p : Addr} (hp : p.block ∈ S ∨ a.heap.size ≤ p.block) (u : Value) : Chg S a (w.setCell p u) :=
  ⟨h.os, h.tape, h.output, by simpa [World.setCell] using h.size, fun k hk hS => by
    rw [Below.heap_setCell _ _ _ _ (by rintro rfl; rcases hp with hp | hp; exact hS hp; omega)]; exact h.block k hk hS⟩
theorem Chg.of_below {S : List Nat} {w w' : World} (h : Below w.heap.size w w') : Chg S w w' := ⟨h.os, h.tape, h.output, h.size, fun k hk _ => h.block k hk⟩
theorem Chg.below {w w' : World} (h : Chg [] w w') : Below w.heap.size w w' := ⟨h.os, h.tape, h.output, h.size, fun k hk => h.block k hk (by simp)⟩
theorem Chg.row {S : List Nat} {w w' : World} (h : Chg S w w') {b : Nat} {o : Obj} (hb : w.heap[b]? = some o) (hn : b ∉ S) : w'.heap[b]? = some o :=
  (h.block b (Array.getElem?_eq_some_iff.1 hb).1 hn).trans hb
theorem Chg.cell {S : List Nat} {w w' : World} (h : Chg S w w') {a : Addr} {v : Value} (hb : w.cell? a = some v) (hn : a.block ∉ S) : w'.cell? a = some v :=
  (World.cell?_of_block (h.block a.block (World.block_lt_of_cell? w a hb) hn)).trans hb


/-- What a block that is known whole gives to a walk. -/
theorem blk_cell {w : World} {b : Nat} {cs : Array Value} {t : TypeId} {fr : Nat × Nat} (h : w.heap[b]? = some (.cells cs t fr)) (j : Nat) : w.cell? ⟨b, j, none⟩ = cs[j]? := cell_of_row w b j cs t fr h
theorem blk_frozen {w : World} {b : Nat} {cs : Array Value} {t : TypeId} (h : w.heap[b]? = some (.cells cs t (0, 0))) (j : Nat) : w.frozen? ⟨b, j, none⟩ = false := frozen_of_row w b j cs t h
theorem blk_lt {w : World} {b : Nat} {o : Obj} (h : w.heap[b]? = some o) : b < w.heap.size := (Array.getElem?_eq_some_iff.1 h).1
theorem blk_set {w : World} {b i : Nat} {cs : Array Value} {t : TypeId} (h : w.heap[b]? = some (.cells cs t (0, 0))) (v : Value) :
    (w.setCell ⟨b, i, none⟩ v).heap[b]? = some (.cells (cs.setIfInBounds i v) t (0, 0)) := heap_setCell_same w b i cs t v h
theorem blk_setOther {w : World} {b i c : Nat} {o : Obj} (h : w.heap[c]? = some o) (hne : c ≠ b) (v : Value) : (w.setCell ⟨b, i, none⟩ v).heap[c]? = some o :=
  (heap_setCell_other w ⟨b, i, none⟩ c v hne).trans h
theorem blk_drew {w : World} {b : Nat} {o : Obj} (h : w.heap[b]? = some o) : w.drew.heap[b]? = some o := h
theorem blk_alloc {w : World} {b : Nat} {o : Obj} (h : w.heap[b]? = some o) (o' : Obj) : (w.alloc o').heap[b]? = some o := (Below.heap_alloc w o' b (blk_lt h)).trans h


theorem bv_cell (xs : Bs) (j : Nat) (h : j < xs.length) : ((brow xs).toArray)[j]? = some (.int .u8 ((gt xs j).toNat : Int)) := by
  simpa using brow_get xs j h
theorem u8_nat (k : Nat) (h : k < 256) : (Value.int .u8 (k : Int)) = bv (UInt8.ofNat k) := by
  unfold bv; congr 1; simp; omega
theorem blk_bset {w : World} {b i : Nat} {xs : Bs} {t : TypeId} (h : w.heap[b]? = some (.cells (brow xs).toArray t (0, 0))) (x : UInt8) :
    (w.setCell ⟨b, i, none⟩ (.int .u8 (x.toNat : Int))).heap[b]? = some (.cells (brow (xs.set i x)).toArray t (0, 0)) := by
  rw [blk_set h, ← brow_set]; simp


theorem u8_own (x y : UInt8) (n : Nat) : (31 * (x.toNat : Int) + (y.toNat : Int) + (n : Int)) % 256 = ((31 * x + y + UInt8.ofNat n).toNat : Int) := by
  simp only [UInt8.toNat_add, UInt8.toNat_mul, UInt8.toNat_ofNat', show UInt8.toNat 31 = 31 from rfl]
  omega
theorem u8_add (x : UInt8) (n : Nat) : ((x.toNat : Int) + (n : Int)) % 256 = ((x + UInt8.ofNat n).toNat : Int) := by
  simp only [UInt8.toNat_add, UInt8.toNat_ofNat']
  omega

theorem u8_xor' (a b : UInt8) : bits .xor .u8 (a.toNat : Int) (b.toNat : Int) = ((a ^^^ b).toNat : Int) := by
  rw [u8_xor_nat _ _ a.toNat_lt b.toNat_lt, UInt8.toNat_xor]

end Go.Proofs.YtknoomndofnnmaaDoor
