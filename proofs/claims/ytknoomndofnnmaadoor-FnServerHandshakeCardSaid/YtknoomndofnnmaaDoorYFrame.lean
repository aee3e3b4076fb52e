/- A law's frame: what a call's arguments read as in memory, for every input. No condition. The constants' row, as the rows of this seat list it. No condition. -/
import Derived.Test.YtknoomndofnnmaaDoorYKit
import Derived.Test.YtknoomndofnnmaaDoorYShaC
import Derived.Test.YtknoomndofnnmaaDoorRows
import Derived.ProofKit
import Derived.OpenShut
import Derived.ShutString
import Derived.ChangeOld
import Derived.OpenVars
import Derived.Lib.SmallJoins
import Derived.HandedShaped
import Derived.LaidLaws
import Derived.MakeChecks
import Derived.Test.YtknoomndofnnmaaDoorYSpecA
import Derived.LaidMore
namespace Go.Proofs.YtknoomndofnnmaaDoor
open Go Go.ChangeShapes Go.WideShapes Go.ChangeAt Go.RowKit Go.Joins
open Go.ChangeMaps (open_string shut_string)

set_option maxRecDepth 100000
theorem ownKnobNone : ownKnob Tryd.prog.godebug = none := by kernel_rfl
theorem laidOutAll : laidOutB Tryd.prog = true := by kernel_rfl

/-- The builder, the world's shape kept, a condition on the world at hand. -/
theorem handed_shaped_and {H : Type} {enc : TypeId × Value → H} {a : Assume} {C : Checked} {os : Os} {f : FuncId} {fn : Func} {s : ChangeSpec} {conds : List PathCond} {apart fresh handsOn again : Bool} {X : World → Array Value → Prop}
    (hX : ∀ (w w' : World) (args : Array Value), w.heap = w'.heap → X w args → X w' args)
    (own : ownKnob C.prog.godebug = none) (started : os.Started) (noInit : C.prog.inits.idxOf? f = none) (hfn : C.prog.funcs[f]? = some fn)
    (witness : ∃ (w : World) (tape : Tape) (i : Input), w.os = os ∧ (w.forCall tape i).Shaped C.prog ∧ i.vars = [] ∧ Input.okWide C.prog (w.forCall tape i) .any w.heap.size f i ∧
      ((s.pre enc C.prog fn conds apart (w.forCall tape i).memory i.args ∧ X (w.forCall tape i).memory i.args) ∧ sizedMet enc C.prog fn (OpenSpec.ofChange s) apart (w.forCall tape i).memory i.args) ∧ a.holds C.prog (lone (Frame.enter C.prog f i.args .normal) [] (w.forCall tape i)))
    (contract : ∀ (W : World) (base : Nat) (args : Array Value) (ds gs : List (DataW H)) (before : List MemPlace),
      (∀ (j : Nat) t v, fn.params[j]? = some t → args[j]? = some v → Value.okWide C.prog W .any base t v) →
      DataW.Whole enc C.prog fn.params.toList s.vars apart W args.toList ds gs before → W.ShapedOpen C.prog → X W args →
      Calls C.prog f args W fun e W' => ∃ v, e = .returned v ∧ s.post enc C.prog fn apart fresh handsOn again W args v W') :
    ReturnsInHanded a C os f .any (fun w args => (s.pre enc C.prog fn conds apart w args ∧ X w args) ∧ sizedMet enc C.prog fn (OpenSpec.ofChange s) apart w args) (s.post enc C.prog fn apart fresh handsOn again) := by
  refine returnsInHanded_of_calls own started noInit witness ?_
  intro w tape i _ hsh _ hok hpre hholds
  obtain ⟨_, _, _, fn', hfn', _, _, _, _, hval⟩ := hok
  have e : fn' = fn := Option.some.inj (hfn'.symm.trans hfn)
  subst e
  obtain ⟨⟨⟨ds, gs, before, hw, hc⟩, hx⟩, hz⟩ := hpre
  have hw' := DataW.Whole.of_heap (w' := w.forCall tape i) (by rfl) hw
  refine (contract (w.forCall tape i) w.heap.size i.args ds gs before hval hw' hsh (hX _ _ _ (by rfl) hx)).mono fun e W' ⟨v, he, hp⟩ => ?_
  subst he
  exact ChangeSpec.post_blind hp

section
variable {H : Type} {enc : TypeId × Value → H} {W : World} {base : Nat} {v : Value} {d : DataW H} {p : List MemPlace}

theorem open_bs (hv : Value.okWide Tryd.prog W .any base 24 v) (h : DataW.Trod enc Tryd.prog W 0 (fun _ => true) true 24 v d p) : ∃ xs, BS [] W v xs := by
  obtain ⟨a0, len, cap, rfl⟩ := okWide_slice Tryd.underlying24 hv
  obtain ⟨fuel, hf⟩ := h
  rcases open_ints Tryd.underlying24 Tryd.underlying5 (by kernel_rfl) hf with ⟨hcs, _⟩ | ⟨x, l, c, zs, hcs, _, hl, hm, hz, _, hcell, hwz⟩
  · simp [Value.cells] at hcs
    obtain ⟨rfl, rfl, rfl⟩ := hcs
    exact ⟨[], BS.nil _ _⟩
  · simp [Value.cells] at hcs
    obtain ⟨rfl, rfl, rfl⟩ := hcs
    have hzl : zs.length = cap := by simpa using hz
    have hr := range_u8 hwz
    have hxl : ((zs.take len).map fun z => UInt8.ofNat z.toNat).length = len := by simp; omega
    refine ⟨(zs.take len).map fun z => UInt8.ofNat z.toNat, some x, cap, by rw [hxl], by rw [hxl]; omega, hm, (fun h => by cases h), ?_⟩
    rcases Nat.eq_zero_or_pos len with h0 | h0
    · exact .inl (List.eq_nil_of_length_eq_zero (by rw [hxl, h0]))
    · obtain ⟨b, off, spot⟩ := x
      have hc := hcell 0 (by omega)
      have hspot : spot = none := by simpa [Addr.add] using World.cell?_spot hc
      subst hspot
      refine .inr ⟨b, off, rfl, by simp, fun j hj => ?_⟩
      rw [hxl] at hj
      have hcj := hcell j (by omega)
      have e : (⟨b, off, none⟩ : Addr).add j = ⟨b, off + j, none⟩ := by unfold Addr.add; split <;> simp_all
      rw [e] at hcj
      rw [hcj]
      have h1 := hr j
      have h2 : gt ((zs.take len).map fun z => UInt8.ofNat z.toNat) j = UInt8.ofNat (zs[j]?.getD 0).toNat := by
        unfold gt
        rw [List.getD_eq_getElem?_getD, List.getElem?_map, List.getElem?_take, if_pos hj]
        rw [List.getElem?_eq_getElem (by omega)]
        rfl
      rw [h2, List.getD_eq_getElem?_getD]
      have h3 : ((UInt8.ofNat (zs[j]?.getD 0).toNat).toNat : Int) = zs[j]?.getD 0 := by
        rw [UInt8.toNat_ofNat']
        omega
      rw [h3]
theorem cellsHash : Tryd.prog.cellsOf 23 = 3 := by kernel_rfl
theorem open_hash (hv : Value.okWide Tryd.prog W .any base 23 v) (h : DataW.Trod enc Tryd.prog W 0 (fun _ => true) true 23 v d p) : ∃ kd sz bk, v = hV kd sz bk := by
  obtain ⟨c0, c1, c2, y0, y1, y2, m, rfl, rfl, rfl, h0, h1, h2⟩ := open_agg3 Tryd.underlying23 (by kernel_rfl) cellsHash hv h
  obtain ⟨a, e0, _, _⟩ := DataW.trod_int Tryd.underlying3 h0
  obtain ⟨b, e1, _, _⟩ := DataW.trod_int Tryd.underlying3 h1
  obtain ⟨c, e2, _, _⟩ := DataW.trod_int Tryd.underlying3 h2
  simp at e0 e1 e2
  subst e0 e1 e2
  exact ⟨_, _, _, rfl⟩
theorem open_str (hv : Value.okWide Tryd.prog W .any base 9 v) (h : DataW.Trod enc Tryd.prog W 0 (fun _ => true) true 9 v d p) : ∃ s, v = .string s := by
  obtain ⟨s, e, _⟩ := open_string Tryd.underlying9 hv h
  exact ⟨s, e⟩
theorem open_i (hv : Value.okWide Tryd.prog W .any base 3 v) (h : DataW.Trod enc Tryd.prog W 0 (fun _ => true) true 3 v d p) : ∃ n, v = .int .i64 n := by
  obtain ⟨n, e, _⟩ := open_int Tryd.underlying3 hv h
  exact ⟨n, e⟩
/-- An argument reads as it did. -/
theorem stays {t : TypeId} (hr : Tryd.prog.readableRec t = true) (ht : t < Tryd.prog.types.size) {W' : World} (h : DataW.Trod enc Tryd.prog W 0 (fun _ => true) true t v d p) (hb : Below W.heap.size W W') : DataW.Trod enc Tryd.prog W' 0 (fun b => decide (b < W.heap.size)) true t v d p :=
  Below.trod laidOutAll hr ht h hb (by obtain ⟨m, hm⟩ := h; exact DataW.trod_lt m _ _ _ hm)
end
/-- The row of constants, of a world that fits. -/
theorem k_block {W : World} (h : W.ShapedOpen Tryd.prog) : ∃ cs, W.heap[0]? = some (.cells cs 109 (0, 0)) ∧ cs.size = 64 ∧ Row.ok Tryd.prog W .any 0 109 cs := by
  have h0 : ((begin Tryd.prog (fun _ _ => 0) default).world.heap[0]?).bind Obj.row? = some (Array.replicate 64 (.int .u32 0), 109) := by kernel_rfl
  obtain ⟨cs, h1, h2, h3⟩ := h.1 0 _ 109 (of_decide_eq_true (by kernel_rfl)) h0
  exact ⟨cs, h1, h2.trans (by simp), h3 (by kernel_rfl)⟩
end Go.Proofs.YtknoomndofnnmaaDoor

namespace Go.Proofs.YtknoomndofnnmaaDoor
open Go Go.ChangeShapes Go.WideShapes Go.ChangeAt Go.RowKit Go.Joins
set_option maxRecDepth 100000

/-- What the rows list. -/
def kLaid : List (String × DataW Unit) := [("loop.example/pub-g03030/pub/sha256._K", Rows.laid_loop_example_pub_g03030_pub_sha256_K)]
theorem kDatum : (Rows.laid_loop_example_pub_g03030_pub_sha256_K : DataW Unit) = .agg (K0.map fun x => .lit (.int .u32 (x.toNat : Int))) := by kernel_rfl
theorem kGlobal : Tryd.prog.globalNamed "loop.example/pub-g03030/pub/sha256._K" = some 0 := by kernel_rfl
theorem kType : (Tryd.prog.globals[0]?).map (·.type) = some 109 := by kernel_rfl
theorem kCells : Tryd.prog.cellsOf 74 = 1 := by kernel_rfl
theorem kCells64 : Tryd.prog.cellsOf 109 = 64 := by kernel_rfl
theorem cells_of_trod {H : Type} {enc : TypeId × Value → H} {w : World} {base fuel : Nat} {spare : Nat → Bool} {held : Bool} {cs : List Value} {L : List UInt32} {q : List MemPlace} (hL : L.length = 64)
    (h : DataW.trod enc Tryd.prog w base spare held fuel 109 cs = some (.agg (L.map fun x => .lit (.int .u32 (x.toNat : Int))), q)) : cs = wrow L := by
  obtain ⟨xs, m, _, hx, hlen, hn, hel⟩ := DataW.trod_array Tryd.underlying109 h
  rw [kCells64] at hlen
  simp only [Prod.mk.injEq, DataW.agg.injEq] at hx
  refine List.ext_getElem (by rw [wrow_length, hlen, hL]) fun i h1 h2 => ?_
  have hi : i < 64 := by omega
  have h0 := hel i hi
  rw [kCells, Nat.mul_one, List.getElem?_eq_getElem (by omega)] at h0
  obtain ⟨a, e1, e2, _⟩ := DataW.trod_int Tryd.underlying74 h0
  have hx1 := congrArg (fun l => l[i]?) hx.1
  simp only [List.getElem?_map] at hx1
  rw [List.getElem?_eq_getElem (by omega), List.getElem?_eq_getElem (by omega)] at hx1
  simp only [Option.map_some, Option.some.injEq] at hx1
  rw [e2] at hx1
  simp only [DataW.lit.injEq, Lit.int.injEq, true_and] at hx1
  rw [List.drop_eq_getElem_cons (by omega)] at e1
  simp only [List.take_succ_cons, List.take_zero, List.cons.injEq, and_true] at e1
  rw [e1, ← hx1]
  simp [wrow, wv]
theorem k_laid {W : World} (hsh : W.ShapedOpen Tryd.prog) (h : laidMetH Tryd.prog kLaid W) : KAt K0 W := by
  obtain ⟨cs, hb, hsz, _⟩ := k_block hsh
  rw [MakeChecks.laidMetH_plain _ _ _ (by kernel_rfl)] at h
  obtain ⟨ps, ⟨g0, t0, cs0, f0, p0, q0, hg0, ht0, hv0, hd0, _, _⟩, _, _⟩ := h
  obtain rfl := Option.some.inj (kGlobal.symm.trans hg0)
  obtain rfl := Option.some.inj (kType.symm.trans ht0)
  have hcs : cs0 = cs := by
    unfold World.var? at hv0
    rw [kGlobal] at hv0
    simp only [Option.bind_some, hb] at hv0
    exact (Option.some.inj hv0).symm
  subst hcs
  rw [kDatum] at hd0
  have e := cells_of_trod K0_length hd0
  refine ⟨K0_length, ?_⟩
  rw [hb, ← e]
/-- The door's own heap meets the condition. -/
theorem door_met (os : Os) (args : Array Value) : laidMetH Tryd.prog kLaid ((World.doorLaid Tryd.prog 400 os).forCall (fun _ _ => 0) ⟨#[], args, []⟩).memory :=
  laidMetH_of_parts3 (fuel := 8) (laidMet_of_run' 8 (by kernel_rfl) (by kernel_rfl)) (by kernel_rfl) (by kernel_rfl)
end Go.Proofs.YtknoomndofnnmaaDoor
