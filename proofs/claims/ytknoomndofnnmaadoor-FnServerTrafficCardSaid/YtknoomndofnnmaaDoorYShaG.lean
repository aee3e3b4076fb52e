/- SHA-256: Digest.AppendBinary, MarshalBinary. -/
import Derived.Test.YtknoomndofnnmaaDoorYShaF
import Derived.Test.YtknoomndofnnmaaDoorYMem
namespace Go.Proofs.YtknoomndofnnmaaDoor
open Go Go.RowKit

/-- A row that grew out of another one. -/
structure Gr (w0 : World) (v0 : Value) (W : World) (V : Value) (ys : Bs) : Prop where
  own : Own W V ys
  chg : Chg v0.ownBlock.toList w0 W
  fresh : ∀ g, V.ownBlock = some g → v0.ownBlock = some g ∨ w0.heap.size ≤ g
theorem Gr.next {w0 W W' : World} {v0 V V' : Value} {ys zs : Bs} (h : Gr w0 v0 W V ys) (ho : Own W' V' zs) (hc : Chg V.ownBlock.toList W W') (hf : ∀ g, V'.ownBlock = some g → V.ownBlock = some g ∨ W.heap.size ≤ g) : Gr w0 v0 W' V' zs :=
  ⟨ho, h.chg.and hc fun i hi => by rcases h.fresh i (by simpa using hi) with h1 | h1; exact .inl (by simpa using h1); exact .inr h1,
    fun g hg => by rcases hf g hg with h1 | h1; exact h.fresh g h1; exact .inr (Nat.le_trans h.chg.size h1)⟩
theorem Gr.drew {w0 W : World} {v0 V : Value} {ys : Bs} (h : Gr w0 v0 W V ys) : Gr w0 v0 W.drew V ys := ⟨h.own.chg ((Chg.refl [] W).drew) (by simp), h.chg.drew, h.fresh⟩
theorem Gr.start {w : World} {v : Value} {ys : Bs} (h : Own w v ys) : Gr w v w v ys := ⟨h, Chg.refl _ _, fun _ hg => .inl hg⟩
theorem app32_g {w0 W : World} {v0 V : Value} {ys : Bs} (h : Gr w0 v0 W V ys) (hb : ys.length ≤ 1000000) (x : UInt32) :
    Calls Tryd.prog 149 #[V, .int .u32 (x.toNat : Int)] W fun e w' => ∃ v', e = .returned v' ∧ Gr w0 v0 w' v' (ys ++ be4 x) :=
  (app32 W V ys h.own hb x).mono fun _ _ ⟨v', he, ho, hc, hf⟩ => ⟨v', he, h.next ho hc hf⟩
theorem app64_g {w0 W : World} {v0 V : Value} {ys : Bs} (h : Gr w0 v0 W V ys) (hb : ys.length ≤ 1000000) (n : Nat) :
    Calls Tryd.prog 150 #[V, .int .u64 (n : Int)] W fun e w' => ∃ v', e = .returned v' ∧ Gr w0 v0 w' v' (ys ++ be64 n) :=
  (app64 W V ys h.own hb n).mono fun _ _ ⟨v', he, ho, hc, hf⟩ => ⟨v', he, h.next ho hc hf⟩
theorem dg_words {w : World} {d : Nat} {s : S8} {X : Bs} {nx : Nat} {ln : UInt64} (hd : w.heap[d]? = some (.cells (dcells s X nx ln).toArray 79 (0, 0))) :
    w.cell? ⟨d, 0, none⟩ = some (.int .u32 (s.a.toNat : Int)) ∧ w.cell? ⟨d, 1, none⟩ = some (.int .u32 (s.b.toNat : Int)) ∧ w.cell? ⟨d, 2, none⟩ = some (.int .u32 (s.c.toNat : Int)) ∧ w.cell? ⟨d, 3, none⟩ = some (.int .u32 (s.d.toNat : Int)) ∧
      w.cell? ⟨d, 4, none⟩ = some (.int .u32 (s.e.toNat : Int)) ∧ w.cell? ⟨d, 5, none⟩ = some (.int .u32 (s.f.toNat : Int)) ∧ w.cell? ⟨d, 6, none⟩ = some (.int .u32 (s.g.toNat : Int)) ∧ w.cell? ⟨d, 7, none⟩ = some (.int .u32 (s.h.toNat : Int)) :=
  ⟨blk_cell hd 0, blk_cell hd 1, blk_cell hd 2, blk_cell hd 3, blk_cell hd 4, blk_cell hd 5, blk_cell hd 6, blk_cell hd 7⟩

/-- The bytes of a state that stands at a block's end. -/
def magic : Bs := [115, 104, 97, 3]
def marsh (s : S8) (n : Nat) : Bs := magic ++ be4 s.a ++ be4 s.b ++ be4 s.c ++ be4 s.d ++ be4 s.e ++ be4 s.f ++ be4 s.g ++ be4 s.h ++ z64 ++ be64 n
theorem magicSrc (w : World) : Src Tryd.prog 1 9 (.string { data := #[115, 104, 97, 3] }) magic.length (brow magic) w := strSrc w { data := #[115, 104, 97, 3] }

set_option maxRecDepth 100000 in
set_option maxHeartbeats 4000000 in
theorem dig_append (K : List UInt32) (w : World) (d : Nat) (data : Bs) (h : DigAt K w d data) (h64 : data.length % 64 = 0) (hdl : data.length ≤ 500000) (v : Value) (hv : Own w v []) (hvo : v.ownBlock ≠ some d) :
    Calls Tryd.prog 145 #[.pointer (some ⟨d, 0, none⟩), v] w fun e w' => ∃ v', e = .returned (.tuple #[v', .nilIface]) ∧ Gr w v w' v' (marsh (shaAll K shaInit data) data.length) := by
  obtain ⟨h0, X, hX, hXr, hd⟩ := h
  rw [h64] at hd
  obtain ⟨s, hs⟩ : ∃ s, s = shaAll K shaInit data := ⟨_, rfl⟩
  rw [← hs] at hd ⊢
  obtain ⟨n, hn⟩ : ∃ n, n = data.length := ⟨_, rfl⟩
  rw [← hn] at hd ⊢
  have hn' : n ≤ 500000 := by omega
  have HX := Lib.hid hX
  clear hX hXr h64 hs hn hdl
  have hvd : d ∉ v.ownBlock.toList := by simpa using fun h => hvo h
  have c74 := (blk_cell hd 74).trans (dc_224 _ X _ _ HX.out)
  have key : ∀ W V ys, Gr w v W V ys → W.heap[d]? = some (.cells (dcells s X 0 (UInt64.ofNat n)).toArray 79 (0, 0)) := fun _ _ _ hg => hg.chg.row hd hvd
  have KEY := Lib.hid key
  clear key hvo
  go_enter Tryd.func145, Tryd.ntmps145
  go_upto_region 12 with (first | (at_builtin; refine append_bytes (ys := magic) rfl (.tmp 12) (.const (.string { data := #[115, 104, 97, 3] })) rfl rfl hv rfl (magicSrc w) (by simp [magic]) ?_; intro v1 w1 ho hc hf _; have hg : Gr w v w1 v1 magic := (Gr.start hv).next ho hc hf; clear ho hc hf c74; obtain ⟨c0, c1, c2, c3, c4, c5, c6, c7⟩ := dg_words (KEY.out _ _ _ hg)) | (go_at_call 149; refine (app32_g hg (by simp [magic, be4]) _).mono ?_; clear hg c0 c1 c2 c3 c4 c5 c6 c7; rintro e w2 ⟨v2, rfl, hg⟩; obtain ⟨c0, c1, c2, c3, c4, c5, c6, c7⟩ := dg_words (KEY.out _ _ _ hg)))
  clear c0 c1 c2 c3 c4 c5 c6 c7
  have hd2 := KEY.out _ _ _ hg
  have c72 : w2.cell? ⟨d, 72, none⟩ = some (.int .i64 0) := (blk_cell hd2 72).trans (dc_nx _ X 0 _ HX.out)
  refine region_tail 9 (by kernel_rfl) (by kernel_rfl) ?_
  simp only [List.take_succ_cons, List.take_zero, List.drop_succ_cons, List.drop_zero]
  repeat ((first | refine still_one rfl ?_ | refine still_one2 rfl ?_); go_wp2; refine Held1.mk ?_)
  refine wpStill_nil ?_
  refine append_bytes (ys := []) rfl (.tmp 70) (.tmp 78) rfl rfl hg.drew.own rfl (BS.src (S := []) (xs := []) ⟨_, 64, rfl, by simp, by unfold maxLen; omega, fun h => (by cases h), .inl rfl⟩) (by simp [magic, be4]) ?_
  intro v3 w3 ho hc hf _
  have hg3 := hg.drew.next ho hc hf
  rw [List.append_nil] at hg3
  have hd3 := KEY.out _ _ _ hg3
  have c72 : w3.cell? ⟨d, 72, none⟩ = some (.int .i64 0) := (blk_cell hd3 72).trans (dc_nx _ X 0 _ HX.out)
  clear hd2 hd3 ho hc hf hg
  go_wp2_with (first | (at_builtin; refine append_zap rfl (.tmp 80) (.tmp 85) rfl rfl hg3.own rfl (by simp [magic, be4]) ?_; intro v4 w4 ho4 hc4 hf4; have hg4 := hg3.next ho4 hc4 hf4; have hd4 := KEY.out _ _ _ hg4; have c73 := (blk_cell hd4 73).trans (dc_ln _ X 0 _ HX.out); rw [u64_nat _ (by omega)] at c73; clear hd4 ho4 hc4 hf4 hg3) | (go_at_call 150; refine (app64_g hg4 (by simp [magic, be4, z64_length]) _).mono ?_; rintro e w5 ⟨v5, rfl, hg5⟩))
  go_ret2
  exact ⟨v5, rfl, hg5⟩
theorem mk_cap (len cap : Nat) (h : len ≤ cap) (hn : cap ≤ 1099511627776) (W : World) : (Instr.makeSlice 24 (.int .i64 (len : Int)) (.int .i64 (cap : Int))).run Tryd.prog W = .ok (.slice (some ⟨W.heap.size, 0, none⟩) len cap) (W.alloc (.cells (brow (List.replicate cap 0)).toArray 5)) := by
  obtain ⟨i, hi, hz0, hz1, hz2⟩ := info_parts infoU8
  have hr := run_make (P := Tryd.prog) W 24 5 i (.int .u8 0) Tryd.underlying24 hi hz0 .i64 .i64 len cap (by omega) (by omega) (by rw [hz2]; omega) (by omega)
  have e : madeCells (Value.int .u8 0).cells (cap * i.size) = (brow (List.replicate cap 0)).toArray := by
    apply Array.ext'
    rw [hz1, Nat.mul_one, show (Value.int .u8 0).cells = #[.int .u8 0] from rfl, toList_madeCells_one]
    simp [brow, bv]
  simp only [Int.toNat_natCast, e] at hr
  exact hr
theorem cap_own (W : World) (cap : Nat) (hn : cap ≤ 1000000) : Own (W.alloc (.cells (brow (List.replicate cap 0)).toArray 5)) (.slice (some ⟨W.heap.size, 0, none⟩) 0 cap) [] :=
  .inr ⟨_, cap, _, rfl, heap_alloc_new W _, Nat.zero_le _, by unfold maxLen; omega, by simp [brow], rfl⟩
set_option maxRecDepth 100000 in
theorem dig_marshal (K : List UInt32) (w : World) (d : Nat) (data : Bs) (h : DigAt K w d data) (h64 : data.length % 64 = 0) (hdl : data.length ≤ 500000) :
    Calls Tryd.prog 142 #[.pointer (some ⟨d, 0, none⟩)] w fun e w' => ∃ v', e = .returned (.tuple #[v', .nilIface]) ∧ Own w' v' (marsh (shaAll K shaInit data) data.length) ∧ Chg [] w w' ∧ ∀ g, v'.ownBlock = some g → w.heap.size ≤ g := by
  have hmk : (Instr.makeSlice 24 (.int .i64 0) (.int .i64 108)).run Tryd.prog w = .ok (.slice (some ⟨w.heap.size, 0, none⟩) 0 108) (w.alloc (.cells (brow (List.replicate 108 0)).toArray 5)) := mk_cap 0 108 (by omega) (by omega) w
  have ho := cap_own w 108 (by omega)
  generalize (Obj.cells (brow (List.replicate 108 0)).toArray 5) = O at hmk ho
  have hdl2 := blk_lt h.2.choose_spec.2.2
  have ha := dig_append K (w.alloc O) d data (h.chg ((Chg.refl [] w).alloc _) (by simp)) h64 hdl _ ho (by simp [Value.ownBlock]; omega)
  have HA := Lib.hid ha
  clear ha ho
  go_enter Tryd.func142, Tryd.ntmps142
  go_wp2_with (go_at_call 145; refine HA.out.mono ?_; rintro e w5 ⟨v5, rfl, hg5⟩)
  go_ret2
  exact ⟨v5, rfl, hg5.own, ((Chg.refl [] w).alloc O).and hg5.chg (by simp [Value.ownBlock]), fun g hg => (hg5.fresh g hg).elim (fun h => by simp [Value.ownBlock] at h; omega) (fun h => by simp at h; omega)⟩
end Go.Proofs.YtknoomndofnnmaaDoor
