/- SHA-256: blockGeneric. -/
import Derived.Test.YtknoomndofnnmaaDoorYShaA
namespace Go.Proofs.YtknoomndofnnmaaDoor
open Go Go.RowKit

theorem u32_xor' (a b : UInt32) : bits .xor .u32 (a.toNat : Int) (b.toNat : Int) = ((a ^^^ b).toNat : Int) := by
  rw [u32_xor_nat _ _ a.toNat_lt b.toNat_lt, UInt32.toNat_xor]
theorem u32_and' (a b : UInt32) : bits .and .u32 (a.toNat : Int) (b.toNat : Int) = ((a &&& b).toNat : Int) := by
  rw [u32_and_nat _ _ a.toNat_lt b.toNat_lt, UInt32.toNat_and]
theorem u32_or' (a b : UInt32) : bits .or .u32 (a.toNat : Int) (b.toNat : Int) = ((a ||| b).toNat : Int) := by
  rw [u32_or_nat _ _ a.toNat_lt b.toNat_lt, UInt32.toNat_or]

def wrow (xs : List UInt32) : List Value := xs.map wv
theorem wrow_get (xs : List UInt32) (i : Nat) (h : i < xs.length) : (wrow xs)[i]? = some (.int .u32 ((gw xs i).toNat : Int)) := by
  simp [wrow, wv, h, gw]
theorem wv_cell (xs : List UInt32) (j : Nat) (h : j < xs.length) : ((wrow xs).toArray)[j]? = some (.int .u32 ((gw xs j).toNat : Int)) := by
  simpa using wrow_get xs j h
theorem wrow_set (xs : List UInt32) (i : Nat) (x : UInt32) : (wrow xs).set i (.int .u32 (x.toNat : Int)) = wrow (xs.set i x) := by
  simp [wrow, wv, List.map_set]
theorem blk_wset {w : World} {b i : Nat} {xs : List UInt32} {t : TypeId} (h : w.heap[b]? = some (.cells (wrow xs).toArray t (0, 0))) (x : UInt32) :
    (w.setCell ⟨b, i, none⟩ (.int .u32 (x.toNat : Int))).heap[b]? = some (.cells (wrow (xs.set i x)).toArray t (0, 0)) := by
  rw [blk_set h, ← wrow_set]; simp

/-- A digest's cells. -/
def dcells (s : S8) (X : Bs) (nx : Nat) (ln : UInt64) : List Value :=
  wv s.a :: wv s.b :: wv s.c :: wv s.d :: wv s.e :: wv s.f :: wv s.g :: wv s.h :: (brow X ++ [.int .i64 (nx : Int), .int .u64 (ln.toNat : Int), .bool false])

theorem blk_dset {w : World} {d : Nat} {L : List Value} {t : TypeId} (h : w.heap[d]? = some (.cells L.toArray t (0, 0))) (i : Nat) (v : Value) :
    (w.setCell ⟨d, i, none⟩ v).heap[d]? = some (.cells (L.set i v).toArray t (0, 0)) := by
  rw [blk_set h]; simp
/-- The table of constants lies in the first block. -/
def KAt (K : List UInt32) (w : World) : Prop := K.length = 64 ∧ w.heap[0]? = some (.cells (wrow K).toArray 109 (0, 0))

theorem shl_val (x : UInt8) (k : Nat) (hk : k ≤ 24) : ((x.toNat : Int) * (2 ^ k : Nat) % 4294967296) = (((x.toUInt32 <<< UInt32.ofNat k).toNat : Nat) : Int) := by
  have hx := x.toNat_lt
  rw [UInt32.toNat_shiftLeft, UInt8.toNat_toUInt32, Nat.shiftLeft_eq]
  have e : (UInt32.ofNat k).toNat % 32 = k := by simp; omega
  rw [e]
  omega
theorem be_val (a b c d : UInt8) : bits .or .u32 (bits .or .u32 (bits .or .u32 ((a.toNat : Int) * 16777216 % 4294967296) ((b.toNat : Int) * 65536 % 4294967296)) ((c.toNat : Int) * 256 % 4294967296)) (d.toNat : Int)
    = (((((a.toUInt32 <<< 24) ||| (b.toUInt32 <<< 16)) ||| (c.toUInt32 <<< 8)) ||| d.toUInt32).toNat : Int) := by
  have h1 := shl_val a 24 (by omega)
  have h2 := shl_val b 16 (by omega)
  have h3 := shl_val c 8 (by omega)
  have h4 : (d.toNat : Int) = (d.toUInt32.toNat : Int) := by rw [UInt8.toNat_toUInt32]
  simp only [show ((2 ^ 24 : Nat) : Int) = 16777216 from rfl, show ((2 ^ 16 : Nat) : Int) = 65536 from rfl, show ((2 ^ 8 : Nat) : Int) = 256 from rfl] at h1 h2 h3
  rw [h1, h2, h3, h4, u32_or', u32_or', u32_or']
  rfl

theorem shr10 (x : UInt32) : (x.toNat : Int) / (1024 : Int) = ((x >>> 10).toNat : Int) := by
  rw [UInt32.toNat_shiftRight, Nat.shiftRight_eq_div_pow]; rfl
theorem shr3 (x : UInt32) : (x.toNat : Int) / (8 : Int) = ((x >>> 3).toNat : Int) := by
  rw [UInt32.toNat_shiftRight, Nat.shiftRight_eq_div_pow]; rfl
theorem sum2 (a b : UInt32) : ((a.toNat : Int) + (b.toNat : Int)) % 4294967296 = ((a + b).toNat : Int) := by
  simp only [UInt32.toNat_add]; omega
theorem sum4 (a b c d : UInt32) : ((a.toNat : Int) + (b.toNat : Int) + (c.toNat : Int) + (d.toNat : Int)) % 4294967296 = ((a + b + c + d).toNat : Int) := by
  simp only [UInt32.toNat_add]; omega
theorem sum5 (a b c d e : UInt32) : ((a.toNat : Int) + (b.toNat : Int) + (c.toNat : Int) + (d.toNat : Int) + (e.toNat : Int)) % 4294967296 = ((a + b + c + d + e).toNat : Int) := by
  simp only [UInt32.toNat_add]; omega

theorem u32_not' (a : UInt32) : bits .xor .u32 IntKind.u32.max (a.toNat : Int) = ((~~~a).toNat : Int) := by
  have h : (IntKind.u32.max : Int) = ((4294967295 : UInt32).toNat : Int) := by decide
  rw [h, u32_xor']
  congr 2
theorem byte_val (a b c d : UInt8) : bits .or .u32 (bits .or .u32 (bits .or .u32 ((a.toNat : Int) * 16777216) ((b.toNat : Int) * 65536)) ((c.toNat : Int) * 256)) (d.toNat : Int)
    = (((((a.toUInt32 <<< 24) ||| (b.toUInt32 <<< 16)) ||| (c.toUInt32 <<< 8)) ||| d.toUInt32).toNat : Int) := by
  rw [← be_val]
  have ha := a.toNat_lt
  have hb := b.toNat_lt
  have hc := c.toNat_lt
  rw [Int.emod_eq_of_lt (by omega) (by omega), Int.emod_eq_of_lt (by omega) (by omega), Int.emod_eq_of_lt (by omega) (by omega)]
theorem sched_val (x7 x2 x15 x16 : UInt32) : (bits .xor .u32 (bits .xor .u32 ((rotr x2 17).toNat : Int) ((rotr x2 19).toNat : Int)) ((x2.toNat : Int) / 1024) + (x7.toNat : Int) + bits .xor .u32 (bits .xor .u32 ((rotr x15 7).toNat : Int) ((rotr x15 18).toNat : Int)) ((x15.toNat : Int) / 8) + (x16.toNat : Int)) % 4294967296
    = ((sg1 x2 + x7 + sg0 x15 + x16).toNat : Int) := by
  rw [shr10, shr3, u32_xor', u32_xor', u32_xor', u32_xor', sum4]; rfl
theorem round_a (t : S8) (k w : UInt32) : ((t.h.toNat : Int) + bits .xor .u32 (bits .xor .u32 ((rotr t.e 6).toNat : Int) ((rotr t.e 11).toNat : Int)) ((rotr t.e 25).toNat : Int) + bits .xor .u32 (bits .and .u32 (t.e.toNat : Int) (t.f.toNat : Int)) (bits .and .u32 (bits .xor .u32 IntKind.u32.max (t.e.toNat : Int)) (t.g.toNat : Int)) + (k.toNat : Int) + (w.toNat : Int) +
      (bits .xor .u32 (bits .xor .u32 ((rotr t.a 2).toNat : Int) ((rotr t.a 13).toNat : Int)) ((rotr t.a 22).toNat : Int) + bits .xor .u32 (bits .xor .u32 (bits .and .u32 (t.a.toNat : Int) (t.b.toNat : Int)) (bits .and .u32 (t.a.toNat : Int) (t.c.toNat : Int))) (bits .and .u32 (t.b.toNat : Int) (t.c.toNat : Int)))) % 4294967296
    = ((rnd t k w).a.toNat : Int) := by
  rw [u32_not']
  simp only [u32_xor', u32_and']
  show _ = ((rnd1 t k w + (bs0 t.a + majF t.a t.b t.c)).toNat : Int)
  unfold rnd1 bs1 bs0 chF majF
  simp only [UInt32.toNat_add]
  omega
theorem round_e (t : S8) (k w : UInt32) : ((t.d.toNat : Int) + ((t.h.toNat : Int) + bits .xor .u32 (bits .xor .u32 ((rotr t.e 6).toNat : Int) ((rotr t.e 11).toNat : Int)) ((rotr t.e 25).toNat : Int) + bits .xor .u32 (bits .and .u32 (t.e.toNat : Int) (t.f.toNat : Int)) (bits .and .u32 (bits .xor .u32 IntKind.u32.max (t.e.toNat : Int)) (t.g.toNat : Int)) + (k.toNat : Int) + (w.toNat : Int))) % 4294967296
    = ((rnd t k w).e.toNat : Int) := by
  rw [u32_not']
  simp only [u32_xor', u32_and']
  show _ = ((t.d + rnd1 t k w).toNat : Int)
  unfold rnd1 bs1 chF
  simp only [UInt32.toNat_add]
  omega
theorem sched_set (p : Bs) (W : List UInt32) (n : Nat) (hW : W.length = 64) (hn : n < 64) (h : W.take n = schedN p n) : (W.set n (nextW p (schedN p n))).take (n + 1) = schedN p (n + 1) := by
  rw [List.set_eq_take_append_cons_drop, if_pos (by omega), List.take_append, List.length_take, Nat.min_eq_left (by omega), h]
  rw [List.take_of_length_le (by rw [schedN_length]; omega)]
  rw [show n + 1 - n = 1 by omega]
  rfl
theorem sched_at (p : Bs) (W : List UInt32) (n : Nat) (hn : n < 64) (h : W.take (n + 1) = schedN p (n + 1)) : gw W n = gw (schedN p 64) n := by
  rw [← gw_take W (n + 1) n (by omega), h, ← schedN_prefix p (n + 1) 64 (by omega), gw_take _ _ _ (by omega)]
theorem sched_old (p : Bs) (W : List UInt32) (n i : Nat) (hi : i < n) (h : W.take n = schedN p n) : gw (schedN p n) i = gw W i := by
  rw [← h, gw_take _ _ _ hi]

set_option maxRecDepth 100000 in
set_option maxHeartbeats 4000000 in
theorem sha_block (K : List UInt32) (w : World) (d : Nat) (_hd0 : d ≠ 0) (s : S8) (X : Bs) (nx : Nat) (ln : UInt64) (hK : KAt K w) (hd : w.heap[d]? = some (.cells (dcells s X nx ln).toArray 79 (0, 0)))
    (b off cap : Nat) (xs : Bs) (hx : xs.length ≤ 1000000) (hcap : xs.length ≤ cap) (hc : ∀ j, j < xs.length → w.cell? ⟨b, off + j, none⟩ = some (.int .u8 ((gt xs j).toNat : Int))) :
    Calls Tryd.prog 98 #[.pointer (some ⟨d, 0, none⟩), .slice (some ⟨b, off, none⟩) xs.length cap] w fun e w' =>
      e = .returned (.tuple #[]) ∧ w'.heap[d]? = some (.cells (dcells (shaAll K s xs) X nx ln).toArray 79 (0, 0)) ∧ Chg [d] w w' := by
  have hdl := blk_lt hd
  have hdw : d ≠ w.heap.size := by omega
  have cd := fun (o : Obj) j => blk_cell (blk_alloc hd o) j
  have cd0 : ∀ o, (w.alloc o).cell? ⟨d, 0, none⟩ = some (.int .u32 (s.a.toNat : Int)) := fun o => cd o 0
  have cd1 : ∀ o, (w.alloc o).cell? ⟨d, 1, none⟩ = some (.int .u32 (s.b.toNat : Int)) := fun o => cd o 1
  have cd2 : ∀ o, (w.alloc o).cell? ⟨d, 2, none⟩ = some (.int .u32 (s.c.toNat : Int)) := fun o => cd o 2
  have cd3 : ∀ o, (w.alloc o).cell? ⟨d, 3, none⟩ = some (.int .u32 (s.d.toNat : Int)) := fun o => cd o 3
  have cd4 : ∀ o, (w.alloc o).cell? ⟨d, 4, none⟩ = some (.int .u32 (s.e.toNat : Int)) := fun o => cd o 4
  have cd5 : ∀ o, (w.alloc o).cell? ⟨d, 5, none⟩ = some (.int .u32 (s.f.toNat : Int)) := fun o => cd o 5
  have cd6 : ∀ o, (w.alloc o).cell? ⟨d, 6, none⟩ = some (.int .u32 (s.g.toNat : Int)) := fun o => cd o 6
  have cd7 : ∀ o, (w.alloc o).cell? ⟨d, 7, none⟩ = some (.int .u32 (s.h.toNat : Int)) := fun o => cd o 7
  clear cd
  go_enter Tryd.func98, Tryd.ntmps98
  go_wp2
  go_quiet (fail)
  go_wp2
  refine gen_wp (fun w' => w'.heap[w.heap.size]? = some (.cells (wrow (List.replicate 64 0)).toArray 109 (0, 0)) ∧ w'.heap[d]? = some (.cells (dcells s X nx ln).toArray 79 (0, 0)) ∧ Chg [] w w') ?_ (fun w2 h2 => ?_)
  · exact ⟨heap_alloc_new w _, blk_alloc hd _, ((Chg.refl [] w).alloc _).drewN _⟩
  clear cd0 cd1 cd2 cd3 cd4 cd5 cd6 cd7
  obtain ⟨hg2, hd2, hchg2⟩ := h2
  obtain ⟨g, hg⟩ : ∃ g, g = w.heap.size := ⟨_, rfl⟩
  rw [← hg] at hg2 hdw
  have Hg := Lib.hid hg
  rw [← hg]
  clear hg
  go_loopg [1, 5, 6, 7, 8, 9, 10, 11, 12] (xs.length / 64) (fun k p h0 h1 h2 h3 h4 h5 h6 h7 wr => ∃ (ys : Bs) (st : S8) (o c : Nat) (W : List UInt32), k = ys.length / 64 ∧ ys.length ≤ 1000000 ∧ ys.length ≤ c ∧ p = .slice (some ⟨b, o, none⟩) ys.length c ∧ Hid (shaAll K st ys = shaAll K s xs) ∧
    (∀ j, j < ys.length → w.cell? ⟨b, o + j, none⟩ = some (.int .u8 ((gt ys j).toNat : Int))) ∧ h0 = .int .u32 (st.a.toNat : Int) ∧ h1 = .int .u32 (st.b.toNat : Int) ∧ h2 = .int .u32 (st.c.toNat : Int) ∧ h3 = .int .u32 (st.d.toNat : Int) ∧
    h4 = .int .u32 (st.e.toNat : Int) ∧ h5 = .int .u32 (st.f.toNat : Int) ∧ h6 = .int .u32 (st.g.toNat : Int) ∧ h7 = .int .u32 (st.h.toNat : Int) ∧ W.length = 64 ∧ wr.heap[g]? = some (.cells (wrow W).toArray 109 (0, 0)) ∧ Chg [] w wr)
  case atStart => exact ⟨xs, s, off, cap, List.replicate 64 0, rfl, hx, hcap, rfl, rfl, hc, rfl, rfl, rfl, rfl, rfl, rfl, rfl, rfl, by simp, hg2, hchg2⟩
  case round =>
    obtain ⟨ys, st, o, c, W, rfl, hy, hyc, rfl, hall, hcy, rfl, rfl, rfl, rfl, rfl, rfl, rfl, rfl, hW, hgr, hchg⟩ := hrel
    by_cases hlt : 64 ≤ ys.length
    · have hlt' : decide ((64 : Int) ≤ (ys.length : Int)) = true := decide_eq_true (by omega)
      go_wp2
      obtain ⟨wo, rfl⟩ : ∃ wo : World, wo = wr := ⟨_, rfl⟩
      obtain ⟨p, hp⟩ : ∃ p, p = ys.take 64 := ⟨_, rfl⟩
      have Hp := Lib.hid hp
      clear hp
      go_loopg [13, 14, 15, 16, 17, 18, 19, 20, 80] 64 (fun k ra rb rc rd re rf rg rh i wr => ∃ (n : Nat) (W : List UInt32), n ≤ 64 ∧ k = 64 - n ∧ i = .int .i64 (n : Int) ∧ W.length = 64 ∧ W.take n = schedN p n ∧ wr.heap[g]? = some (.cells (wrow W).toArray 109 (0, 0)) ∧ Chg [] w wr ∧
        ra = .int .u32 ((rnds K (schedN p 64) n st).a.toNat : Int) ∧ rb = .int .u32 ((rnds K (schedN p 64) n st).b.toNat : Int) ∧ rc = .int .u32 ((rnds K (schedN p 64) n st).c.toNat : Int) ∧ rd = .int .u32 ((rnds K (schedN p 64) n st).d.toNat : Int) ∧
        re = .int .u32 ((rnds K (schedN p 64) n st).e.toNat : Int) ∧ rf = .int .u32 ((rnds K (schedN p 64) n st).f.toNat : Int) ∧ rg = .int .u32 ((rnds K (schedN p 64) n st).g.toNat : Int) ∧ rh = .int .u32 ((rnds K (schedN p 64) n st).h.toNat : Int))
      case atStart => exact ⟨0, W, by omega, rfl, rfl, hW, rfl, hgr, hchg, rfl, rfl, rfl, rfl, rfl, rfl, rfl, rfl⟩
      case round =>
        clear hgr hchg hW
        obtain ⟨n, W, hn, rfl, rfl, hW, hsch, hgr, hchg, rfl, rfl, rfl, rfl, rfl, rfl, rfl, rfl⟩ := hrel
        obtain ⟨t, ht⟩ : ∃ t, t = rnds K (schedN p 64) n st := ⟨_, rfl⟩
        rw [← ht]
        have Ht := Lib.hid ht
        clear ht
        have Hsch := Lib.hid hsch
        clear hsch
        by_cases hn64 : n < 64
        · by_cases hn16 : n < 16
          · as_aux_lemma =>
              have fg := fun j => blk_frozen hgr j
              have cg := (blk_cell hgr n).trans (wv_cell W n (by omega))
              have c0 := hchg.cell (hcy (n * 4) (by omega)) (by simp)
              have c1 := hchg.cell (hcy (n * 4 + 1) (by omega)) (by simp)
              have c2 := hchg.cell (hcy (n * 4 + 2) (by omega)) (by simp)
              have c3 := hchg.cell (hcy (n * 4 + 3) (by omega)) (by simp)
              have b0 : ((gt ys (n * 4)).toNat : Int) < 256 := by have := (gt ys (n * 4)).toNat_lt; omega
              have b1 : ((gt ys (n * 4 + 1)).toNat : Int) < 256 := by have := (gt ys (n * 4 + 1)).toNat_lt; omega
              have b2 : ((gt ys (n * 4 + 2)).toNat : Int) < 256 := by have := (gt ys (n * 4 + 2)).toNat_lt; omega
              have b3 : ((gt ys (n * 4 + 3)).toNat : Int) < 256 := by have := (gt ys (n * 4 + 3)).toNat_lt; omega
              go_wp2
              refine region_tail 31 (by kernel_rfl) (by kernel_rfl) ?_
              simp only [List.take_succ_cons, List.take_zero, List.drop_succ_cons, List.drop_zero]
              repeat (refine still_one rfl ?_; go_wp2; refine Held1.mk ?_)
              refine wpStill_nil ?_
              go_wp2
              refine gen_wp (fun w' => w'.heap[g]? = some (.cells (wrow (W.set n (nextW p (schedN p n)))).toArray 109 (0, 0)) ∧ Chg [] w w') ?_ (fun w3 h3 => ?_)
              · refine ⟨?_, (hchg.setCell (.inr (by rw [← Hg.out]; exact Nat.le_refl _)) _).drew⟩
                rw [byte_val]
                have e : nextW p (schedN p n) = be32 p (4 * n) := by unfold nextW; rw [schedN_length, if_pos hn16]
                have hp := Hp.out
                rw [e, hp]
                unfold be32
                rw [gt_take _ _ _ (by omega), gt_take _ _ _ (by omega), gt_take _ _ _ (by omega), gt_take _ _ _ (by omega), Nat.mul_comm 4 n]
                exact blk_drew (blk_wset hgr _)
              clear b0 b1 b2 b3
              obtain ⟨hg3, hchg3⟩ := h3
              have hK3 := hchg3.row hK.2 (by simp)
              have ck := (blk_cell hK3 n).trans (wv_cell K n (by rw [hK.1]; omega))
              have cw := (blk_cell hg3 n).trans (wv_cell _ n (by simp; omega))
              clear fg cg c0 c1 c2 c3
              go_quiet ((go_at_call 115; exact Calls.quiet_of_same (rotl_any _ _ _ (by omega))))
              go_wp2_with (go_at_call 115; refine (rotl_any _ _ _ (by omega)).mono ?_; rintro e w' ⟨rfl, rfl⟩)
              go_roundg (64 - (n + 1))
              case measure => omega
              case rel =>
                have hs := sched_set p W n hW hn64 Hsch.out
                have hk := sched_at p _ n hn64 hs
                have e : rnds K (schedN p 64) (n + 1) st = rnd t (gw K n) (gw (W.set n (nextW p (schedN p n))) n) := by rw [hk, Ht.out]; rfl
                exact ⟨n + 1, _, by omega, rfl, by go_num, by simpa using hW, hs, hg3, hchg3.drewN _, by rw [e]; exact congrArg (Value.int .u32) (round_a t _ _), by rw [e]; rfl, by rw [e]; rfl, by rw [e]; rfl, by rw [e]; exact congrArg (Value.int .u32) (round_e t _ _), by rw [e]; rfl, by rw [e]; rfl, by rw [e]; rfl⟩
          · as_aux_lemma =>
              have fg := fun j => blk_frozen hgr j
              have cg := (blk_cell hgr n).trans (wv_cell W n (by omega))
              have c0 := (blk_cell hgr (n - 2)).trans (wv_cell W (n - 2) (by omega))
              have c1 := (blk_cell hgr (n - 15)).trans (wv_cell W (n - 15) (by omega))
              have c2 := (blk_cell hgr (n - 7)).trans (wv_cell W (n - 7) (by omega))
              have c3 := (blk_cell hgr (n - 16)).trans (wv_cell W (n - 16) (by omega))
              go_wp2_with (go_at_call 115; refine (rotl_any _ _ _ (by omega)).mono ?_; rintro e w' ⟨rfl, rfl⟩)
              refine region_tail 15 (by kernel_rfl) (by kernel_rfl) ?_
              simp only [List.take_succ_cons, List.take_zero, List.drop_succ_cons, List.drop_zero]
              repeat (refine still_one rfl ?_; go_wp2; refine Held1.mk ?_)
              refine wpStill_nil ?_
              go_wp2
              refine gen_wp (fun w' => w'.heap[g]? = some (.cells (wrow (W.set n (nextW p (schedN p n)))).toArray 109 (0, 0)) ∧ Chg [] w w') ?_ (fun w3 h3 => ?_)
              · refine ⟨?_, (hchg.setCell (.inr (by rw [← Hg.out]; exact Nat.le_refl _)) _).drew⟩
                have e : nextW p (schedN p n) = sg1 (gw W (n - 2)) + gw W (n - 7) + sg0 (gw W (n - 15)) + gw W (n - 16) := by
                  unfold nextW
                  rw [schedN_length, if_neg hn16, sched_old p W n _ (by omega) Hsch.out, sched_old p W n _ (by omega) Hsch.out, sched_old p W n _ (by omega) Hsch.out, sched_old p W n _ (by omega) Hsch.out]
                rw [e, sched_val]
                exact blk_drew (blk_wset hgr _)
              obtain ⟨hg3, hchg3⟩ := h3
              have hK3 := hchg3.row hK.2 (by simp)
              have ck := (blk_cell hK3 n).trans (wv_cell K n (by rw [hK.1]; omega))
              have cw := (blk_cell hg3 n).trans (wv_cell _ n (by simp; omega))
              clear fg cg c0 c1 c2 c3
              go_quiet ((go_at_call 115; exact Calls.quiet_of_same (rotl_any _ _ _ (by omega))))
              go_wp2_with (go_at_call 115; refine (rotl_any _ _ _ (by omega)).mono ?_; rintro e w' ⟨rfl, rfl⟩)
              go_roundg (64 - (n + 1))
              case measure => omega
              case rel =>
                have hs := sched_set p W n hW hn64 Hsch.out
                have hk := sched_at p _ n hn64 hs
                have e : rnds K (schedN p 64) (n + 1) st = rnd t (gw K n) (gw (W.set n (nextW p (schedN p n))) n) := by rw [hk, Ht.out]; rfl
                exact ⟨n + 1, _, by omega, rfl, by go_num, by simpa using hW, hs, hg3, hchg3.drewN _, by rw [e]; exact congrArg (Value.int .u32) (round_a t _ _), by rw [e]; rfl, by rw [e]; rfl, by rw [e]; rfl, by rw [e]; exact congrArg (Value.int .u32) (round_e t _ _), by rw [e]; rfl, by rw [e]; rfl, by rw [e]; rfl⟩
        · obtain rfl : n = 64 := by omega
          have hl : ys.length - 64 ≤ c - 64 := by omega
          by_cases hc64 : c = 64
          · as_aux_lemma =>
              go_wp2
              go_roundg (ys.length / 64 - 1)
              case measure => omega
              case rel =>
                have hy64 : ys.length = 64 := by omega
                have e : shaAll K (shaBlk K st p) [] = shaAll K s xs := by
                  have e1 := shaAll_step K st ys hlt
                  rw [List.drop_of_length_le (by omega), ← Hp.out] at e1
                  rw [← e1]; exact hall.out
                have e2 : shaBlk K st p = st.add t := by rw [Ht.out]; rfl
                refine ⟨[], shaBlk K st p, o, 0, W, by rw [hy64]; rfl, by simp, Nat.le_refl 0, by simp [hy64], Lib.hid e, (fun j hj => absurd hj (Nat.not_lt_zero j)), ?_, ?_, ?_, ?_, ?_, ?_, ?_, ?_, hW, hgr, hchg⟩
                all_goals
                  rw [e2, sum2]
                  rfl
          · as_aux_lemma =>
              go_wp2
              go_roundg (ys.length / 64 - 1)
              case measure => omega
              case rel =>
                have e : shaAll K (shaBlk K st p) (ys.drop 64) = shaAll K s xs := by rw [Hp.out, ← shaAll_step K st ys hlt]; exact hall.out
                have e2 : shaBlk K st p = st.add t := by rw [Ht.out]; rfl
                have hl' : (ys.drop 64).length = ys.length - 64 := by simp
                refine ⟨ys.drop 64, shaBlk K st p, o + 64, c - 64, W, by rw [hl']; omega, by rw [hl']; omega, by rw [hl']; omega, by rw [hl'], Lib.hid e, ?_, ?_, ?_, ?_, ?_, ?_, ?_, ?_, ?_, hW, hgr, hchg⟩
                · intro j hj
                  rw [gt_drop, Nat.add_assoc]
                  exact hcy (64 + j) (by omega)
                all_goals
                  rw [e2, sum2]
                  rfl
    · as_aux_lemma =>
        have hlt' : decide ((64 : Int) ≤ (ys.length : Int)) = false := decide_eq_false (by omega)
        have hdr := hchg.row hd (by simp)
        have cd := fun j => blk_cell hdr j
        have cd0 : wr.cell? ⟨d, 0, none⟩ = some (.int .u32 (s.a.toNat : Int)) := cd 0
        have cd1 : wr.cell? ⟨d, 1, none⟩ = some (.int .u32 (s.b.toNat : Int)) := cd 1
        have cd2 : wr.cell? ⟨d, 2, none⟩ = some (.int .u32 (s.c.toNat : Int)) := cd 2
        have cd3 : wr.cell? ⟨d, 3, none⟩ = some (.int .u32 (s.d.toNat : Int)) := cd 3
        have cd4 : wr.cell? ⟨d, 4, none⟩ = some (.int .u32 (s.e.toNat : Int)) := cd 4
        have cd5 : wr.cell? ⟨d, 5, none⟩ = some (.int .u32 (s.f.toNat : Int)) := cd 5
        have cd6 : wr.cell? ⟨d, 6, none⟩ = some (.int .u32 (s.g.toNat : Int)) := cd 6
        have cd7 : wr.cell? ⟨d, 7, none⟩ = some (.int .u32 (s.h.toNat : Int)) := cd 7
        have fd := fun j => blk_frozen hdr j
        clear cd
        go_wp2
        refine region_plan (List.range 19 ++ [20, 21, 24, 25, 28, 29, 32, 33, 36, 37, 40, 41, 44, 45] ++ [19, 22, 23, 26, 27, 30, 31, 34, 35, 38, 39, 42, 43, 46, 47]) (by kernel_rfl) (by kernel_rfl) ?_
        simp only [show ∀ l : List Oper, (List.range 19 ++ [20, 21, 24, 25, 28, 29, 32, 33, 36, 37, 40, 41, 44, 45] ++ [19, 22, 23, 26, 27, 30, 31, 34, 35, 38, 39, 42, 43, 46, 47]).filterMap (l[·]?) = (List.range 19 ++ [20, 21, 24, 25, 28, 29, 32, 33, 36, 37, 40, 41, 44, 45]).filterMap (l[·]?) ++ [19, 22, 23, 26, 27, 30, 31, 34, 35, 38, 39, 42, 43, 46, 47].filterMap (l[·]?) from fun l => List.filterMap_append]
        refine list_cut _ ?_
        change wpList _ _ _ [_, _, _, _, _, _, _, _, _, _, _, _, _, _, _, _, _, _, _, _, _, _, _, _, _, _, _, _, _, _, _, _, _] _ _
        go_wp2
        refine HeldL.mk ?_
        change wpList _ _ _ [_, _, _, _, _, _, _, _, _, _, _, _, _, _, _] _ _
        have hdr' := blk_drew hdr
        have hchg' : Chg [d] w wr.drew := (hchg.mono (by simp)).drew
        refine list_cutAt 1 ?_
        simp only [List.take_succ_cons, List.take_zero, List.drop_succ_cons, List.drop_zero]
        go_wp2
        refine HeldL.mk ?_
        refine gen_list (fun w' => w'.heap[d]? = some (.cells (dcells { s with a := st.a } X nx ln).toArray 79 (0, 0)) ∧ Chg [d] w w') ?_ (fun w0 h0 => ?_)
        · exact ⟨blk_dset hdr' 0 _, hchg'.setCell (.inl (by simp)) _⟩
        clear cd0 fd
        have cd1 : w0.cell? ⟨d, 1, none⟩ = some (.int .u32 (s.b.toNat : Int)) := blk_cell h0.1 1
        have fd : ∀ j, w0.frozen? ⟨d, j, none⟩ = false := fun j => blk_frozen h0.1 j
        refine list_cutAt 2 ?_
        simp only [List.take_succ_cons, List.take_zero, List.drop_succ_cons, List.drop_zero]
        go_wp2
        refine HeldL.mk ?_
        refine gen_list (fun w' => w'.heap[d]? = some (.cells (dcells { s with a := st.a, b := st.b } X nx ln).toArray 79 (0, 0)) ∧ Chg [d] w w') ?_ (fun w1 h1 => ?_)
        · exact ⟨blk_dset h0.1 1 _, h0.2.setCell (.inl (by simp)) _⟩
        clear cd1 fd
        have cd2 : w1.cell? ⟨d, 2, none⟩ = some (.int .u32 (s.c.toNat : Int)) := blk_cell h1.1 2
        have fd : ∀ j, w1.frozen? ⟨d, j, none⟩ = false := fun j => blk_frozen h1.1 j
        refine list_cutAt 2 ?_
        simp only [List.take_succ_cons, List.take_zero, List.drop_succ_cons, List.drop_zero]
        go_wp2
        refine HeldL.mk ?_
        refine gen_list (fun w' => w'.heap[d]? = some (.cells (dcells { s with a := st.a, b := st.b, c := st.c } X nx ln).toArray 79 (0, 0)) ∧ Chg [d] w w') ?_ (fun w2 h2 => ?_)
        · exact ⟨blk_dset h1.1 2 _, h1.2.setCell (.inl (by simp)) _⟩
        clear cd2 fd
        have cd3 : w2.cell? ⟨d, 3, none⟩ = some (.int .u32 (s.d.toNat : Int)) := blk_cell h2.1 3
        have fd : ∀ j, w2.frozen? ⟨d, j, none⟩ = false := fun j => blk_frozen h2.1 j
        refine list_cutAt 2 ?_
        simp only [List.take_succ_cons, List.take_zero, List.drop_succ_cons, List.drop_zero]
        go_wp2
        refine HeldL.mk ?_
        refine gen_list (fun w' => w'.heap[d]? = some (.cells (dcells { s with a := st.a, b := st.b, c := st.c, d := st.d } X nx ln).toArray 79 (0, 0)) ∧ Chg [d] w w') ?_ (fun w3 h3 => ?_)
        · exact ⟨blk_dset h2.1 3 _, h2.2.setCell (.inl (by simp)) _⟩
        clear cd3 fd
        have cd4 : w3.cell? ⟨d, 4, none⟩ = some (.int .u32 (s.e.toNat : Int)) := blk_cell h3.1 4
        have fd : ∀ j, w3.frozen? ⟨d, j, none⟩ = false := fun j => blk_frozen h3.1 j
        refine list_cutAt 2 ?_
        simp only [List.take_succ_cons, List.take_zero, List.drop_succ_cons, List.drop_zero]
        go_wp2
        refine HeldL.mk ?_
        refine gen_list (fun w' => w'.heap[d]? = some (.cells (dcells { s with a := st.a, b := st.b, c := st.c, d := st.d, e := st.e } X nx ln).toArray 79 (0, 0)) ∧ Chg [d] w w') ?_ (fun w4 h4 => ?_)
        · exact ⟨blk_dset h3.1 4 _, h3.2.setCell (.inl (by simp)) _⟩
        clear cd4 fd
        have cd5 : w4.cell? ⟨d, 5, none⟩ = some (.int .u32 (s.f.toNat : Int)) := blk_cell h4.1 5
        have fd : ∀ j, w4.frozen? ⟨d, j, none⟩ = false := fun j => blk_frozen h4.1 j
        refine list_cutAt 2 ?_
        simp only [List.take_succ_cons, List.take_zero, List.drop_succ_cons, List.drop_zero]
        go_wp2
        refine HeldL.mk ?_
        refine gen_list (fun w' => w'.heap[d]? = some (.cells (dcells { s with a := st.a, b := st.b, c := st.c, d := st.d, e := st.e, f := st.f } X nx ln).toArray 79 (0, 0)) ∧ Chg [d] w w') ?_ (fun w5 h5 => ?_)
        · exact ⟨blk_dset h4.1 5 _, h4.2.setCell (.inl (by simp)) _⟩
        clear cd5 fd
        have cd6 : w5.cell? ⟨d, 6, none⟩ = some (.int .u32 (s.g.toNat : Int)) := blk_cell h5.1 6
        have fd : ∀ j, w5.frozen? ⟨d, j, none⟩ = false := fun j => blk_frozen h5.1 j
        refine list_cutAt 2 ?_
        simp only [List.take_succ_cons, List.take_zero, List.drop_succ_cons, List.drop_zero]
        go_wp2
        refine HeldL.mk ?_
        refine gen_list (fun w' => w'.heap[d]? = some (.cells (dcells { s with a := st.a, b := st.b, c := st.c, d := st.d, e := st.e, f := st.f, g := st.g } X nx ln).toArray 79 (0, 0)) ∧ Chg [d] w w') ?_ (fun w6 h6 => ?_)
        · exact ⟨blk_dset h5.1 6 _, h5.2.setCell (.inl (by simp)) _⟩
        clear cd6 fd
        have cd7 : w6.cell? ⟨d, 7, none⟩ = some (.int .u32 (s.h.toNat : Int)) := blk_cell h6.1 7
        have fd : ∀ j, w6.frozen? ⟨d, j, none⟩ = false := fun j => blk_frozen h6.1 j
        refine list_cutAt 2 ?_
        simp only [List.take_succ_cons, List.take_zero, List.drop_succ_cons, List.drop_zero]
        go_wp2
        refine HeldL.mk ?_
        refine gen_list (fun w' => w'.heap[d]? = some (.cells (dcells st X nx ln).toArray 79 (0, 0)) ∧ Chg [d] w w') ?_ (fun w7 h7 => ?_)
        · exact ⟨blk_dset h6.1 7 _, h6.2.setCell (.inl (by simp)) _⟩
        clear cd7 fd
        go_wp2
        refine Held2.mk ?_
        go_wp2
        go_end0
        refine ⟨rfl, ?_, h7.2⟩
        rw [← hall.out, shaAll_small K st ys (by omega)]
        exact h7.1
end Go.Proofs.YtknoomndofnnmaaDoor
