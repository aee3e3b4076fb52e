/- TLS 1.2: PRF, MasterSecret, ZZPHash. -/
import Derived.Test.YtknoomndofnnmaaPHash
import Derived.Test.YtknoomndofnnmaaConvB
import Derived.Lib.BufferWrite
namespace Go.Proofs.Ytknoomndofnnmaa
open Go Go.RowKit

theorem setRow_spec {w : World} {g : Nat} {t : TypeId} {cur : Array Value} (cs : Array Value) (hg : w.heap[g]? = some (.cells cur t (0, 0))) : (w.setRow g cs).heap[g]? = some (.cells cs t (0, 0)) ∧ Chg [g] w (w.setRow g cs) := by
  have h := Array.getElem?_eq_some_iff.1 hg
  refine ⟨?_, rfl, rfl, rfl, by simp [World.setRow], fun k hk hS => ?_⟩
  · simp only [World.setRow, Array.getElem?_modify, if_true, hg, Option.map_some]
  · simp only [List.mem_singleton] at hS
    simp [World.setRow, Array.getElem?_modify, Ne.symm hS]
/-- copy from a string that fits. -/
theorem run_copy_str {w : World} {g off dLen dCap : Nat} {L : List Value} {t ty : TypeId} (s : ByteArray) (hg : w.heap[g]? = some (.cells L.toArray t (0, 0))) (hle : s.size ≤ dLen) (hfit : off + s.size ≤ L.length) :
    ∃ w', (Builtin.copy_ #[24, 9] ty #[.slice (some ⟨g, off, none⟩) dLen dCap, .string s]).run Try.prog w = .ok (.int .i64 (s.size : Int)) w' ∧
      w'.heap[g]? = some (.cells (L.take off ++ brow (sb s) ++ L.drop (off + s.size)).toArray t (0, 0)) ∧ Chg [g] w w' := by
  have h := Go.Lib.run_copy_row_string (P := Try.prog) w 24 9 ty 5 g off dLen dCap s L.toArray t Try.underlying24 sizeU8 hg hle (by simpa using hfit)
  obtain ⟨h1, h2⟩ := setRow_spec (L.take off ++ brow (sb s) ++ L.drop (off + s.size)).toArray hg
  exact ⟨_, h, h1, h2⟩
theorem Maker.keep {K : List UInt32} {κ : Kd} {B : List Nat} {w0 w1 : World} {F : Value} {mk : Nat → Value} (h : Maker K κ B w0 F mk) (hc : Chg [] w0 w1) : Maker K κ B w1 F mk := h.chg hc (fun _ _ hm => by cases hm)

theorem BS.form {S : List Nat} {w : World} {v : Value} {xs : Bs} (h : BS S w v xs) : ∃ a c, v = .slice a xs.length c := by
  obtain ⟨a, c, hv, _⟩ := h
  exact ⟨a, c, hv⟩
theorem prf_row1 (xs : Bs) (k : Nat) : (brow (List.replicate (xs.length + k) 0)).take 0 ++ brow xs ++ (brow (List.replicate (xs.length + k) 0)).drop (0 + xs.length) = brow (xs ++ List.replicate k 0) := by
  unfold brow
  rw [List.take_zero, List.nil_append, ← List.map_drop, List.drop_replicate, ← List.map_append]
  congr 3
  omega
theorem prf_row2 (xs ys : Bs) (o : Nat) (ho : ys.length ≠ 0 → o = xs.length) : (brow (xs ++ List.replicate ys.length 0)).take o ++ brow (ys.take (min ys.length ys.length)) ++ (brow (xs ++ List.replicate ys.length 0)).drop (o + min ys.length ys.length) = brow (xs ++ ys) := by
  rw [Nat.min_self, List.take_length]
  by_cases h : ys.length = 0
  · obtain rfl : ys = [] := List.eq_nil_of_length_eq_zero h
    simp [brow]
  · obtain rfl := ho h
    unfold brow
    rw [← List.map_take, ← List.map_drop, ← List.map_append, ← List.map_append]
    simp
theorem cut_form (g N k : Nat) (hk : k ≤ N) : ∃ o, cutO (some ⟨g, 0, none⟩) N k = some ⟨g, o, none⟩ ∧ (N - k ≠ 0 → o = k) ∧ o ≤ k := by
  unfold cutO
  split
  · exact ⟨0, rfl, fun h => absurd (show N - k = 0 by omega) h, Nat.zero_le _⟩
  · by_cases h : k = 0
    · subst h
      exact ⟨0, by simp [Addr.add], fun _ => rfl, Nat.le_refl _⟩
    · exact ⟨k, by simp [Addr.add, h], fun _ => rfl, Nat.le_refl _⟩

/-- The label of RFC 7627. -/
def extS : ByteArray := { data := #[101, 120, 116, 101, 110, 100, 101, 100, 32, 109, 97, 115, 116, 101, 114, 32, 115, 101, 99, 114, 101, 116] }
theorem extS_size : extS.size = 22 := rfl
set_option maxRecDepth 100000 in
set_option maxHeartbeats 1000000 in
theorem zzphash_digest (K : List UInt32) (w : World) (F : Value) (B : List Nat) (hM : Maker K none B w F mkP) (key seed : Bs) (kv sv : Value) (hk : key.length ≤ 65536) (hs : seed.length ≤ 65536) (n : Nat) (hn : n ≤ 100000) (hkv : BS [] w kv key) (hsv : BS [] w sv seed) :
    Calls Try.prog 39 #[F, kv, sv, .int .i64 (n : Int)] w (Gives w (phashF (hfK K none) key seed n)) := by
  have hmk := mk_bytes n (by omega)
  have hc1 : Chg [] w (w.alloc (.cells (brow (List.replicate n 0)).toArray 5)) := (Chg.refl [] w).alloc _
  have hlow : w.heap.size ∉ B := fun h => by have := hM.2.2.2.1 _ h; omega
  have hcall := phash_digest K _ F B (hM.keep hc1) key seed kv sv hk hs w.heap.size n hn (heap_alloc_new w _) hlow ((hkv.old (by simp)).chg hc1 (by simp)) ((hsv.old (by simp)).chg hc1 (by simp))
  go_enter Try.func39, Try.ntmps39
  go_wp2_with (go_at_call 64; refine hcall.mono ?_; rintro e w2 ⟨rfl, hr, hc2⟩)
  go_ret
  have hl := phashF_length (hfK_ok K hM.1) key seed n
  exact ⟨_, rfl, own_row hr (by omega) hl.symm, hc1.and hc2 (by simp), fun g hg => by simp [Value.ownBlock] at hg; omega⟩
set_option maxRecDepth 100000 in
set_option maxHeartbeats 2000000 in
theorem prf_digest (K : List UInt32) (w : World) (F : Value) (B : List Nat) (hM : Maker K none B w F mkP) (key seed : Bs) (s : ByteArray) (kv sv : Value) (hk : key.length ≤ 65536) (hs : seed.length ≤ 20000) (hl : s.size ≤ 20000) (n : Nat) (hn : n ≤ 100000) (hkv : BS [] w kv key) (hsv : BS [] w sv seed) :
    Calls Try.prog 47 #[F, kv, .string s, sv, .int .i64 (n : Int)] w (Gives w (phashF (hfK K none) key (sb s ++ seed) n)) := by
  have hok := hfK_ok K hM.1
  obtain ⟨a, c, rfl⟩ := hsv.form
  have hmk1 := mk_bytes (s.size + seed.length) (by omega)
  push_cast at hmk1
  have hmk2 := mk_bytes n (by omega)
  have hc1 : Chg [] w (w.alloc (.cells (brow (List.replicate (s.size + seed.length) 0)).toArray 5)) := (Chg.refl [] w).alloc _
  have hrow1 := heap_alloc_new w (.cells (brow (List.replicate (s.size + seed.length) 0)).toArray 5)
  obtain ⟨w2, hcp2, hr2, hc2⟩ := run_copy_str (ty := 3) (off := 0) (dLen := s.size + seed.length) (dCap := s.size + seed.length) s hrow1 (by omega) (by rw [brow_length, List.length_replicate]; omega)
  have hrow2 : w2.heap[w.heap.size]? = some (.cells (brow (sb s ++ List.replicate seed.length 0)).toArray 5 (0, 0)) := by
    rw [← prf_row1 (sb s) seed.length, sb_length]
    exact hr2
  have hcw2 : Chg [] w w2 := hc1.and hc2 (by simp)
  obtain ⟨o, ho1, ho2, ho3⟩ := cut_form w.heap.size (s.size + seed.length) s.size (by omega)
  rw [Nat.add_sub_cancel_left] at ho2
  have hcut : ∀ W, (Instr.slice 24 (.slice (some ⟨w.heap.size, 0, none⟩) (s.size + seed.length) (s.size + seed.length)) (some (.int .i64 (s.size : Int))) none none).run Try.prog W = .ok (.slice (some ⟨w.heap.size, o, none⟩) seed.length seed.length) W := fun W => by
    have := run_cut (some ⟨w.heap.size, 0, none⟩) (s.size + seed.length) (s.size + seed.length) s.size (by omega) W
    rw [ho1, Nat.add_sub_cancel_left] at this
    exact this
  obtain ⟨w3, hcp3, hr3, hc3⟩ := run_copy_bytes (ty := 3) (off := o) (dLen := seed.length) (dCap := seed.length) hrow2 (by rw [brow_length, List.length_append, List.length_replicate, sb_length]; omega) (hsv.keep hcw2)
  rw [prf_row2 (sb s) seed o (by rw [sb_length]; exact ho2)] at hr3
  have hcw3 : Chg [] w w3 := hcw2.and hc3 (by simp)
  have hc4 : Chg [] w3 (w3.alloc (.cells (brow (List.replicate n 0)).toArray 5)) := (Chg.refl [] w3).alloc _
  have hcw4 := hcw3.trans hc4
  have hlow : w3.heap.size ∉ B := fun h => by have := hM.2.2.2.1 _ h; have := hcw3.size; omega
  have hw3 := hcw3.size
  have hne : w.heap.size ≠ w3.heap.size := by have := blk_lt hr3; omega
  have hbl : BS [w3.heap.size] (w3.alloc (.cells (brow (List.replicate n 0)).toArray 5)) (.slice (some ⟨w.heap.size, 0, none⟩) (s.size + seed.length) (s.size + seed.length)) (sb s ++ seed) :=
    (own_row (blk_alloc hr3 _) (by rw [List.length_append, sb_length]; omega) (by rw [List.length_append, sb_length])).bs (fun g hg => by simp [Value.ownBlock] at hg; simp; omega)
  have hcall := phash_digest K _ F B (hM.keep hcw4) key (sb s ++ seed) kv _ hk (by rw [List.length_append, sb_length]; omega) w3.heap.size n hn (heap_alloc_new w3 _) hlow ((hkv.old (by simp; omega)).chg hcw4 (by simp)) hbl
  have HC := Lib.hid hcall
  have Hc4 := Lib.hid hcw4
  clear hcall hcw4 hbl hlow hc4 hcw2 hc1 hc2 hc3 hr2 hrow1 hrow2 hM hkv hsv ho1 ho2 ho3 hne
  go_enter Try.func47, Try.ntmps47
  go_wp2_with (go_at_call 64; refine HC.out.mono ?_; rintro e w5 ⟨rfl, hr, hc5⟩)
  go_ret
  exact ⟨_, rfl, own_row hr (by rw [phashF_length hok]; omega) (phashF_length hok _ _ _).symm, Hc4.out.and hc5 (by simp; omega), fun g hg => by simp [Value.ownBlock] at hg; omega⟩
set_option maxRecDepth 100000 in
theorem master_digest (K : List UInt32) (w : World) (F : Value) (B : List Nat) (hM : Maker K none B w F mkP) (key seed : Bs) (kv sv : Value) (hk : key.length ≤ 65536) (hs : seed.length ≤ 20000) (hkv : BS [] w kv key) (hsv : BS [] w sv seed) :
    Calls Try.prog 49 #[F, kv, sv] w (Gives w (phashF (hfK K none) key (sb extS ++ seed) 48)) := by
  have hcall := prf_digest K w F B hM key seed extS kv sv hk hs (by rw [extS_size]; omega) 48 (by omega) hkv hsv
  go_enter Try.func49, Try.ntmps49
  go_wp2_with (go_at_call 47; refine hcall.mono ?_; rintro e w2 ⟨u, rfl, f⟩)
  go_ret
  exact ⟨_, rfl, f⟩
set_option maxRecDepth 100000 in
set_option maxHeartbeats 1000000 in
theorem zzphash_own (K : List UInt32) (x : Nat × Nat) (w : World) (F : Value) (B : List Nat) (hM : Maker K (some x) B w F mkP) (key seed : Bs) (kv sv : Value) (hk : key.length ≤ 65536) (hs : seed.length ≤ 65536) (n : Nat) (hn : n ≤ 100000) (hkv : BS [] w kv key) (hsv : BS [] w sv seed) :
    Calls Try.prog 42 #[F, kv, sv, .int .i64 (n : Int)] w (Gives w (phashF (hfK K (some x)) key seed n)) := by
  have hmk := mk_bytes n (by omega)
  have hc1 : Chg [] w (w.alloc (.cells (brow (List.replicate n 0)).toArray 5)) := (Chg.refl [] w).alloc _
  have hlow : w.heap.size ∉ B := fun h => by have := hM.2.2.2.1 _ h; omega
  have hcall := phash_own K x _ F B (hM.keep hc1) key seed kv sv hk hs w.heap.size n hn (heap_alloc_new w _) hlow ((hkv.old (by simp)).chg hc1 (by simp)) ((hsv.old (by simp)).chg hc1 (by simp))
  go_enter Try.func42, Try.ntmps42
  go_wp2_with (go_at_call 66; refine hcall.mono ?_; rintro e w2 ⟨rfl, hr, hc2⟩)
  go_ret
  have hl := phashF_length (hfK_ok K hM.1) key seed n
  exact ⟨_, rfl, own_row hr (by omega) hl.symm, hc1.and hc2 (by simp), fun g hg => by simp [Value.ownBlock] at hg; omega⟩
set_option maxRecDepth 100000 in
set_option maxHeartbeats 2000000 in
theorem prf_own (K : List UInt32) (x : Nat × Nat) (w : World) (F : Value) (B : List Nat) (hM : Maker K (some x) B w F mkP) (key seed : Bs) (s : ByteArray) (kv sv : Value) (hk : key.length ≤ 65536) (hs : seed.length ≤ 20000) (hl : s.size ≤ 20000) (n : Nat) (hn : n ≤ 100000) (hkv : BS [] w kv key) (hsv : BS [] w sv seed) :
    Calls Try.prog 48 #[F, kv, .string s, sv, .int .i64 (n : Int)] w (Gives w (phashF (hfK K (some x)) key (sb s ++ seed) n)) := by
  have hok := hfK_ok K hM.1
  obtain ⟨a, c, rfl⟩ := hsv.form
  have hmk1 := mk_bytes (s.size + seed.length) (by omega)
  push_cast at hmk1
  have hmk2 := mk_bytes n (by omega)
  have hc1 : Chg [] w (w.alloc (.cells (brow (List.replicate (s.size + seed.length) 0)).toArray 5)) := (Chg.refl [] w).alloc _
  have hrow1 := heap_alloc_new w (.cells (brow (List.replicate (s.size + seed.length) 0)).toArray 5)
  obtain ⟨w2, hcp2, hr2, hc2⟩ := run_copy_str (ty := 3) (off := 0) (dLen := s.size + seed.length) (dCap := s.size + seed.length) s hrow1 (by omega) (by rw [brow_length, List.length_replicate]; omega)
  have hrow2 : w2.heap[w.heap.size]? = some (.cells (brow (sb s ++ List.replicate seed.length 0)).toArray 5 (0, 0)) := by
    rw [← prf_row1 (sb s) seed.length, sb_length]
    exact hr2
  have hcw2 : Chg [] w w2 := hc1.and hc2 (by simp)
  obtain ⟨o, ho1, ho2, ho3⟩ := cut_form w.heap.size (s.size + seed.length) s.size (by omega)
  rw [Nat.add_sub_cancel_left] at ho2
  have hcut : ∀ W, (Instr.slice 24 (.slice (some ⟨w.heap.size, 0, none⟩) (s.size + seed.length) (s.size + seed.length)) (some (.int .i64 (s.size : Int))) none none).run Try.prog W = .ok (.slice (some ⟨w.heap.size, o, none⟩) seed.length seed.length) W := fun W => by
    have := run_cut (some ⟨w.heap.size, 0, none⟩) (s.size + seed.length) (s.size + seed.length) s.size (by omega) W
    rw [ho1, Nat.add_sub_cancel_left] at this
    exact this
  obtain ⟨w3, hcp3, hr3, hc3⟩ := run_copy_bytes (ty := 3) (off := o) (dLen := seed.length) (dCap := seed.length) hrow2 (by rw [brow_length, List.length_append, List.length_replicate, sb_length]; omega) (hsv.keep hcw2)
  rw [prf_row2 (sb s) seed o (by rw [sb_length]; exact ho2)] at hr3
  have hcw3 : Chg [] w w3 := hcw2.and hc3 (by simp)
  have hc4 : Chg [] w3 (w3.alloc (.cells (brow (List.replicate n 0)).toArray 5)) := (Chg.refl [] w3).alloc _
  have hcw4 := hcw3.trans hc4
  have hlow : w3.heap.size ∉ B := fun h => by have := hM.2.2.2.1 _ h; have := hcw3.size; omega
  have hw3 := hcw3.size
  have hne : w.heap.size ≠ w3.heap.size := by have := blk_lt hr3; omega
  have hbl : BS [w3.heap.size] (w3.alloc (.cells (brow (List.replicate n 0)).toArray 5)) (.slice (some ⟨w.heap.size, 0, none⟩) (s.size + seed.length) (s.size + seed.length)) (sb s ++ seed) :=
    (own_row (blk_alloc hr3 _) (by rw [List.length_append, sb_length]; omega) (by rw [List.length_append, sb_length])).bs (fun g hg => by simp [Value.ownBlock] at hg; simp; omega)
  have hcall := phash_own K x _ F B (hM.keep hcw4) key (sb s ++ seed) kv _ hk (by rw [List.length_append, sb_length]; omega) w3.heap.size n hn (heap_alloc_new w3 _) hlow ((hkv.old (by simp; omega)).chg hcw4 (by simp)) hbl
  have HC := Lib.hid hcall
  have Hc4 := Lib.hid hcw4
  clear hcall hcw4 hbl hlow hc4 hcw2 hc1 hc2 hc3 hr2 hrow1 hrow2 hM hkv hsv ho1 ho2 ho3 hne
  go_enter Try.func48, Try.ntmps48
  go_wp2_with (go_at_call 66; refine HC.out.mono ?_; rintro e w5 ⟨rfl, hr, hc5⟩)
  go_ret
  exact ⟨_, rfl, own_row hr (by rw [phashF_length hok]; omega) (phashF_length hok _ _ _).symm, Hc4.out.and hc5 (by simp; omega), fun g hg => by simp [Value.ownBlock] at hg; omega⟩
set_option maxRecDepth 100000 in
theorem master_own (K : List UInt32) (x : Nat × Nat) (w : World) (F : Value) (B : List Nat) (hM : Maker K (some x) B w F mkP) (key seed : Bs) (kv sv : Value) (hk : key.length ≤ 65536) (hs : seed.length ≤ 20000) (hkv : BS [] w kv key) (hsv : BS [] w sv seed) :
    Calls Try.prog 50 #[F, kv, sv] w (Gives w (phashF (hfK K (some x)) key (sb extS ++ seed) 48)) := by
  have hcall := prf_own K x w F B hM key seed extS kv sv hk hs (by rw [extS_size]; omega) 48 (by omega) hkv hsv
  go_enter Try.func50, Try.ntmps50
  go_wp2_with (go_at_call 48; refine hcall.mono ?_; rintro e w2 ⟨u, rfl, f⟩)
  go_ret
  exact ⟨_, rfl, f⟩
end Go.Proofs.Ytknoomndofnnmaa
