/- TLS 1.2: P_hash. -/
import Derived.Test.YtknoomndofnnmaaMacD
import Derived.Test.YtknoomndofnnmaaKit
namespace Go.Proofs.Ytknoomndofnnmaa
open Go Go.RowKit

/-- A slice read in a later world. -/
theorem BS.to {S T S' : List Nat} {w w' : World} {v : Value} {xs : Bs} (h : BS S w v xs) (hc : Chg S' w w') (h1 : ∀ k ∈ S', k ∈ S ∨ w.heap.size ≤ k) (h2 : ∀ k ∈ T, k ∈ S ∨ w.heap.size ≤ k) : BS T w' v xs := by
  have e : BS (S' ++ T) w v xs := h.old (fun k hk => by rcases List.mem_append.1 hk with h | h; exact h1 k h; exact h2 k h)
  exact (e.chg hc (fun k hk => List.mem_append_left _ hk)).old (fun k hk => .inl (List.mem_append_right _ hk))
/-- What the loop of P_hash knows. -/
structure PH (K : List UInt32) (κ : Kd) (w wr : World) (g n : Nat) (key seed : Bs) (h k off o : Nat) (F : List Nat) (d : Bs) (a : Value) : Prop where
  le : off ≤ n
  num : off = k * (hfK K κ).sz ∨ (off = n ∧ n ≤ k * (hfK K κ).sz)
  place : off < n → o = off
  mac : MacO K κ wr F h key d
  dl : d.length ≤ 70000
  fresh : ∀ x ∈ F, w.heap.size ≤ x
  own : Own wr a (phA (hfK K κ) key seed (k + 1))
  afr : ∀ x, a.ownBlock = some x → w.heap.size ≤ x ∧ x ∉ F
  row : wr.heap[g]? = some (.cells (brow ((phOut (hfK K κ) key seed k).take off ++ List.replicate (n - off) 0)).toArray 5 (0, 0))
  chg : Chg [g] w wr
theorem phA_length {H : HF} (hok : H.Ok) (key seed : Bs) (k : Nat) : (phA H key seed (k + 1)).length = H.sz := mac_length hok key _
theorem ph_row {H : HF} (hok : H.Ok) (key seed : Bs) (n k : Nat) (h : k * H.sz < n) :
    (brow ((phOut H key seed k).take (k * H.sz) ++ List.replicate (n - k * H.sz) 0)).take (k * H.sz) ++ brow ((mac H key (phA H key seed (k + 1) ++ seed)).take (min H.sz (n - k * H.sz))) ++ (brow ((phOut H key seed k).take (k * H.sz) ++ List.replicate (n - k * H.sz) 0)).drop (k * H.sz + min H.sz (n - k * H.sz))
      = brow ((phOut H key seed (k + 1)).take (k * H.sz + min H.sz (n - k * H.sz)) ++ List.replicate (n - (k * H.sz + min H.sz (n - k * H.sz))) 0) := by
  have hl := phOut_length hok key seed k
  have hm := mac_length hok key (phA H key seed (k + 1) ++ seed)
  have e1 : (phOut H key seed k).take (k * H.sz) = phOut H key seed k := List.take_of_length_le (by omega)
  have e2 : (phOut H key seed (k + 1)).take (k * H.sz + min H.sz (n - k * H.sz)) = phOut H key seed k ++ (mac H key (phA H key seed (k + 1) ++ seed)).take (min H.sz (n - k * H.sz)) := by
    show (phOut H key seed k ++ mac H key (phA H key seed (k + 1) ++ seed)).take _ = _
    rw [List.take_append, hl, Nat.add_sub_cancel_left, List.take_of_length_le (by omega)]
  rw [e1, e2]
  unfold brow
  rw [← List.map_take, ← List.map_drop, ← List.map_append, ← List.map_append]
  congr 1
  rw [List.take_append_of_le_length (by omega), List.take_of_length_le (by omega), List.drop_append, List.drop_of_length_le (by omega), List.nil_append, hl, List.drop_replicate]
  congr 2
  omega
theorem ph_zero (H : HF) (key seed : Bs) (n : Nat) : (phOut H key seed 0).take 0 ++ List.replicate (n - 0) (0 : UInt8) = List.replicate n 0 := by simp [phOut]

set_option maxRecDepth 100000 in
set_option maxHeartbeats 4000000 in
theorem phash_digest (K : List UInt32) (w : World) (F : Value) (B : List Nat) (hM : Maker K none B w F mkP) (key seed : Bs) (kv sv : Value) (hk : key.length ≤ 65536) (hs : seed.length ≤ 65536) (g n : Nat) (hn : n ≤ 100000)
    (hg : w.heap[g]? = some (.cells (brow (List.replicate n 0)).toArray 5 (0, 0))) (hgB : g ∉ B) (hkv : BS [g] w kv key) (hsv : BS [g] w sv seed) :
    Calls Try.prog 64 #[F, .slice (some ⟨g, 0, none⟩) n n, kv, sv] w fun e w' => e = .returned (.tuple #[]) ∧ w'.heap[g]? = some (.cells (brow (phashF (hfK K none) key seed n)).toArray 5 (0, 0)) ∧ Chg [g] w w' := by
  have hK := hM.2.1
  have hok := hfK_ok K hM.1
  have hg0 : 0 ≠ g := fun e => hgB (e ▸ hM.2.2.1)
  have hgl := blk_lt hg
  go_enter Try.func64, Try.ntmps64
  go_upto_region 1 with (go_at_call 80; refine (newo_digest K w F B hM key kv hk hkv.any).mono ?_; rintro e w1 ⟨h, F1, rfl, hm1, hc1, hf1⟩)
  have hsv1 : BS F1 w1 sv seed := hsv.to hc1 (by simp) (fun k hk => .inr (hf1 k hk))
  go_upto_region 2 with (go_at_call 81; refine (maco_write K none w1 F1 h key [] (hK.chg hc1 (by simp)) hm1 (by simp) sv seed hs hsv1).mono ?_; rintro e w2 ⟨rfl, hm2, hc2⟩)
  have hK2 := (hK.chg hc1 (by simp)).chg hc2 hm1.no0
  go_wp2_with (go_at_call 82; refine (maco_sum K none w2 F1 h key _ hK2 hm2 (by simp; omega) (.slice none 0 0) (Own.nil _) (by simp [Value.ownBlock])).mono ?_; rintro e w3 ⟨a, rfl, ha, hm3, hc3, hfa⟩)
  have p0 : PH K none w w3 g n key seed h 0 0 0 F1 seed a := by
    have hs1 := hc1.size
    have hs2 := hc2.size
    have hfa' : ∀ x, a.ownBlock = some x → w2.heap.size ≤ x := fun x hx => by
      rcases hfa x hx with h | h
      · simp [Value.ownBlock] at h
      · exact h
    have hc : Chg [] w w3 := (hc1.and hc2 (fun i hi => .inr (hf1 i hi))).and hc3 (fun i hi => by simp [Value.ownBlock] at hi; exact .inr (hf1 i hi))
    refine ⟨Nat.zero_le _, .inl (by simp), fun _ => rfl, by simpa using hm3, by omega, hf1, ?_, fun x hx => ⟨by have := hfa' x hx; omega, fun hm => ?_⟩, ?_, hc.mono (by simp)⟩
    · rw [List.nil_append] at ha
      exact ha
    · have := hm2.lt x hm
      have := hfa' x hx
      omega
    · rw [ph_zero]
      exact hc.row hg (by simp)
  have hlow : ∀ x ∈ B, x < w.heap.size := hM.2.2.2.1
  clear hm1 hc1 hf1 hsv1 hm2 hc2 hK2 ha hm3 hc3 hfa hg hM hkv
  go_loopw [1, 9] (fun r a wr => ∃ (k off o : Nat) (F : List Nat) (d : Bs), r = .slice (some ⟨g, o, none⟩) (n - off) (n - off) ∧ PH K none w wr g n key seed h k off o F d a) (fun r _ _ => slLen r)
  case atStart => exact ⟨0, 0, 0, F1, seed, rfl, p0⟩
  case round =>
    clear p0
    obtain ⟨k, off, o, Fm, d, rfl, p⟩ := hrel
    have hKr : KAt K wr := hK.chg p.chg (by simpa using hg0)
    have hgn : ∀ F' : List Nat, (∀ x ∈ F', w.heap.size ≤ x) → g ∉ F' := fun F' h hm => by have := h g hm; omega
    obtain ⟨m, hm⟩ : ∃ m, m = n - off := ⟨_, rfl⟩
    rw [← hm]
    by_cases hlt : off < n
    · obtain rfl : o = off := p.place hlt
      have hnum : o = k * (hfK K none).sz := by rcases p.num with h | h; exact h; omega
      have hpos : (0 : Int) < (m : Int) := by omega
      have hmn : o + m = n := by omega
      have Hm := Lib.hid hm
      have Hnum := Lib.hid hnum
      clear hm hnum hmn
      have hal := phA_length hok key seed k
      have hsz := hok.sz32
      have hsp := hok.pos
      obtain ⟨sz, hszd⟩ : ∃ sz, sz = (hfK K none).sz := ⟨_, rfl⟩
      rw [← hszd] at hal hsz hsp
      have Hsz := Lib.hid hszd
      obtain ⟨A, hA⟩ : ∃ A, A = phA (hfK K none) key seed (k + 1) := ⟨_, rfl⟩
      rw [← hA] at hal
      have pown := p.own
      rw [← hA] at pown
      have HA := Lib.hid hA
      clear hszd hA
      go_upto_region 5 with (go_at_call 83; refine (maco_reset K none wr Fm h key d hKr p.mac).mono ?_; rintro e w1 ⟨rfl, F1, hm1, hc1, hF1⟩)
      have hFw1 : ∀ x ∈ F1, w.heap.size ≤ x := fun x hx => by
        rcases hF1 x hx with h | h
        · exact p.fresh x h
        · have := p.chg.size; omega
      have ha1 := pown.chg hc1 (fun x hx => (p.afr x hx).2)
      have haF1 : ∀ x, u9.ownBlock = some x → x ∉ F1 := fun x hx hm => by
        rcases hF1 x hm with h | h
        · exact (p.afr x hx).2 h
        · have := pown.lt x hx; omega
      have hcw1 : Chg [g] w w1 := p.chg.and hc1 (fun i hi => .inr (p.fresh i hi))
      have hK1 := hK.chg hcw1 (by simpa using hg0)
      have hr1 := hc1.row p.row (hgn Fm p.fresh)
      have haw : ∀ x, u9.ownBlock = some x → w.heap.size ≤ x := fun x hx => (p.afr x hx).1
      clear p pown hF1
      go_upto_region 6 with (go_at_call 81; refine (maco_write K none w1 F1 h key [] hK1 hm1 (by simp) u9 A (by omega) (ha1.bs haF1)).mono ?_; rintro e w2 ⟨rfl, hm2, hc2⟩)
      rw [List.nil_append] at hm2
      have hcw2 : Chg [g] w w2 := hcw1.and hc2 (fun i hi => .inr (hFw1 i hi))
      have hK2 := hK.chg hcw2 (by simpa using hg0)
      have ha2 := ha1.chg hc2 haF1
      have hr2 := hc2.row hr1 (hgn F1 hFw1)
      have hsv2 : BS F1 w2 sv seed := hsv.to hcw2 (fun k hk => .inl hk) (fun k hk => .inr (hFw1 k hk))
      go_upto_region 7 with (go_at_call 81; refine (maco_write K none w2 F1 h key A hK2 hm2 (by omega) sv seed hs hsv2).mono ?_; rintro e w3 ⟨rfl, hm3, hc3⟩)
      have hcw3 : Chg [g] w w3 := hcw2.and hc3 (fun i hi => .inr (hFw1 i hi))
      have hK3 := hK.chg hcw3 (by simpa using hg0)
      have ha3 := ha2.chg hc3 haF1
      have hr3 := hc3.row hr2 (hgn F1 hFw1)
      have hAS : (A ++ seed).length ≤ 70000 := by simp; omega
      go_upto_region 8 with (go_at_call 82; refine (maco_sum K none w3 F1 h key (A ++ seed) hK3 hm3 (by omega) (.slice none 0 0) (Own.nil _) (by simp [Value.ownBlock])).mono ?_; rintro e w4 ⟨b, rfl, hb, hm4, hc4', hfb⟩)
      have hc4 : Chg F1 w3 w4 := hc4'.mono (fun k hk _ => by simpa [Value.ownBlock] using hk)
      have hcw4 : Chg [g] w w4 := hcw3.and hc4 (fun i hi => .inr (hFw1 i hi))
      have ha4 := ha3.chg hc4 haF1
      have hr4 := hc4.row hr3 (hgn F1 hFw1)
      have hbl : (mac (hfK K none) key (A ++ seed)).length = sz := by rw [mac_length hok]; exact Hsz.out.symm
      have hbb := hb.bs (S := []) (by simp)
      obtain ⟨Bb, hBb⟩ : ∃ Bb, Bb = mac (hfK K none) key (A ++ seed) := ⟨_, rfl⟩
      rw [← hBb] at hbl hbb
      have HBb := Lib.hid hBb
      obtain ⟨L, hL⟩ : ∃ L, L = brow ((phOut (hfK K none) key seed k).take o ++ List.replicate (n - o) 0) := ⟨_, rfl⟩
      have hLl : o + m ≤ L.length := by
        rw [hL, brow_length, List.length_append, List.length_replicate, List.length_take, phOut_length hok, ← Hnum.out, Nat.min_self, Hm.out]
        omega
      rw [← hL] at hr4
      have HL := Lib.hid hL
      clear hBb hL hm1 hc1 hm2 hc2 hm3 hc3 hc4' hfb hr1 hr2 hr3 ha1 ha2 ha3 hK1 hK2 hK3 hb hsv2 hcw1 hcw2 hcw3
      obtain ⟨w5, hcp, hr5, hc5⟩ := run_copy_bytes (ty := 3) (off := o) (dLen := m) (dCap := m) hr4 hLl hbb
      obtain ⟨q, hq⟩ : ∃ q, q = min Bb.length m := ⟨_, rfl⟩
      rw [← hq] at hr5 hcp
      rw [hbl] at hq
      have hqm : q ≤ m := by omega
      have Hq := Lib.hid hq
      clear hq
      go_upto_region 9 with fail
      clear hcp
      have hcut : ∀ W, (Instr.slice 24 (.slice (some ⟨g, o, none⟩) m m) (some (.int .i64 (q : Int))) none none).run Try.prog W = .ok (.slice (cutO (some ⟨g, o, none⟩) m q) (m - q) (m - q)) W := fun W => run_cut _ m m q hqm W
      obtain ⟨nx, hnx⟩ : ∃ nx, nx = cutO (some ⟨g, o, none⟩) m q := ⟨_, rfl⟩
      rw [← hnx] at hcut
      have Hnx := Lib.hid hnx
      clear hbl hnx
      go_upto_region 10 with fail
      have hcw5 : Chg [g] w w5 := hcw4.trans hc5
      have hag : ∀ x, u9.ownBlock = some x → x ∉ [g] := fun x hx hm => by have := haw x hx; simp at hm; omega
      have ha5 := ha4.chg hc5 hag
      have hm5 := hm4.chg hc5 (fun x hx hm => by have := hFw1 x hx; simp at hm; omega)
      have hK5 := hK.chg hcw5 (by simpa using hg0)
      clear hcut hr4 hc5 ha4 hm4 hc4 hbb hcw4
      go_upto_region 11 with (go_at_call 83; refine (maco_reset K none w5 F1 h key _ hK5 hm5).mono ?_; rintro e w6 ⟨rfl, F2, hm6, hc6, hF2⟩)
      have hFw2 : ∀ x ∈ F2, w.heap.size ≤ x := fun x hx => by
        rcases hF2 x hx with h | h
        · exact hFw1 x h
        · have := hcw5.size; omega
      have haF2 : ∀ x, u9.ownBlock = some x → x ∉ F2 := fun x hx hm => by
        rcases hF2 x hm with h | h
        · exact haF1 x hx h
        · have := ha5.lt x hx; omega
      have ha6 := ha5.chg hc6 haF1
      have hcw6 : Chg [g] w w6 := hcw5.and hc6 (fun i hi => .inr (hFw1 i hi))
      have hK6 := hK.chg hcw6 (by simpa using hg0)
      have hr6 := hc6.row hr5 (hgn F1 hFw1)
      go_upto_region 12 with (go_at_call 81; refine (maco_write K none w6 F2 h key [] hK6 hm6 (by simp) u9 A (by omega) (ha6.bs haF2)).mono ?_; rintro e w7 ⟨rfl, hm7, hc7⟩)
      rw [List.nil_append] at hm7
      have hcw7 : Chg [g] w w7 := hcw6.and hc7 (fun i hi => .inr (hFw2 i hi))
      have hK7 := hK.chg hcw7 (by simpa using hg0)
      have hr7 := hc7.row hr6 (hgn F2 hFw2)
      go_wp2_with (go_at_call 82; refine (maco_sum K none w7 F2 h key A hK7 hm7 (by omega) (.slice none 0 0) (Own.nil _) (by simp [Value.ownBlock])).mono ?_; rintro e w8 ⟨a', rfl, ha8, hm8, hc8', hfa8⟩)
      have hc8 : Chg F2 w7 w8 := hc8'.mono (fun k hk _ => by simpa [Value.ownBlock] using hk)
      have hr8 := hc8.row hr7 (hgn F2 hFw2)
      have hcw8 : Chg [g] w w8 := hcw7.and hc8 (fun i hi => .inr (hFw2 i hi))
      have hm7l := hm7.lt
      have hw7 := hcw7.size
      clear hc6 hF2 ha5 ha6 hK5 hK6 hK7 hm5 hm6 hm7 hc7 hc8' hr5 hr6 hr7 hcw5 hcw6 hcw7 hK hKr hsv
      go_roundw
      case rel =>
        have hm0 := Hm.out
        have hn0 := Hnum.out
        have hq0 := Hq.out
        have hz0 := Hsz.out
        have hmul : (k + 1) * (hfK K none).sz = k * (hfK K none).sz + (hfK K none).sz := by rw [Nat.add_mul, Nat.one_mul]
        refine ⟨k + 1, o + q, if m = q then o else o + q, F2, A, ?_, ?_, ?_, ?_, hm8, by omega, hFw2, ?_, ?_, ?_, hcw8⟩
        · rw [Hnx.out, show n - (o + q) = m - q by omega]
          unfold cutO
          by_cases e : m = q
          · rw [if_pos e, if_pos e]
          · rw [if_neg e, if_neg e]
            have hq1 : ¬ q = 0 := by omega
            simp [Addr.add, hq1]
        · omega
        · rw [hmul]; omega
        · intro hlt2
          rw [if_neg (by omega)]
        · have e : phA (hfK K none) key seed (k + 1 + 1) = mac (hfK K none) key A := by rw [HA.out]; rfl
          rw [e]
          exact ha8
        · intro x hx
          rcases hfa8 x hx with h | h
          · simp [Value.ownBlock] at h
          · exact ⟨by omega, fun hm => by have := hm7l x hm; omega⟩
        · have e := ph_row hok key seed n k (by rw [← hn0]; exact hlt)
          rw [← hn0, ← hz0, ← hm0, ← HA.out, ← HBb.out, ← hq0] at e
          rw [HL.out, HBb.out] at hr8
          rw [hm0] at e
          rw [← HBb.out] at hr8
          rw [e] at hr8
          exact hr8
      case measure =>
        have hq0 := Hq.out
        simp [slLen]
        omega
    · have hz : m = 0 := by omega
      have hpos : ¬ (0 : Int) < (m : Int) := by omega
      have Hz := Lib.hid hz
      clear hm hz
      go_wp2
      go_end0
      have hoff : off = n := by have := p.le; omega
      have hr := p.row
      rw [hoff, Nat.sub_self, List.replicate_zero, List.append_nil, phashF_of hok key seed n k (by rcases p.num with h | h; omega; exact h.2)] at hr
      exact ⟨rfl, hr, p.chg⟩
set_option maxRecDepth 100000 in
set_option maxHeartbeats 4000000 in
theorem phash_own (K : List UInt32) (x : Nat × Nat) (w : World) (F : Value) (B : List Nat) (hM : Maker K (some x) B w F mkP) (key seed : Bs) (kv sv : Value) (hk : key.length ≤ 65536) (hs : seed.length ≤ 65536) (g n : Nat) (hn : n ≤ 100000)
    (hg : w.heap[g]? = some (.cells (brow (List.replicate n 0)).toArray 5 (0, 0))) (hgB : g ∉ B) (hkv : BS [g] w kv key) (hsv : BS [g] w sv seed) :
    Calls Try.prog 66 #[F, .slice (some ⟨g, 0, none⟩) n n, kv, sv] w fun e w' => e = .returned (.tuple #[]) ∧ w'.heap[g]? = some (.cells (brow (phashF (hfK K (some x)) key seed n)).toArray 5 (0, 0)) ∧ Chg [g] w w' := by
  have hK := hM.2.1
  have hok := hfK_ok K hM.1
  have hg0 : 0 ≠ g := fun e => hgB (e ▸ hM.2.2.1)
  have hgl := blk_lt hg
  go_enter Try.func66, Try.ntmps66
  go_upto_region 1 with (go_at_call 84; refine (newo_own K x w F B hM key kv hk hkv.any).mono ?_; rintro e w1 ⟨h, F1, rfl, hm1, hc1, hf1⟩)
  have hsv1 : BS F1 w1 sv seed := hsv.to hc1 (by simp) (fun k hk => .inr (hf1 k hk))
  go_upto_region 2 with (go_at_call 81; refine (maco_write K (some x) w1 F1 h key [] (hK.chg hc1 (by simp)) hm1 (by simp) sv seed hs hsv1).mono ?_; rintro e w2 ⟨rfl, hm2, hc2⟩)
  have hK2 := (hK.chg hc1 (by simp)).chg hc2 hm1.no0
  go_wp2_with (go_at_call 82; refine (maco_sum K (some x) w2 F1 h key _ hK2 hm2 (by simp; omega) (.slice none 0 0) (Own.nil _) (by simp [Value.ownBlock])).mono ?_; rintro e w3 ⟨a, rfl, ha, hm3, hc3, hfa⟩)
  have p0 : PH K (some x) w w3 g n key seed h 0 0 0 F1 seed a := by
    have hs1 := hc1.size
    have hs2 := hc2.size
    have hfa' : ∀ x, a.ownBlock = some x → w2.heap.size ≤ x := fun x hx => by
      rcases hfa x hx with h | h
      · simp [Value.ownBlock] at h
      · exact h
    have hc : Chg [] w w3 := (hc1.and hc2 (fun i hi => .inr (hf1 i hi))).and hc3 (fun i hi => by simp [Value.ownBlock] at hi; exact .inr (hf1 i hi))
    refine ⟨Nat.zero_le _, .inl (by simp), fun _ => rfl, by simpa using hm3, by omega, hf1, ?_, fun x hx => ⟨by have := hfa' x hx; omega, fun hm => ?_⟩, ?_, hc.mono (by simp)⟩
    · rw [List.nil_append] at ha
      exact ha
    · have := hm2.lt x hm
      have := hfa' x hx
      omega
    · rw [ph_zero]
      exact hc.row hg (by simp)
  have hlow : ∀ x ∈ B, x < w.heap.size := hM.2.2.2.1
  clear hm1 hc1 hf1 hsv1 hm2 hc2 hK2 ha hm3 hc3 hfa hg hM hkv
  go_loopw [1, 9] (fun r a wr => ∃ (k off o : Nat) (F : List Nat) (d : Bs), r = .slice (some ⟨g, o, none⟩) (n - off) (n - off) ∧ PH K (some x) w wr g n key seed h k off o F d a) (fun r _ _ => slLen r)
  case atStart => exact ⟨0, 0, 0, F1, seed, rfl, p0⟩
  case round =>
    clear p0
    obtain ⟨k, off, o, Fm, d, rfl, p⟩ := hrel
    have hKr : KAt K wr := hK.chg p.chg (by simpa using hg0)
    have hgn : ∀ F' : List Nat, (∀ x ∈ F', w.heap.size ≤ x) → g ∉ F' := fun F' h hm => by have := h g hm; omega
    obtain ⟨m, hm⟩ : ∃ m, m = n - off := ⟨_, rfl⟩
    rw [← hm]
    by_cases hlt : off < n
    · obtain rfl : o = off := p.place hlt
      have hnum : o = k * (hfK K (some x)).sz := by rcases p.num with h | h; exact h; omega
      have hpos : (0 : Int) < (m : Int) := by omega
      have hmn : o + m = n := by omega
      have Hm := Lib.hid hm
      have Hnum := Lib.hid hnum
      clear hm hnum hmn
      have hal := phA_length hok key seed k
      have hsz := hok.sz32
      have hsp := hok.pos
      obtain ⟨sz, hszd⟩ : ∃ sz, sz = (hfK K (some x)).sz := ⟨_, rfl⟩
      rw [← hszd] at hal hsz hsp
      have Hsz := Lib.hid hszd
      obtain ⟨A, hA⟩ : ∃ A, A = phA (hfK K (some x)) key seed (k + 1) := ⟨_, rfl⟩
      rw [← hA] at hal
      have pown := p.own
      rw [← hA] at pown
      have HA := Lib.hid hA
      clear hszd hA
      go_upto_region 5 with (go_at_call 83; refine (maco_reset K (some x) wr Fm h key d hKr p.mac).mono ?_; rintro e w1 ⟨rfl, F1, hm1, hc1, hF1⟩)
      have hFw1 : ∀ x ∈ F1, w.heap.size ≤ x := fun x hx => by
        rcases hF1 x hx with h | h
        · exact p.fresh x h
        · have := p.chg.size; omega
      have ha1 := pown.chg hc1 (fun x hx => (p.afr x hx).2)
      have haF1 : ∀ x, u9.ownBlock = some x → x ∉ F1 := fun x hx hm => by
        rcases hF1 x hm with h | h
        · exact (p.afr x hx).2 h
        · have := pown.lt x hx; omega
      have hcw1 : Chg [g] w w1 := p.chg.and hc1 (fun i hi => .inr (p.fresh i hi))
      have hK1 := hK.chg hcw1 (by simpa using hg0)
      have hr1 := hc1.row p.row (hgn Fm p.fresh)
      have haw : ∀ x, u9.ownBlock = some x → w.heap.size ≤ x := fun x hx => (p.afr x hx).1
      clear p pown hF1
      go_upto_region 6 with (go_at_call 81; refine (maco_write K (some x) w1 F1 h key [] hK1 hm1 (by simp) u9 A (by omega) (ha1.bs haF1)).mono ?_; rintro e w2 ⟨rfl, hm2, hc2⟩)
      rw [List.nil_append] at hm2
      have hcw2 : Chg [g] w w2 := hcw1.and hc2 (fun i hi => .inr (hFw1 i hi))
      have hK2 := hK.chg hcw2 (by simpa using hg0)
      have ha2 := ha1.chg hc2 haF1
      have hr2 := hc2.row hr1 (hgn F1 hFw1)
      have hsv2 : BS F1 w2 sv seed := hsv.to hcw2 (fun k hk => .inl hk) (fun k hk => .inr (hFw1 k hk))
      go_upto_region 7 with (go_at_call 81; refine (maco_write K (some x) w2 F1 h key A hK2 hm2 (by omega) sv seed hs hsv2).mono ?_; rintro e w3 ⟨rfl, hm3, hc3⟩)
      have hcw3 : Chg [g] w w3 := hcw2.and hc3 (fun i hi => .inr (hFw1 i hi))
      have hK3 := hK.chg hcw3 (by simpa using hg0)
      have ha3 := ha2.chg hc3 haF1
      have hr3 := hc3.row hr2 (hgn F1 hFw1)
      have hAS : (A ++ seed).length ≤ 70000 := by simp; omega
      go_upto_region 8 with (go_at_call 82; refine (maco_sum K (some x) w3 F1 h key (A ++ seed) hK3 hm3 (by omega) (.slice none 0 0) (Own.nil _) (by simp [Value.ownBlock])).mono ?_; rintro e w4 ⟨b, rfl, hb, hm4, hc4', hfb⟩)
      have hc4 : Chg F1 w3 w4 := hc4'.mono (fun k hk _ => by simpa [Value.ownBlock] using hk)
      have hcw4 : Chg [g] w w4 := hcw3.and hc4 (fun i hi => .inr (hFw1 i hi))
      have ha4 := ha3.chg hc4 haF1
      have hr4 := hc4.row hr3 (hgn F1 hFw1)
      have hbl : (mac (hfK K (some x)) key (A ++ seed)).length = sz := by rw [mac_length hok]; exact Hsz.out.symm
      have hbb := hb.bs (S := []) (by simp)
      obtain ⟨Bb, hBb⟩ : ∃ Bb, Bb = mac (hfK K (some x)) key (A ++ seed) := ⟨_, rfl⟩
      rw [← hBb] at hbl hbb
      have HBb := Lib.hid hBb
      obtain ⟨L, hL⟩ : ∃ L, L = brow ((phOut (hfK K (some x)) key seed k).take o ++ List.replicate (n - o) 0) := ⟨_, rfl⟩
      have hLl : o + m ≤ L.length := by
        rw [hL, brow_length, List.length_append, List.length_replicate, List.length_take, phOut_length hok, ← Hnum.out, Nat.min_self, Hm.out]
        omega
      rw [← hL] at hr4
      have HL := Lib.hid hL
      clear hBb hL hm1 hc1 hm2 hc2 hm3 hc3 hc4' hfb hr1 hr2 hr3 ha1 ha2 ha3 hK1 hK2 hK3 hb hsv2 hcw1 hcw2 hcw3
      obtain ⟨w5, hcp, hr5, hc5⟩ := run_copy_bytes (ty := 3) (off := o) (dLen := m) (dCap := m) hr4 hLl hbb
      obtain ⟨q, hq⟩ : ∃ q, q = min Bb.length m := ⟨_, rfl⟩
      rw [← hq] at hr5 hcp
      rw [hbl] at hq
      have hqm : q ≤ m := by omega
      have Hq := Lib.hid hq
      clear hq
      go_upto_region 9 with fail
      clear hcp
      have hcut : ∀ W, (Instr.slice 24 (.slice (some ⟨g, o, none⟩) m m) (some (.int .i64 (q : Int))) none none).run Try.prog W = .ok (.slice (cutO (some ⟨g, o, none⟩) m q) (m - q) (m - q)) W := fun W => run_cut _ m m q hqm W
      obtain ⟨nx, hnx⟩ : ∃ nx, nx = cutO (some ⟨g, o, none⟩) m q := ⟨_, rfl⟩
      rw [← hnx] at hcut
      have Hnx := Lib.hid hnx
      clear hbl hnx
      go_upto_region 10 with fail
      have hcw5 : Chg [g] w w5 := hcw4.trans hc5
      have hag : ∀ x, u9.ownBlock = some x → x ∉ [g] := fun x hx hm => by have := haw x hx; simp at hm; omega
      have ha5 := ha4.chg hc5 hag
      have hm5 := hm4.chg hc5 (fun x hx hm => by have := hFw1 x hx; simp at hm; omega)
      have hK5 := hK.chg hcw5 (by simpa using hg0)
      clear hcut hr4 hc5 ha4 hm4 hc4 hbb hcw4
      go_upto_region 11 with (go_at_call 83; refine (maco_reset K (some x) w5 F1 h key _ hK5 hm5).mono ?_; rintro e w6 ⟨rfl, F2, hm6, hc6, hF2⟩)
      have hFw2 : ∀ x ∈ F2, w.heap.size ≤ x := fun x hx => by
        rcases hF2 x hx with h | h
        · exact hFw1 x h
        · have := hcw5.size; omega
      have haF2 : ∀ x, u9.ownBlock = some x → x ∉ F2 := fun x hx hm => by
        rcases hF2 x hm with h | h
        · exact haF1 x hx h
        · have := ha5.lt x hx; omega
      have ha6 := ha5.chg hc6 haF1
      have hcw6 : Chg [g] w w6 := hcw5.and hc6 (fun i hi => .inr (hFw1 i hi))
      have hK6 := hK.chg hcw6 (by simpa using hg0)
      have hr6 := hc6.row hr5 (hgn F1 hFw1)
      go_upto_region 12 with (go_at_call 81; refine (maco_write K (some x) w6 F2 h key [] hK6 hm6 (by simp) u9 A (by omega) (ha6.bs haF2)).mono ?_; rintro e w7 ⟨rfl, hm7, hc7⟩)
      rw [List.nil_append] at hm7
      have hcw7 : Chg [g] w w7 := hcw6.and hc7 (fun i hi => .inr (hFw2 i hi))
      have hK7 := hK.chg hcw7 (by simpa using hg0)
      have hr7 := hc7.row hr6 (hgn F2 hFw2)
      go_wp2_with (go_at_call 82; refine (maco_sum K (some x) w7 F2 h key A hK7 hm7 (by omega) (.slice none 0 0) (Own.nil _) (by simp [Value.ownBlock])).mono ?_; rintro e w8 ⟨a', rfl, ha8, hm8, hc8', hfa8⟩)
      have hc8 : Chg F2 w7 w8 := hc8'.mono (fun k hk _ => by simpa [Value.ownBlock] using hk)
      have hr8 := hc8.row hr7 (hgn F2 hFw2)
      have hcw8 : Chg [g] w w8 := hcw7.and hc8 (fun i hi => .inr (hFw2 i hi))
      have hm7l := hm7.lt
      have hw7 := hcw7.size
      clear hc6 hF2 ha5 ha6 hK5 hK6 hK7 hm5 hm6 hm7 hc7 hc8' hr5 hr6 hr7 hcw5 hcw6 hcw7 hK hKr hsv
      go_roundw
      case rel =>
        have hm0 := Hm.out
        have hn0 := Hnum.out
        have hq0 := Hq.out
        have hz0 := Hsz.out
        have hmul : (k + 1) * (hfK K (some x)).sz = k * (hfK K (some x)).sz + (hfK K (some x)).sz := by rw [Nat.add_mul, Nat.one_mul]
        refine ⟨k + 1, o + q, if m = q then o else o + q, F2, A, ?_, ?_, ?_, ?_, hm8, by omega, hFw2, ?_, ?_, ?_, hcw8⟩
        · rw [Hnx.out, show n - (o + q) = m - q by omega]
          unfold cutO
          by_cases e : m = q
          · rw [if_pos e, if_pos e]
          · rw [if_neg e, if_neg e]
            have hq1 : ¬ q = 0 := by omega
            simp [Addr.add, hq1]
        · omega
        · rw [hmul]; omega
        · intro hlt2
          rw [if_neg (by omega)]
        · have e : phA (hfK K (some x)) key seed (k + 1 + 1) = mac (hfK K (some x)) key A := by rw [HA.out]; rfl
          rw [e]
          exact ha8
        · intro x hx
          rcases hfa8 x hx with h | h
          · simp [Value.ownBlock] at h
          · exact ⟨by omega, fun hm => by have := hm7l x hm; omega⟩
        · have e := ph_row hok key seed n k (by rw [← hn0]; exact hlt)
          rw [← hn0, ← hz0, ← hm0, ← HA.out, ← HBb.out, ← hq0] at e
          rw [HL.out, HBb.out] at hr8
          rw [hm0] at e
          rw [← HBb.out] at hr8
          rw [e] at hr8
          exact hr8
      case measure =>
        have hq0 := Hq.out
        simp [slLen]
        omega
    · have hz : m = 0 := by omega
      have hpos : ¬ (0 : Int) < (m : Int) := by omega
      have Hz := Lib.hid hz
      clear hm hz
      go_wp2
      go_end0
      have hoff : off = n := by have := p.le; omega
      have hr := p.row
      rw [hoff, Nat.sub_self, List.replicate_zero, List.append_nil, phashF_of hok key seed n k (by rcases p.num with h | h; omega; exact h.2)] at hr
      exact ⟨rfl, hr, p.chg⟩
end Go.Proofs.Ytknoomndofnnmaa
