/- HKDF: Expand. -/
import Derived.Test.YtknoomndofnnmaaDoorYMacD
import Derived.Test.YtknoomndofnnmaaDoorYKit
namespace Go.Proofs.YtknoomndofnnmaaDoor
open Go Go.RowKit

/-- A slice read in a later world. -/
theorem BS.to {S T S' : List Nat} {w w' : World} {v : Value} {xs : Bs} (h : BS S w v xs) (hc : Chg S' w w') (h1 : ∀ k ∈ S', k ∈ S ∨ w.heap.size ≤ k) (h2 : ∀ k ∈ T, k ∈ S ∨ w.heap.size ≤ k) : BS T w' v xs := by
  have e : BS (S' ++ T) w v xs := h.old (fun k hk => by rcases List.mem_append.1 hk with h | h; exact h1 k h; exact h2 k h)
  exact (e.chg hc (fun k hk => List.mem_append_left _ hk)).old (fun k hk => .inl (List.mem_append_right _ hk))
theorem BS.form {S : List Nat} {w : World} {v : Value} {xs : Bs} (h : BS S w v xs) : ∃ a c, v = .slice a xs.length c := by
  obtain ⟨a, c, hv, _⟩ := h
  exact ⟨a, c, hv⟩
theorem Maker.keep {K : List UInt32} {κ : Kd} {B : List Nat} {w0 w1 : World} {F : Value} {mk : Nat → Value} (h : Maker K κ B w0 F mk) (hc : Chg [] w0 w1) : Maker K κ B w1 F mk := h.chg hc (fun _ _ hm => by cases hm)
/-- make([]byte, 0, n). -/
theorem mk0_bytes (n : Nat) (hn : n ≤ 1000000) (W : World) : (Instr.makeSlice 24 (.int .i64 0) (.int .i64 (n : Int))).run Tryd.prog W = .ok (.slice (some ⟨W.heap.size, 0, none⟩) 0 n) (W.alloc (.cells (brow (List.replicate n 0)).toArray 5)) := by
  obtain ⟨i, hi, hz0, hz1, hz2⟩ := info_parts infoU8
  have hr := run_make (P := Tryd.prog) W 24 5 i (.int .u8 0) Tryd.underlying24 hi hz0 .i64 .i64 0 n (by omega) (by omega) (by rw [hz2]; omega) (by omega)
  have e : madeCells (Value.int .u8 0).cells (n * i.size) = (brow (List.replicate n 0)).toArray := by
    apply Array.ext'
    rw [hz1, Nat.mul_one, show (Value.int .u8 0).cells = #[.int .u8 0] from rfl, toList_madeCells_one]
    simp [brow, bv]
  simp only [Int.toNat_natCast, Int.toNat_zero, e] at hr
  exact hr
theorem own_mk0 (W : World) (n : Nat) (hn : n ≤ 1000000) : Own (W.alloc (.cells (brow (List.replicate n 0)).toArray 5)) (.slice (some ⟨W.heap.size, 0, none⟩) 0 n) [] :=
  .inr ⟨W.heap.size, n, _, rfl, heap_alloc_new W _, Nat.zero_le _, by unfold maxLen; omega, by rw [List.size_toArray, brow_length, List.length_replicate], by simp [brow]⟩
theorem own_blk (a : Option Addr) (n m c : Nat) : (Value.slice a n c).ownBlock = (Value.slice a m c).ownBlock := own_len a n m c
theorem expN2_length {H : HF} (hok : H.Ok) (prk info : Bs) (k : Nat) : (expN H prk info (k + 1)).2.length = H.sz := mac_length hok _ _
theorem expN_buf {H : HF} (hok : H.Ok) (prk info : Bs) (k : Nat) : (expN H prk info k).2.length ≤ 32 := by
  cases k with
  | zero => simp [expN]
  | succ k => rw [expN2_length hok prk info k]; exact hok.sz32
theorem BS.at {S T : List Nat} {w : World} {g o n c : Nat} {xs : Bs} (h : BS S w (.slice (some ⟨g, o, none⟩) n c) xs) (hg : g ∉ T) : BS T w (.slice (some ⟨g, o, none⟩) n c) xs := by
  obtain ⟨a, c', hv, h1, h2, h3, h | ⟨b, off, ha, hb, hc⟩⟩ := h
  · exact ⟨a, c', hv, h1, h2, h3, .inl h⟩
  · refine ⟨a, c', hv, h1, h2, h3, .inr ⟨b, off, ha, ?_, hc⟩⟩
    simp only [Value.slice.injEq] at hv
    rw [ha] at hv
    simp only [Option.some.injEq, Addr.mk.injEq] at hv
    rw [← hv.1.1]
    exact hg
/-- What the loop of Expand knows. -/
structure HX (K : List UInt32) (κ : Kd) (w wr : World) (n : Nat) (prk info : Bs) (h k off : Nat) (F : List Nat) (d : Bs) (o b : Value) : Prop where
  le : off ≤ n
  num : off = k * (hfK K κ).sz ∨ (off = n ∧ n ≤ k * (hfK K κ).sz)
  mac : MacO K κ wr F h prk d
  first : k = 0 → d = []
  fresh : ∀ x ∈ F, w.heap.size ≤ x
  out : Own wr o ((expN (hfK K κ) prk info k).1.take off)
  ofr : ∀ x, o.ownBlock = some x → w.heap.size ≤ x ∧ x ∉ F
  buf : Own wr b (expN (hfK K κ) prk info k).2
  bfr : ∀ x, b.ownBlock = some x → w.heap.size ≤ x ∧ x ∉ F ∧ o.ownBlock ≠ some x
  chg : Chg [] w wr
set_option maxRecDepth 100000 in
set_option maxHeartbeats 2000000 in
theorem hexpand_digest (K : List UInt32) (w : World) (F : Value) (B : List Nat) (hM : Maker K none B w F mkP) (prk : Bs) (pv : Value) (s : ByteArray) (hk : prk.length ≤ 65536) (hl : s.size ≤ 60000) (n : Nat) (hn : n ≤ 255 * (hfK K none).sz) (hpv : BS [] w pv prk) :
    Calls Tryd.prog 96 #[F, pv, .string s, .int .i64 (n : Int)] w (Gives w (expandF (hfK K none) prk (sb s) n)) := by
  have hK := hM.2.1
  have hok := hfK_ok K hM.1
  have hs32 := hok.sz32
  have hn2 : n ≤ 8160 := by omega
  have hmk := mk0_bytes n (by omega)
  have h0 : 0 < w.heap.size := blk_lt hK.2
  have hc1 : Chg [] w (w.alloc (.cells (brow (List.replicate n 0)).toArray 5)) := (Chg.refl [] w).alloc _
  have ho1 := own_mk0 w n (by omega)
  have hnew := newo_digest K _ F B (hM.chg hc1 (fun _ _ hm => by cases hm)) prk pv hk (hpv.keep hc1)
  have HN := Lib.hid hnew
  clear hnew hM hpv
  go_enter Tryd.func96, Tryd.ntmps96
  go_upto_region 3 with (go_at_call 110; refine HN.out.mono ?_; rintro e w1 ⟨h, F1, rfl, hm1, hcn, hf1⟩)
  have hw1 : ∀ x ∈ F1, w.heap.size < x := fun x hx => by have := hf1 x hx; simp at this; omega
  have p0 : HX K none w w1 n prk (sb s) h 0 0 F1 [] (.slice (some ⟨w.heap.size, 0, none⟩) 0 n) (.slice none 0 0) := by
    refine ⟨Nat.zero_le _, .inl (by simp), hm1, fun _ => rfl, fun x hx => Nat.le_of_lt (hw1 x hx), ?_, ?_, Own.nil _, by simp [Value.ownBlock], hc1.trans hcn⟩
    · rw [List.take_zero]
      exact ho1.chg hcn (by simp)
    · intro x hx
      simp [Value.ownBlock] at hx
      subst hx
      exact ⟨Nat.le_refl _, fun hm => by have := hw1 _ hm; omega⟩
  clear hm1 hcn hf1 hw1 HN hmk hc1 ho1
  go_wp2
  go_loopw [9, 11, 12] (fun o c b wr => ∃ (k off : Nat) (Fm : List Nat) (d : Bs), c = .int .u8 (k : Int) ∧ HX K none w wr n prk (sb s) h k off Fm d o b) (fun o _ _ _ => n - slLen o)
  case atStart => exact ⟨0, 0, F1, [], rfl, p0⟩
  case round =>
    clear p0
    obtain ⟨k, off, Fm, d, rfl, p⟩ := hrel
    have hKr : KAt K wr := hK.chg p.chg (by simp)
    have hsp := hok.pos
    have hel := expN_length hok prk (sb s) k
    have hol : ((expN (hfK K none) prk (sb s) k).1.take off).length = off := by
      rw [List.length_take, hel]
      rcases p.num with e | e
      · omega
      · omega
    obtain ⟨oa, oc, hof⟩ := p.out.form
    rw [hol] at hof
    subst hof
    by_cases hlt : off < n
    · have hnum : off = k * (hfK K none).sz := by rcases p.num with h | h; exact h; omega
      have hlt' : (off : Int) < (n : Int) := by omega
      have hk255 : k < 255 := Nat.lt_of_mul_lt_mul_right (a := (hfK K none).sz) (by omega)
      have hm0 : ¬ ((k : Int) + 1) = 0 := by omega
      have Hnum := Lib.hid hnum
      clear hnum hel hol
      go_upto_if 29 with fail
      go_cut [] (fun wx => ∃ F' : List Nat, MacO K none wx F' h prk [] ∧ (∀ x ∈ F', w.heap.size ≤ x) ∧ Own wx (.slice oa off oc) ((expN (hfK K none) prk (sb s) k).1.take off) ∧ (∀ x, (Value.slice oa off oc).ownBlock = some x → x ∉ F') ∧ Own wx u12 (expN (hfK K none) prk (sb s) k).2 ∧ (∀ x, u12.ownBlock = some x → x ∉ F') ∧ Chg [] w wx)
      case first =>
        by_cases hk0 : k = 0
        · have h1 : ¬ (1 : Int) < (k : Int) + 1 := by omega
          have hd := p.first hk0
          clear hk0
          go_wp2
          go_meet
          exact ⟨Fm, hd ▸ p.mac, p.fresh, p.out, fun x hx => (p.ofr x hx).2, p.buf, fun x hx => (p.bfr x hx).2.1, p.chg⟩
        · have h1 : (1 : Int) < (k : Int) + 1 := by omega
          clear hk0
          go_wp2_with (go_at_call 111; refine (maco_reset K none wr Fm h prk d hKr p.mac).mono ?_; rintro e wx ⟨rfl, F2, hm2, hc2, hF2⟩)
          go_meet
          refine ⟨F2, hm2, fun x hx => ?_, p.out.chg hc2 (fun x hx => (p.ofr x hx).2), fun x hx hm => ?_, p.buf.chg hc2 (fun x hx => (p.bfr x hx).2.1), fun x hx hm => ?_, p.chg.and hc2 (fun i hi => .inr (p.fresh i hi))⟩
          · rcases hF2 x hx with h | h
            · exact p.fresh x h
            · have := p.chg.size; omega
          · rcases hF2 x hm with h | h
            · exact (p.ofr x hx).2 h
            · have := p.out.lt x hx; omega
          · rcases hF2 x hm with h | h
            · exact (p.bfr x hx).2.1 h
            · have := p.buf.lt x hx; omega
      case rest =>
        obtain ⟨F2, hm2, hf2, ho2, hof2, hb2, hbf2, hcx⟩ := hcut
        have hob : ∀ x, u12.ownBlock = some x → w.heap.size ≤ x ∧ (Value.slice oa off oc).ownBlock ≠ some x := fun x hx => ⟨(p.bfr x hx).1, (p.bfr x hx).2.2⟩
        have how : ∀ x, (Value.slice oa off oc).ownBlock = some x → w.heap.size ≤ x := fun x hx => (p.ofr x hx).1
        clear p hKr
        obtain ⟨bb, hbb⟩ : ∃ bb, bb = (expN (hfK K none) prk (sb s) k).2 := ⟨_, rfl⟩
        have hbl : bb.length ≤ 32 := by rw [hbb]; exact expN_buf hok prk (sb s) k
        obtain ⟨oo, hoo⟩ : ∃ oo, oo = (expN (hfK K none) prk (sb s) k).1 := ⟨_, rfl⟩
        have hoe : oo.take off = oo := by rw [hoo]; exact List.take_of_length_le (by rw [expN_length hok, ← Hnum.out]; exact Nat.le_refl _)
        have hon : oo.length = off := by rw [hoo, expN_length hok]; exact Hnum.out.symm
        rw [← hoo, hoe] at ho2
        rw [← hbb] at hb2
        have HBB := Lib.hid hbb
        have HOO := Lib.hid hoo
        have hKx : KAt K wc := hK.chg hcx (by simp)
        obtain ⟨ba, bc, hbf⟩ := hb2.form
        subst hbf
        clear hbb hoo hoe
        go_upto_region 12 with (go_at_call 112; refine (maco_write K none wc F2 h prk [] hKx hm2 (by simp) _ bb (by omega) (hb2.bs hbf2)).mono ?_; rintro e w2 ⟨rfl, hm3, hc3⟩)
        rw [List.nil_append] at hm3
        have hcx3 : Chg [] w w2 := hcx.and hc3 (fun i hi => .inr (hf2 i hi))
        have ho3 := ho2.chg hc3 hof2
        have hb3 := hb2.chg hc3 hbf2
        clear hm2 hKx hcx hc3 ho2 hb2
        obtain ⟨cc, w3, _, _, hcv, hc4, hbv, -⟩ := conv_bytes w2 s (by omega)
        have hm4 := hm3.chg hc4 (fun _ _ hm => by cases hm)
        have hcx4 := hcx3.trans hc4
        have hbv2 : BS F2 w3 (.slice (some ⟨w2.heap.size, 0, none⟩) s.size cc) (sb s) := hbv.at (fun hm => by have := hm3.lt _ hm; omega)
        have ho4 := ho3.chg hc4 (by simp)
        have hb4 := hb3.chg hc4 (by simp)
        clear hbv hm3 hcx3 ho3 hb3 hc4
        go_upto_region 13 with (go_at_call 112; refine (maco_write K none w3 F2 h prk bb (hK.chg hcx4 (by simp)) hm4 (by omega) _ (sb s) (by rw [sb_length]; omega) hbv2).mono ?_; rintro e w4 ⟨rfl, hm5, hc5⟩)
        have hcx5 : Chg [] w w4 := hcx4.and hc5 (fun i hi => .inr (hf2 i hi))
        have ho5 := ho4.chg hc5 hof2
        have hb5 := hb4.chg hc5 hbf2
        clear hcv hbv2 hm4 hcx4 hc5 ho4 hb4
        have hone := one_bs w4 (UInt8.ofNat (k + 1)) ((k : Int) + 1) (by rw [UInt8.toNat_ofNat']; omega) F2 hm5.lt
        have hca : Chg [] w4 (w4.alloc (.cells #[.int .u8 ((k : Int) + 1)] 5)) := (Chg.refl [] w4).alloc _
        have hm6 := hm5.chg hca (fun _ _ hm => by cases hm)
        have hcx6 := hcx5.trans hca
        have ho6 := ho5.chg hca (by simp)
        have hb6 := hb5.chg hca (by simp)
        have hdl : (bb ++ sb s).length ≤ 61000 := by rw [List.length_append, sb_length]; omega
        clear hm5 hcx5 ho5 hb5 hca
        go_upto_region 14 with (go_at_call 112; refine (maco_write K none _ F2 h prk (bb ++ sb s) (hK.chg hcx6 (by simp)) hm6 (by omega) _ [UInt8.ofNat (k + 1)] (by simp) hone).mono ?_; rintro e w7 ⟨rfl, hm7, hc7⟩)
        have hcx7 : Chg [] w w7 := hcx6.and hc7 (fun i hi => .inr (hf2 i hi))
        have ho7 := ho6.chg hc7 hof2
        have hb7 := hb6.chg hc7 hbf2
        have hhd : ∀ W, (Instr.slice 24 (.slice ba bb.length bc) none (some (.int .i64 0)) none).run Tryd.prog W = .ok (.slice ba 0 bc) W := fun W => run_head ba bb.length bc 0 (by omega) W
        have hdl2 : (bb ++ sb s ++ [UInt8.ofNat (k + 1)]).length ≤ 70000 := by rw [List.length_append, List.length_singleton]; omega
        have hvo : ∀ g, (Value.slice ba 0 bc).ownBlock = some g → g ∉ F2 ∧ g ≠ 0 := fun g hg => by
          rw [own_blk ba 0 bb.length bc] at hg
          exact ⟨hbf2 g hg, by have := (hob g hg).1; omega⟩
        clear hone hm6 hcx6 ho6 hb6 hc7
        go_upto_region 15 with (go_at_call 113; refine (maco_sum K none w7 F2 h prk _ (hK.chg hcx7 (by simp)) hm7 (by omega) (.slice ba 0 bc) (Own.head0 hb7) hvo).mono ?_; rintro e w8 ⟨v8, rfl, hv8, hm8, hc8, hf8⟩)
        have hvb : ∀ g, v8.ownBlock = some g → (w.heap.size ≤ g ∧ g ∉ F2 ∧ (Value.slice oa off oc).ownBlock ≠ some g) := fun g hg => by
          rcases hf8 g hg with h | h
          · rw [own_blk ba 0 bb.length bc] at h
            exact ⟨(hob g h).1, hbf2 g h, (hob g h).2⟩
          · refine ⟨by have := hcx7.size; omega, fun hm => by have := hm7.lt g hm; omega, fun he => by have := ho7.lt g he; omega⟩
        have hcx8 : Chg [] w w8 := hcx7.and hc8 (fun i hi => by
          rcases List.mem_append.1 hi with h | h
          · exact .inr (hf2 i h)
          · have h' : (Value.slice ba 0 bc).ownBlock = some i := by simpa using h
            rw [own_blk ba 0 bb.length bc] at h'
            exact .inr (hob i h').1)
        have ho8 := ho7.chg hc8 (fun g hg hm => by
          rcases List.mem_append.1 hm with h | h
          · exact hof2 g hg h
          · have h' : (Value.slice ba 0 bc).ownBlock = some g := by simpa using h
            rw [own_blk ba 0 bb.length bc] at h'
            exact (hob g h').2 hg)
        clear hhd hvo hm7 hcx7 ho7 hb7 hc8 hf8 hob hbf2 hdl hdl2
        obtain ⟨nb, hnb⟩ : ∃ nb, nb = mac (hfK K none) prk (bb ++ sb s ++ [UInt8.ofNat (k + 1)]) := ⟨_, rfl⟩
        have hnl : nb.length = (hfK K none).sz := by rw [hnb]; exact mac_length hok _ _
        rw [← hnb] at hv8
        obtain ⟨z, hz⟩ : ∃ z, z = (hfK K none).sz := ⟨_, rfl⟩
        rw [← hz] at hnl hs32 hsp
        have HZ := Lib.hid hz
        have HNB := Lib.hid hnb
        obtain ⟨va, vc, hvf⟩ := hv8.form
        rw [hnl] at hvf
        subst hvf
        clear hnb hz
        obtain ⟨q, hq⟩ : ∃ q, q = min z (n - off) := ⟨_, rfl⟩
        have hqv : (if (z : Int) < (n : Int) - (off : Int) then (z : Int) else (n : Int) - (off : Int)) = (q : Int) := by split <;> omega
        have hqz : q ≤ z := by omega
        have hbs8 := hv8.bs (S := []) (by simp)
        have hcap : q ≤ vc := by
          obtain ⟨_, c', he, hle, _⟩ := id hbs8
          simp only [Value.slice.injEq] at he
          obtain ⟨_, _, rfl⟩ := he
          omega
        have hhd := fun W => run_head va z vc q hcap W
        have hsrc : BS [] w8 (.slice va q vc) (nb.take q) := by
          have e : BS [] w8 (.slice va nb.length vc) nb := by rw [hnl]; exact hbs8
          exact e.head q (by omega)
        have hql : (nb.take q).length = q := by rw [List.length_take, hnl]; omega
        have HQ := Lib.hid hq
        have HNL := Lib.hid hnl
        have HON := Lib.hid hon
        have HQL := Lib.hid hql
        clear hbs8 hq hnl hql
        go_upto_region 17 with fail
        clear hqv
        go_wp2_with (at_builtin; refine append_bytes (v := .slice oa off oc) (xs := oo) (ys := nb.take q) (u := .slice va q vc) rfl _ _ rfl rfl ho8 rfl hsrc.src (by rw [HON.out, HQL.out]; omega) ?_; intro v9 w9 hown9 hchg9 hsame9 _)
        have hchg9' : Chg (Value.slice oa off oc).ownBlock.toList w8 w9 := hchg9
        have hsame9' : ∀ x, v9.ownBlock = some x → (Value.slice oa off oc).ownBlock = some x ∨ w8.heap.size ≤ x := hsame9
        clear hhd hsrc hcap hchg9 hsame9
        go_roundw
        case rel =>
          have hn0 := Hnum.out
          have hq0 := HQ.out
          have hz0 := HZ.out
          have hmul : (k + 1) * (hfK K none).sz = k * (hfK K none).sz + (hfK K none).sz := by rw [Nat.add_mul, Nat.one_mul]
          have eO : (expN (hfK K none) prk (sb s) (k + 1)).1 = oo ++ nb := by rw [HOO.out, HNB.out, HBB.out]; rfl
          have eB : (expN (hfK K none) prk (sb s) (k + 1)).2 = nb := by rw [HNB.out, HBB.out]; rfl
          have hoF : ∀ x ∈ F2, x ∉ (Value.slice oa off oc).ownBlock.toList := fun x hx hm => hof2 x (by simpa using hm) hx
          refine ⟨k + 1, off + q, F2, _, by go_num, by omega, ?_, hm8.chg hchg9' hoF, by omega, hf2, ?_, ?_, ?_, ?_, hcx8.and hchg9' (fun i hi => .inr (how i (by simpa using hi)))⟩
          · rw [hmul]; omega
          · rw [eO, List.take_append, HON.out, Nat.add_sub_cancel_left, List.take_of_length_le (by rw [HON.out]; omega)]
            exact hown9
          · intro x hx
            rcases hsame9' x hx with h | h
            · exact ⟨how x h, hof2 x h⟩
            · exact ⟨by have := hcx8.size; omega, fun hm => by have := hm8.lt x hm; omega⟩
          · rw [eB]
            exact hv8.chg hchg9' (fun g hg hm => (hvb g hg).2.2 (by simpa using hm))
          · intro x hx
            refine ⟨(hvb x hx).1, (hvb x hx).2.1, fun he => ?_⟩
            rcases hsame9' x he with h | h
            · exact (hvb x hx).2.2 h
            · have := hv8.lt x hx; omega
        case measure =>
          have hl9 := hown9.len
          rw [List.length_append, HON.out, HQL.out] at hl9
          have hq0 := HQ.out
          simp [slLen] at hl9 ⊢
          omega
    · have hlt' : ¬ (off : Int) < (n : Int) := by omega
      have hoff : off = n := by have := p.le; omega
      have HOF := Lib.hid hoff
      clear hoff hel hol
      go_wp2
      go_ret
      have ho := p.out
      rw [HOF.out, expandF_of hok prk (sb s) n k (by rcases p.num with h | h <;> have := HOF.out <;> omega)] at ho
      rw [← HOF.out] at ho
      exact ⟨_, rfl, by rw [HOF.out] at ho ⊢; exact ho, p.chg, fun g hg => (p.ofr g hg).1⟩
set_option maxRecDepth 100000 in
set_option maxHeartbeats 2000000 in
theorem hexpand_own (K : List UInt32) (x : Nat × Nat) (w : World) (F : Value) (B : List Nat) (hM : Maker K (some x) B w F mkP) (prk : Bs) (pv : Value) (s : ByteArray) (hk : prk.length ≤ 65536) (hl : s.size ≤ 60000) (n : Nat) (hn : n ≤ 255 * (hfK K (some x)).sz) (hpv : BS [] w pv prk) :
    Calls Tryd.prog 97 #[F, pv, .string s, .int .i64 (n : Int)] w (Gives w (expandF (hfK K (some x)) prk (sb s) n)) := by
  have hK := hM.2.1
  have hok := hfK_ok K hM.1
  have hs32 := hok.sz32
  have hn2 : n ≤ 8160 := by omega
  have hmk := mk0_bytes n (by omega)
  have h0 : 0 < w.heap.size := blk_lt hK.2
  have hc1 : Chg [] w (w.alloc (.cells (brow (List.replicate n 0)).toArray 5)) := (Chg.refl [] w).alloc _
  have ho1 := own_mk0 w n (by omega)
  have hnew := newo_own K x _ F B (hM.chg hc1 (fun _ _ hm => by cases hm)) prk pv hk (hpv.keep hc1)
  have HN := Lib.hid hnew
  clear hnew hM hpv
  go_enter Tryd.func97, Tryd.ntmps97
  go_upto_region 3 with (go_at_call 114; refine HN.out.mono ?_; rintro e w1 ⟨h, F1, rfl, hm1, hcn, hf1⟩)
  have hw1 : ∀ x ∈ F1, w.heap.size < x := fun x hx => by have := hf1 x hx; simp at this; omega
  have p0 : HX K (some x) w w1 n prk (sb s) h 0 0 F1 [] (.slice (some ⟨w.heap.size, 0, none⟩) 0 n) (.slice none 0 0) := by
    refine ⟨Nat.zero_le _, .inl (by simp), hm1, fun _ => rfl, fun x hx => Nat.le_of_lt (hw1 x hx), ?_, ?_, Own.nil _, by simp [Value.ownBlock], hc1.trans hcn⟩
    · rw [List.take_zero]
      exact ho1.chg hcn (by simp)
    · intro x hx
      simp [Value.ownBlock] at hx
      subst hx
      exact ⟨Nat.le_refl _, fun hm => by have := hw1 _ hm; omega⟩
  clear hm1 hcn hf1 hw1 HN hmk hc1 ho1
  go_wp2
  go_loopw [9, 11, 12] (fun o c b wr => ∃ (k off : Nat) (Fm : List Nat) (d : Bs), c = .int .u8 (k : Int) ∧ HX K (some x) w wr n prk (sb s) h k off Fm d o b) (fun o _ _ _ => n - slLen o)
  case atStart => exact ⟨0, 0, F1, [], rfl, p0⟩
  case round =>
    clear p0
    obtain ⟨k, off, Fm, d, rfl, p⟩ := hrel
    have hKr : KAt K wr := hK.chg p.chg (by simp)
    have hsp := hok.pos
    have hel := expN_length hok prk (sb s) k
    have hol : ((expN (hfK K (some x)) prk (sb s) k).1.take off).length = off := by
      rw [List.length_take, hel]
      rcases p.num with e | e
      · omega
      · omega
    obtain ⟨oa, oc, hof⟩ := p.out.form
    rw [hol] at hof
    subst hof
    by_cases hlt : off < n
    · have hnum : off = k * (hfK K (some x)).sz := by rcases p.num with h | h; exact h; omega
      have hlt' : (off : Int) < (n : Int) := by omega
      have hk255 : k < 255 := Nat.lt_of_mul_lt_mul_right (a := (hfK K (some x)).sz) (by omega)
      have hm0 : ¬ ((k : Int) + 1) = 0 := by omega
      have Hnum := Lib.hid hnum
      clear hnum hel hol
      go_upto_if 29 with fail
      go_cut [] (fun wx => ∃ F' : List Nat, MacO K (some x) wx F' h prk [] ∧ (∀ x ∈ F', w.heap.size ≤ x) ∧ Own wx (.slice oa off oc) ((expN (hfK K (some x)) prk (sb s) k).1.take off) ∧ (∀ x, (Value.slice oa off oc).ownBlock = some x → x ∉ F') ∧ Own wx u12 (expN (hfK K (some x)) prk (sb s) k).2 ∧ (∀ x, u12.ownBlock = some x → x ∉ F') ∧ Chg [] w wx)
      case first =>
        by_cases hk0 : k = 0
        · have h1 : ¬ (1 : Int) < (k : Int) + 1 := by omega
          have hd := p.first hk0
          clear hk0
          go_wp2
          go_meet
          exact ⟨Fm, hd ▸ p.mac, p.fresh, p.out, fun x hx => (p.ofr x hx).2, p.buf, fun x hx => (p.bfr x hx).2.1, p.chg⟩
        · have h1 : (1 : Int) < (k : Int) + 1 := by omega
          clear hk0
          go_wp2_with (go_at_call 111; refine (maco_reset K (some x) wr Fm h prk d hKr p.mac).mono ?_; rintro e wx ⟨rfl, F2, hm2, hc2, hF2⟩)
          go_meet
          refine ⟨F2, hm2, fun x hx => ?_, p.out.chg hc2 (fun x hx => (p.ofr x hx).2), fun x hx hm => ?_, p.buf.chg hc2 (fun x hx => (p.bfr x hx).2.1), fun x hx hm => ?_, p.chg.and hc2 (fun i hi => .inr (p.fresh i hi))⟩
          · rcases hF2 x hx with h | h
            · exact p.fresh x h
            · have := p.chg.size; omega
          · rcases hF2 x hm with h | h
            · exact (p.ofr x hx).2 h
            · have := p.out.lt x hx; omega
          · rcases hF2 x hm with h | h
            · exact (p.bfr x hx).2.1 h
            · have := p.buf.lt x hx; omega
      case rest =>
        obtain ⟨F2, hm2, hf2, ho2, hof2, hb2, hbf2, hcx⟩ := hcut
        have hob : ∀ x, u12.ownBlock = some x → w.heap.size ≤ x ∧ (Value.slice oa off oc).ownBlock ≠ some x := fun x hx => ⟨(p.bfr x hx).1, (p.bfr x hx).2.2⟩
        have how : ∀ x, (Value.slice oa off oc).ownBlock = some x → w.heap.size ≤ x := fun x hx => (p.ofr x hx).1
        clear p hKr
        obtain ⟨bb, hbb⟩ : ∃ bb, bb = (expN (hfK K (some x)) prk (sb s) k).2 := ⟨_, rfl⟩
        have hbl : bb.length ≤ 32 := by rw [hbb]; exact expN_buf hok prk (sb s) k
        obtain ⟨oo, hoo⟩ : ∃ oo, oo = (expN (hfK K (some x)) prk (sb s) k).1 := ⟨_, rfl⟩
        have hoe : oo.take off = oo := by rw [hoo]; exact List.take_of_length_le (by rw [expN_length hok, ← Hnum.out]; exact Nat.le_refl _)
        have hon : oo.length = off := by rw [hoo, expN_length hok]; exact Hnum.out.symm
        rw [← hoo, hoe] at ho2
        rw [← hbb] at hb2
        have HBB := Lib.hid hbb
        have HOO := Lib.hid hoo
        have hKx : KAt K wc := hK.chg hcx (by simp)
        obtain ⟨ba, bc, hbf⟩ := hb2.form
        subst hbf
        clear hbb hoo hoe
        go_upto_region 12 with (go_at_call 112; refine (maco_write K (some x) wc F2 h prk [] hKx hm2 (by simp) _ bb (by omega) (hb2.bs hbf2)).mono ?_; rintro e w2 ⟨rfl, hm3, hc3⟩)
        rw [List.nil_append] at hm3
        have hcx3 : Chg [] w w2 := hcx.and hc3 (fun i hi => .inr (hf2 i hi))
        have ho3 := ho2.chg hc3 hof2
        have hb3 := hb2.chg hc3 hbf2
        clear hm2 hKx hcx hc3 ho2 hb2
        obtain ⟨cc, w3, _, _, hcv, hc4, hbv, -⟩ := conv_bytes w2 s (by omega)
        have hm4 := hm3.chg hc4 (fun _ _ hm => by cases hm)
        have hcx4 := hcx3.trans hc4
        have hbv2 : BS F2 w3 (.slice (some ⟨w2.heap.size, 0, none⟩) s.size cc) (sb s) := hbv.at (fun hm => by have := hm3.lt _ hm; omega)
        have ho4 := ho3.chg hc4 (by simp)
        have hb4 := hb3.chg hc4 (by simp)
        clear hbv hm3 hcx3 ho3 hb3 hc4
        go_upto_region 13 with (go_at_call 112; refine (maco_write K (some x) w3 F2 h prk bb (hK.chg hcx4 (by simp)) hm4 (by omega) _ (sb s) (by rw [sb_length]; omega) hbv2).mono ?_; rintro e w4 ⟨rfl, hm5, hc5⟩)
        have hcx5 : Chg [] w w4 := hcx4.and hc5 (fun i hi => .inr (hf2 i hi))
        have ho5 := ho4.chg hc5 hof2
        have hb5 := hb4.chg hc5 hbf2
        clear hcv hbv2 hm4 hcx4 hc5 ho4 hb4
        have hone := one_bs w4 (UInt8.ofNat (k + 1)) ((k : Int) + 1) (by rw [UInt8.toNat_ofNat']; omega) F2 hm5.lt
        have hca : Chg [] w4 (w4.alloc (.cells #[.int .u8 ((k : Int) + 1)] 5)) := (Chg.refl [] w4).alloc _
        have hm6 := hm5.chg hca (fun _ _ hm => by cases hm)
        have hcx6 := hcx5.trans hca
        have ho6 := ho5.chg hca (by simp)
        have hb6 := hb5.chg hca (by simp)
        have hdl : (bb ++ sb s).length ≤ 61000 := by rw [List.length_append, sb_length]; omega
        clear hm5 hcx5 ho5 hb5 hca
        go_upto_region 14 with (go_at_call 112; refine (maco_write K (some x) _ F2 h prk (bb ++ sb s) (hK.chg hcx6 (by simp)) hm6 (by omega) _ [UInt8.ofNat (k + 1)] (by simp) hone).mono ?_; rintro e w7 ⟨rfl, hm7, hc7⟩)
        have hcx7 : Chg [] w w7 := hcx6.and hc7 (fun i hi => .inr (hf2 i hi))
        have ho7 := ho6.chg hc7 hof2
        have hb7 := hb6.chg hc7 hbf2
        have hhd : ∀ W, (Instr.slice 24 (.slice ba bb.length bc) none (some (.int .i64 0)) none).run Tryd.prog W = .ok (.slice ba 0 bc) W := fun W => run_head ba bb.length bc 0 (by omega) W
        have hdl2 : (bb ++ sb s ++ [UInt8.ofNat (k + 1)]).length ≤ 70000 := by rw [List.length_append, List.length_singleton]; omega
        have hvo : ∀ g, (Value.slice ba 0 bc).ownBlock = some g → g ∉ F2 ∧ g ≠ 0 := fun g hg => by
          rw [own_blk ba 0 bb.length bc] at hg
          exact ⟨hbf2 g hg, by have := (hob g hg).1; omega⟩
        clear hone hm6 hcx6 ho6 hb6 hc7
        go_upto_region 15 with (go_at_call 113; refine (maco_sum K (some x) w7 F2 h prk _ (hK.chg hcx7 (by simp)) hm7 (by omega) (.slice ba 0 bc) (Own.head0 hb7) hvo).mono ?_; rintro e w8 ⟨v8, rfl, hv8, hm8, hc8, hf8⟩)
        have hvb : ∀ g, v8.ownBlock = some g → (w.heap.size ≤ g ∧ g ∉ F2 ∧ (Value.slice oa off oc).ownBlock ≠ some g) := fun g hg => by
          rcases hf8 g hg with h | h
          · rw [own_blk ba 0 bb.length bc] at h
            exact ⟨(hob g h).1, hbf2 g h, (hob g h).2⟩
          · refine ⟨by have := hcx7.size; omega, fun hm => by have := hm7.lt g hm; omega, fun he => by have := ho7.lt g he; omega⟩
        have hcx8 : Chg [] w w8 := hcx7.and hc8 (fun i hi => by
          rcases List.mem_append.1 hi with h | h
          · exact .inr (hf2 i h)
          · have h' : (Value.slice ba 0 bc).ownBlock = some i := by simpa using h
            rw [own_blk ba 0 bb.length bc] at h'
            exact .inr (hob i h').1)
        have ho8 := ho7.chg hc8 (fun g hg hm => by
          rcases List.mem_append.1 hm with h | h
          · exact hof2 g hg h
          · have h' : (Value.slice ba 0 bc).ownBlock = some g := by simpa using h
            rw [own_blk ba 0 bb.length bc] at h'
            exact (hob g h').2 hg)
        clear hhd hvo hm7 hcx7 ho7 hb7 hc8 hf8 hob hbf2 hdl hdl2
        obtain ⟨nb, hnb⟩ : ∃ nb, nb = mac (hfK K (some x)) prk (bb ++ sb s ++ [UInt8.ofNat (k + 1)]) := ⟨_, rfl⟩
        have hnl : nb.length = (hfK K (some x)).sz := by rw [hnb]; exact mac_length hok _ _
        rw [← hnb] at hv8
        obtain ⟨z, hz⟩ : ∃ z, z = (hfK K (some x)).sz := ⟨_, rfl⟩
        rw [← hz] at hnl hs32 hsp
        have HZ := Lib.hid hz
        have HNB := Lib.hid hnb
        obtain ⟨va, vc, hvf⟩ := hv8.form
        rw [hnl] at hvf
        subst hvf
        clear hnb hz
        obtain ⟨q, hq⟩ : ∃ q, q = min z (n - off) := ⟨_, rfl⟩
        have hqv : (if (z : Int) < (n : Int) - (off : Int) then (z : Int) else (n : Int) - (off : Int)) = (q : Int) := by split <;> omega
        have hqz : q ≤ z := by omega
        have hbs8 := hv8.bs (S := []) (by simp)
        have hcap : q ≤ vc := by
          obtain ⟨_, c', he, hle, _⟩ := id hbs8
          simp only [Value.slice.injEq] at he
          obtain ⟨_, _, rfl⟩ := he
          omega
        have hhd := fun W => run_head va z vc q hcap W
        have hsrc : BS [] w8 (.slice va q vc) (nb.take q) := by
          have e : BS [] w8 (.slice va nb.length vc) nb := by rw [hnl]; exact hbs8
          exact e.head q (by omega)
        have hql : (nb.take q).length = q := by rw [List.length_take, hnl]; omega
        have HQ := Lib.hid hq
        have HNL := Lib.hid hnl
        have HON := Lib.hid hon
        have HQL := Lib.hid hql
        clear hbs8 hq hnl hql
        go_upto_region 17 with fail
        clear hqv
        go_wp2_with (at_builtin; refine append_bytes (v := .slice oa off oc) (xs := oo) (ys := nb.take q) (u := .slice va q vc) rfl _ _ rfl rfl ho8 rfl hsrc.src (by rw [HON.out, HQL.out]; omega) ?_; intro v9 w9 hown9 hchg9 hsame9 _)
        have hchg9' : Chg (Value.slice oa off oc).ownBlock.toList w8 w9 := hchg9
        have hsame9' : ∀ x, v9.ownBlock = some x → (Value.slice oa off oc).ownBlock = some x ∨ w8.heap.size ≤ x := hsame9
        clear hhd hsrc hcap hchg9 hsame9
        go_roundw
        case rel =>
          have hn0 := Hnum.out
          have hq0 := HQ.out
          have hz0 := HZ.out
          have hmul : (k + 1) * (hfK K (some x)).sz = k * (hfK K (some x)).sz + (hfK K (some x)).sz := by rw [Nat.add_mul, Nat.one_mul]
          have eO : (expN (hfK K (some x)) prk (sb s) (k + 1)).1 = oo ++ nb := by rw [HOO.out, HNB.out, HBB.out]; rfl
          have eB : (expN (hfK K (some x)) prk (sb s) (k + 1)).2 = nb := by rw [HNB.out, HBB.out]; rfl
          have hoF : ∀ x ∈ F2, x ∉ (Value.slice oa off oc).ownBlock.toList := fun x hx hm => hof2 x (by simpa using hm) hx
          refine ⟨k + 1, off + q, F2, _, by go_num, by omega, ?_, hm8.chg hchg9' hoF, by omega, hf2, ?_, ?_, ?_, ?_, hcx8.and hchg9' (fun i hi => .inr (how i (by simpa using hi)))⟩
          · rw [hmul]; omega
          · rw [eO, List.take_append, HON.out, Nat.add_sub_cancel_left, List.take_of_length_le (by rw [HON.out]; omega)]
            exact hown9
          · intro x hx
            rcases hsame9' x hx with h | h
            · exact ⟨how x h, hof2 x h⟩
            · exact ⟨by have := hcx8.size; omega, fun hm => by have := hm8.lt x hm; omega⟩
          · rw [eB]
            exact hv8.chg hchg9' (fun g hg hm => (hvb g hg).2.2 (by simpa using hm))
          · intro x hx
            refine ⟨(hvb x hx).1, (hvb x hx).2.1, fun he => ?_⟩
            rcases hsame9' x he with h | h
            · exact (hvb x hx).2.2 h
            · have := hv8.lt x hx; omega
        case measure =>
          have hl9 := hown9.len
          rw [List.length_append, HON.out, HQL.out] at hl9
          have hq0 := HQ.out
          simp [slLen] at hl9 ⊢
          omega
    · have hlt' : ¬ (off : Int) < (n : Int) := by omega
      have hoff : off = n := by have := p.le; omega
      have HOF := Lib.hid hoff
      clear hoff hel hol
      go_wp2
      go_ret
      have ho := p.out
      rw [HOF.out, expandF_of hok prk (sb s) n k (by rcases p.num with h | h <;> have := HOF.out <;> omega)] at ho
      rw [← HOF.out] at ho
      exact ⟨_, rfl, by rw [HOF.out] at ho ⊢; exact ho, p.chg, fun g hg => (p.ofr g hg).1⟩
set_option maxRecDepth 100000 in
set_option maxHeartbeats 2000000 in
theorem hexpand_hash (K : List UInt32) (κ : Kd) (w : World) (F : Value) (B : List Nat) (hM : Maker K κ B w F (mkI κ)) (prk : Bs) (pv : Value) (s : ByteArray) (hk : prk.length ≤ 65536) (hl : s.size ≤ 60000) (n : Nat) (hn : n ≤ 255 * (hfK K κ).sz) (hpv : BS [] w pv prk) :
    Calls Tryd.prog 107 #[F, pv, .string s, .int .i64 (n : Int)] w (Gives w (expandF (hfK K κ) prk (sb s) n)) := by
  have hK := hM.2.1
  have hok := hfK_ok K hM.1
  have hs32 := hok.sz32
  have hn2 : n ≤ 8160 := by omega
  have hmk := mk0_bytes n (by omega)
  have h0 : 0 < w.heap.size := blk_lt hK.2
  have hc1 : Chg [] w (w.alloc (.cells (brow (List.replicate n 0)).toArray 5)) := (Chg.refl [] w).alloc _
  have ho1 := own_mk0 w n (by omega)
  have hnew := newo_hash K κ _ F B (hM.chg hc1 (fun _ _ hm => by cases hm)) prk pv hk (hpv.keep hc1)
  have HN := Lib.hid hnew
  clear hnew hM hpv
  go_enter Tryd.func107, Tryd.ntmps107
  go_upto_region 3 with (go_at_call 116; refine HN.out.mono ?_; rintro e w1 ⟨h, F1, rfl, hm1, hcn, hf1⟩)
  have hw1 : ∀ x ∈ F1, w.heap.size < x := fun x hx => by have := hf1 x hx; simp at this; omega
  have p0 : HX K κ w w1 n prk (sb s) h 0 0 F1 [] (.slice (some ⟨w.heap.size, 0, none⟩) 0 n) (.slice none 0 0) := by
    refine ⟨Nat.zero_le _, .inl (by simp), hm1, fun _ => rfl, fun x hx => Nat.le_of_lt (hw1 x hx), ?_, ?_, Own.nil _, by simp [Value.ownBlock], hc1.trans hcn⟩
    · rw [List.take_zero]
      exact ho1.chg hcn (by simp)
    · intro x hx
      simp [Value.ownBlock] at hx
      subst hx
      exact ⟨Nat.le_refl _, fun hm => by have := hw1 _ hm; omega⟩
  clear hm1 hcn hf1 hw1 HN hmk hc1 ho1
  go_wp2
  go_loopw [9, 11, 12] (fun o c b wr => ∃ (k off : Nat) (Fm : List Nat) (d : Bs), c = .int .u8 (k : Int) ∧ HX K κ w wr n prk (sb s) h k off Fm d o b) (fun o _ _ _ => n - slLen o)
  case atStart => exact ⟨0, 0, F1, [], rfl, p0⟩
  case round =>
    clear p0
    obtain ⟨k, off, Fm, d, rfl, p⟩ := hrel
    have hKr : KAt K wr := hK.chg p.chg (by simp)
    have hsp := hok.pos
    have hel := expN_length hok prk (sb s) k
    have hol : ((expN (hfK K κ) prk (sb s) k).1.take off).length = off := by
      rw [List.length_take, hel]
      rcases p.num with e | e
      · omega
      · omega
    obtain ⟨oa, oc, hof⟩ := p.out.form
    rw [hol] at hof
    subst hof
    by_cases hlt : off < n
    · have hnum : off = k * (hfK K κ).sz := by rcases p.num with h | h; exact h; omega
      have hlt' : (off : Int) < (n : Int) := by omega
      have hk255 : k < 255 := Nat.lt_of_mul_lt_mul_right (a := (hfK K κ).sz) (by omega)
      have hm0 : ¬ ((k : Int) + 1) = 0 := by omega
      have Hnum := Lib.hid hnum
      clear hnum hel hol
      go_upto_if 29 with fail
      go_cut [] (fun wx => ∃ F' : List Nat, MacO K κ wx F' h prk [] ∧ (∀ x ∈ F', w.heap.size ≤ x) ∧ Own wx (.slice oa off oc) ((expN (hfK K κ) prk (sb s) k).1.take off) ∧ (∀ x, (Value.slice oa off oc).ownBlock = some x → x ∉ F') ∧ Own wx u12 (expN (hfK K κ) prk (sb s) k).2 ∧ (∀ x, u12.ownBlock = some x → x ∉ F') ∧ Chg [] w wx)
      case first =>
        by_cases hk0 : k = 0
        · have h1 : ¬ (1 : Int) < (k : Int) + 1 := by omega
          have hd := p.first hk0
          clear hk0
          go_wp2
          go_meet
          exact ⟨Fm, hd ▸ p.mac, p.fresh, p.out, fun x hx => (p.ofr x hx).2, p.buf, fun x hx => (p.bfr x hx).2.1, p.chg⟩
        · have h1 : (1 : Int) < (k : Int) + 1 := by omega
          clear hk0
          go_wp2_with (go_at_call 111; refine (maco_reset K κ wr Fm h prk d hKr p.mac).mono ?_; rintro e wx ⟨rfl, F2, hm2, hc2, hF2⟩)
          go_meet
          refine ⟨F2, hm2, fun x hx => ?_, p.out.chg hc2 (fun x hx => (p.ofr x hx).2), fun x hx hm => ?_, p.buf.chg hc2 (fun x hx => (p.bfr x hx).2.1), fun x hx hm => ?_, p.chg.and hc2 (fun i hi => .inr (p.fresh i hi))⟩
          · rcases hF2 x hx with h | h
            · exact p.fresh x h
            · have := p.chg.size; omega
          · rcases hF2 x hm with h | h
            · exact (p.ofr x hx).2 h
            · have := p.out.lt x hx; omega
          · rcases hF2 x hm with h | h
            · exact (p.bfr x hx).2.1 h
            · have := p.buf.lt x hx; omega
      case rest =>
        obtain ⟨F2, hm2, hf2, ho2, hof2, hb2, hbf2, hcx⟩ := hcut
        have hob : ∀ x, u12.ownBlock = some x → w.heap.size ≤ x ∧ (Value.slice oa off oc).ownBlock ≠ some x := fun x hx => ⟨(p.bfr x hx).1, (p.bfr x hx).2.2⟩
        have how : ∀ x, (Value.slice oa off oc).ownBlock = some x → w.heap.size ≤ x := fun x hx => (p.ofr x hx).1
        clear p hKr
        obtain ⟨bb, hbb⟩ : ∃ bb, bb = (expN (hfK K κ) prk (sb s) k).2 := ⟨_, rfl⟩
        have hbl : bb.length ≤ 32 := by rw [hbb]; exact expN_buf hok prk (sb s) k
        obtain ⟨oo, hoo⟩ : ∃ oo, oo = (expN (hfK K κ) prk (sb s) k).1 := ⟨_, rfl⟩
        have hoe : oo.take off = oo := by rw [hoo]; exact List.take_of_length_le (by rw [expN_length hok, ← Hnum.out]; exact Nat.le_refl _)
        have hon : oo.length = off := by rw [hoo, expN_length hok]; exact Hnum.out.symm
        rw [← hoo, hoe] at ho2
        rw [← hbb] at hb2
        have HBB := Lib.hid hbb
        have HOO := Lib.hid hoo
        have hKx : KAt K wc := hK.chg hcx (by simp)
        obtain ⟨ba, bc, hbf⟩ := hb2.form
        subst hbf
        clear hbb hoo hoe
        go_upto_region 12 with (go_at_call 112; refine (maco_write K κ wc F2 h prk [] hKx hm2 (by simp) _ bb (by omega) (hb2.bs hbf2)).mono ?_; rintro e w2 ⟨rfl, hm3, hc3⟩)
        rw [List.nil_append] at hm3
        have hcx3 : Chg [] w w2 := hcx.and hc3 (fun i hi => .inr (hf2 i hi))
        have ho3 := ho2.chg hc3 hof2
        have hb3 := hb2.chg hc3 hbf2
        clear hm2 hKx hcx hc3 ho2 hb2
        obtain ⟨cc, w3, _, _, hcv, hc4, hbv, -⟩ := conv_bytes w2 s (by omega)
        have hm4 := hm3.chg hc4 (fun _ _ hm => by cases hm)
        have hcx4 := hcx3.trans hc4
        have hbv2 : BS F2 w3 (.slice (some ⟨w2.heap.size, 0, none⟩) s.size cc) (sb s) := hbv.at (fun hm => by have := hm3.lt _ hm; omega)
        have ho4 := ho3.chg hc4 (by simp)
        have hb4 := hb3.chg hc4 (by simp)
        clear hbv hm3 hcx3 ho3 hb3 hc4
        go_upto_region 13 with (go_at_call 112; refine (maco_write K κ w3 F2 h prk bb (hK.chg hcx4 (by simp)) hm4 (by omega) _ (sb s) (by rw [sb_length]; omega) hbv2).mono ?_; rintro e w4 ⟨rfl, hm5, hc5⟩)
        have hcx5 : Chg [] w w4 := hcx4.and hc5 (fun i hi => .inr (hf2 i hi))
        have ho5 := ho4.chg hc5 hof2
        have hb5 := hb4.chg hc5 hbf2
        clear hcv hbv2 hm4 hcx4 hc5 ho4 hb4
        have hone := one_bs w4 (UInt8.ofNat (k + 1)) ((k : Int) + 1) (by rw [UInt8.toNat_ofNat']; omega) F2 hm5.lt
        have hca : Chg [] w4 (w4.alloc (.cells #[.int .u8 ((k : Int) + 1)] 5)) := (Chg.refl [] w4).alloc _
        have hm6 := hm5.chg hca (fun _ _ hm => by cases hm)
        have hcx6 := hcx5.trans hca
        have ho6 := ho5.chg hca (by simp)
        have hb6 := hb5.chg hca (by simp)
        have hdl : (bb ++ sb s).length ≤ 61000 := by rw [List.length_append, sb_length]; omega
        clear hm5 hcx5 ho5 hb5 hca
        go_upto_region 14 with (go_at_call 112; refine (maco_write K κ _ F2 h prk (bb ++ sb s) (hK.chg hcx6 (by simp)) hm6 (by omega) _ [UInt8.ofNat (k + 1)] (by simp) hone).mono ?_; rintro e w7 ⟨rfl, hm7, hc7⟩)
        have hcx7 : Chg [] w w7 := hcx6.and hc7 (fun i hi => .inr (hf2 i hi))
        have ho7 := ho6.chg hc7 hof2
        have hb7 := hb6.chg hc7 hbf2
        have hhd : ∀ W, (Instr.slice 24 (.slice ba bb.length bc) none (some (.int .i64 0)) none).run Tryd.prog W = .ok (.slice ba 0 bc) W := fun W => run_head ba bb.length bc 0 (by omega) W
        have hdl2 : (bb ++ sb s ++ [UInt8.ofNat (k + 1)]).length ≤ 70000 := by rw [List.length_append, List.length_singleton]; omega
        have hvo : ∀ g, (Value.slice ba 0 bc).ownBlock = some g → g ∉ F2 ∧ g ≠ 0 := fun g hg => by
          rw [own_blk ba 0 bb.length bc] at hg
          exact ⟨hbf2 g hg, by have := (hob g hg).1; omega⟩
        clear hone hm6 hcx6 ho6 hb6 hc7
        go_upto_region 15 with (go_at_call 113; refine (maco_sum K κ w7 F2 h prk _ (hK.chg hcx7 (by simp)) hm7 (by omega) (.slice ba 0 bc) (Own.head0 hb7) hvo).mono ?_; rintro e w8 ⟨v8, rfl, hv8, hm8, hc8, hf8⟩)
        have hvb : ∀ g, v8.ownBlock = some g → (w.heap.size ≤ g ∧ g ∉ F2 ∧ (Value.slice oa off oc).ownBlock ≠ some g) := fun g hg => by
          rcases hf8 g hg with h | h
          · rw [own_blk ba 0 bb.length bc] at h
            exact ⟨(hob g h).1, hbf2 g h, (hob g h).2⟩
          · refine ⟨by have := hcx7.size; omega, fun hm => by have := hm7.lt g hm; omega, fun he => by have := ho7.lt g he; omega⟩
        have hcx8 : Chg [] w w8 := hcx7.and hc8 (fun i hi => by
          rcases List.mem_append.1 hi with h | h
          · exact .inr (hf2 i h)
          · have h' : (Value.slice ba 0 bc).ownBlock = some i := by simpa using h
            rw [own_blk ba 0 bb.length bc] at h'
            exact .inr (hob i h').1)
        have ho8 := ho7.chg hc8 (fun g hg hm => by
          rcases List.mem_append.1 hm with h | h
          · exact hof2 g hg h
          · have h' : (Value.slice ba 0 bc).ownBlock = some g := by simpa using h
            rw [own_blk ba 0 bb.length bc] at h'
            exact (hob g h').2 hg)
        clear hhd hvo hm7 hcx7 ho7 hb7 hc8 hf8 hob hbf2 hdl hdl2
        obtain ⟨nb, hnb⟩ : ∃ nb, nb = mac (hfK K κ) prk (bb ++ sb s ++ [UInt8.ofNat (k + 1)]) := ⟨_, rfl⟩
        have hnl : nb.length = (hfK K κ).sz := by rw [hnb]; exact mac_length hok _ _
        rw [← hnb] at hv8
        obtain ⟨z, hz⟩ : ∃ z, z = (hfK K κ).sz := ⟨_, rfl⟩
        rw [← hz] at hnl hs32 hsp
        have HZ := Lib.hid hz
        have HNB := Lib.hid hnb
        obtain ⟨va, vc, hvf⟩ := hv8.form
        rw [hnl] at hvf
        subst hvf
        clear hnb hz
        obtain ⟨q, hq⟩ : ∃ q, q = min z (n - off) := ⟨_, rfl⟩
        have hqv : (if (z : Int) < (n : Int) - (off : Int) then (z : Int) else (n : Int) - (off : Int)) = (q : Int) := by split <;> omega
        have hqz : q ≤ z := by omega
        have hbs8 := hv8.bs (S := []) (by simp)
        have hcap : q ≤ vc := by
          obtain ⟨_, c', he, hle, _⟩ := id hbs8
          simp only [Value.slice.injEq] at he
          obtain ⟨_, _, rfl⟩ := he
          omega
        have hhd := fun W => run_head va z vc q hcap W
        have hsrc : BS [] w8 (.slice va q vc) (nb.take q) := by
          have e : BS [] w8 (.slice va nb.length vc) nb := by rw [hnl]; exact hbs8
          exact e.head q (by omega)
        have hql : (nb.take q).length = q := by rw [List.length_take, hnl]; omega
        have HQ := Lib.hid hq
        have HNL := Lib.hid hnl
        have HON := Lib.hid hon
        have HQL := Lib.hid hql
        clear hbs8 hq hnl hql
        go_upto_region 17 with fail
        clear hqv
        go_wp2_with (at_builtin; refine append_bytes (v := .slice oa off oc) (xs := oo) (ys := nb.take q) (u := .slice va q vc) rfl _ _ rfl rfl ho8 rfl hsrc.src (by rw [HON.out, HQL.out]; omega) ?_; intro v9 w9 hown9 hchg9 hsame9 _)
        have hchg9' : Chg (Value.slice oa off oc).ownBlock.toList w8 w9 := hchg9
        have hsame9' : ∀ x, v9.ownBlock = some x → (Value.slice oa off oc).ownBlock = some x ∨ w8.heap.size ≤ x := hsame9
        clear hhd hsrc hcap hchg9 hsame9
        go_roundw
        case rel =>
          have hn0 := Hnum.out
          have hq0 := HQ.out
          have hz0 := HZ.out
          have hmul : (k + 1) * (hfK K κ).sz = k * (hfK K κ).sz + (hfK K κ).sz := by rw [Nat.add_mul, Nat.one_mul]
          have eO : (expN (hfK K κ) prk (sb s) (k + 1)).1 = oo ++ nb := by rw [HOO.out, HNB.out, HBB.out]; rfl
          have eB : (expN (hfK K κ) prk (sb s) (k + 1)).2 = nb := by rw [HNB.out, HBB.out]; rfl
          have hoF : ∀ x ∈ F2, x ∉ (Value.slice oa off oc).ownBlock.toList := fun x hx hm => hof2 x (by simpa using hm) hx
          refine ⟨k + 1, off + q, F2, _, by go_num, by omega, ?_, hm8.chg hchg9' hoF, by omega, hf2, ?_, ?_, ?_, ?_, hcx8.and hchg9' (fun i hi => .inr (how i (by simpa using hi)))⟩
          · rw [hmul]; omega
          · rw [eO, List.take_append, HON.out, Nat.add_sub_cancel_left, List.take_of_length_le (by rw [HON.out]; omega)]
            exact hown9
          · intro x hx
            rcases hsame9' x hx with h | h
            · exact ⟨how x h, hof2 x h⟩
            · exact ⟨by have := hcx8.size; omega, fun hm => by have := hm8.lt x hm; omega⟩
          · rw [eB]
            exact hv8.chg hchg9' (fun g hg hm => (hvb g hg).2.2 (by simpa using hm))
          · intro x hx
            refine ⟨(hvb x hx).1, (hvb x hx).2.1, fun he => ?_⟩
            rcases hsame9' x he with h | h
            · exact (hvb x hx).2.2 h
            · have := hv8.lt x hx; omega
        case measure =>
          have hl9 := hown9.len
          rw [List.length_append, HON.out, HQL.out] at hl9
          have hq0 := HQ.out
          simp [slLen] at hl9 ⊢
          omega
    · have hlt' : ¬ (off : Int) < (n : Int) := by omega
      have hoff : off = n := by have := p.le; omega
      have HOF := Lib.hid hoff
      clear hoff hel hol
      go_wp2
      go_ret
      have ho := p.out
      rw [HOF.out, expandF_of hok prk (sb s) n k (by rcases p.num with h | h <;> have := HOF.out <;> omega)] at ho
      rw [← HOF.out] at ho
      exact ⟨_, rfl, by rw [HOF.out] at ho ⊢; exact ho, p.chg, fun g hg => (p.ofr g hg).1⟩
end Go.Proofs.YtknoomndofnnmaaDoor
