/- HKDF-Extract; TLS 1.3's extract and Derive-Secret. -/
import Derived.Test.YtknoomndofnnmaaDoorYTlsA
namespace Go.Proofs.YtknoomndofnnmaaDoor
open Go Go.RowKit

theorem maco_mark (K : List UInt32) (κ : Kd) (w : World) (F : List Nat) (h : Nat) (key d : Bs) (hm : MacO K κ w F h key d) :
    Calls Tryd.prog 117 #[.pointer (some ⟨h, 0, none⟩)] w fun e w' => e = .returned (.tuple #[]) ∧ MacO K κ w' F h key d ∧ Chg F w w' := by
  obtain ⟨p, s, q, t, bo, bi, m, rfl, h1, h2, h3, h4, h5, h6, h7, ov, iv, fh, kl, h8, h9⟩ := hm
  have fz := fun j => blk_frozen h8 j
  have c5 : w.cell? ⟨h, 5, none⟩ = some fh := blk_cell h8 5
  have hc : Chg [h] w (w.setCell ⟨h, 5, none⟩ (.bool true)) := (Chg.refl [h] w).setCell (.inl (by simp)) _
  have hx : ∀ x ∈ [p, s, q, t, bo, bi], x ∉ [h] := fun x hx hm => by
    simp at hm
    subst hm
    simp only [List.mem_cons, List.not_mem_nil, or_false] at hx
    rcases hx with e | e | e | e | e | e
    · exact h2 x (by simp) (by simp [e])
    · exact h2 x (by simp) (by simp [e])
    · exact h2 x (by simp) (by simp [e])
    · exact h2 x (by simp) (by simp [e])
    · exact h4 x (by simp) (by simp [e])
    · exact h4 x (by simp) (by simp [e])
  go_enter Tryd.func117, Tryd.ntmps117
  go_wp2
  go_end0
  refine ⟨rfl, ⟨p, s, q, t, bo, bi, m, rfl, h1, h2, h3, h4, h5, h6.chg hc (hx p (by simp)) (hx s (by simp)), h7.chg hc (hx q (by simp)) (hx t (by simp)), ov, iv, .bool true, kl, blk_set h8 _, ?_⟩, hc.mono (by simp)⟩
  cases m with
  | true => exact ⟨h9.1, h9.2.1.chg hc (hx bo (by simp)), h9.2.2.chg hc (hx bi (by simp))⟩
  | false => exact ⟨h9.1.chg hc (hx bo (by simp)), h9.2.chg hc (hx bi (by simp))⟩
theorem mac_zeros {H : HF} (hok : H.Ok) (d : Bs) : mac H [] d = mac H (zeros H) d := by
  have hle := hok.le
  have e : ∀ x, padX H [] x = padX H (zeros H) x := fun x => by
    unfold padX key0 padTo zeros
    rw [if_neg (by simp), if_neg (by simp; omega)]
    simp only [List.nil_append, List.length_nil, Nat.sub_zero, List.length_replicate]
    rw [List.replicate_append_replicate]
    congr 2
    omega
  unfold mac
  rw [e, e]
theorem extractF_eq {H : HF} (hok : H.Ok) (secret salt : Bs) : extractF H secret salt = mac H salt secret := by
  unfold extractF orZeros
  split
  · rename_i h
    rw [h, mac_zeros hok]
  · rfl
theorem extractF_zeros {H : HF} (_hok : H.Ok) (secret : Bs) : extractF H secret [] = mac H (zeros H) secret := by
  unfold extractF orZeros
  rw [if_pos rfl]
theorem BS.nilV {S : List Nat} {w : World} {a : Option Addr} {n c : Nat} {xs : Bs} (h : BS S w (.slice a n c) xs) : a = none → xs = [] ∧ n = 0 ∧ c = 0 := by
  obtain ⟨a', c', hv, h1, h2, h3, _⟩ := h
  intro ha
  simp only [Value.slice.injEq] at hv
  obtain ⟨rfl, rfl, rfl⟩ := hv
  have := h3 ha
  exact ⟨List.eq_nil_of_length_eq_zero (by omega), by omega, by omega⟩
theorem eql_nil (a : Option Addr) (n c : Nat) (h : a = none → n = 0 ∧ c = 0) (W : World) : (binOp .eql 24 (.slice a n c) (.slice none 0 0)).run Tryd.prog W = .ok (.bool a.isNone) W := by
  cases a with
  | none =>
    obtain ⟨rfl, rfl⟩ := h rfl
    kernel_rfl
  | some ad => kernel_rfl
theorem eql_inil (T : TypeId) (v : Value) (W : World) : (binOp .eql 89 (.iface T v) .nilIface).run Tryd.prog W = .ok (.bool false) W := by kernel_rfl
theorem eqg_inil (T : TypeId) (v : Value) (W : World) : (eqGuard .eql 89 (.tmp 9) (.const .nilIface) (.iface T v) .nilIface).run Tryd.prog W = .ok () W := by kernel_rfl
theorem mk_zeros (H : HF) (h : H.sz ≤ 1000) (W : World) : (Instr.makeSlice 24 (.int .i64 (H.sz : Int)) (.int .i64 (H.sz : Int))).run Tryd.prog W = .ok (.slice (some ⟨W.heap.size, 0, none⟩) H.sz H.sz) (W.alloc (.cells (brow (zeros H)).toArray 5)) :=
  mk_bytes H.sz (by omega) W
theorem bs_zeros (H : HF) (h : H.sz ≤ 1000) (W : World) : BS [] (W.alloc (.cells (brow (zeros H)).toArray 5)) (.slice (some ⟨W.heap.size, 0, none⟩) H.sz H.sz) (zeros H) :=
  (own_row (heap_alloc_new W _) (by rw [zeros_length]; omega) (zeros_length H).symm).bs (by simp)
set_option maxRecDepth 100000 in
set_option maxHeartbeats 600000 in
theorem hextract_digest (K : List UInt32) (w : World) (F : Value) (B : List Nat) (hM : Maker K none B w F mkP) (secret salt : Bs) (sv tv : Value) (hs : secret.length ≤ 65536) (ht : salt.length ≤ 65536) (hsv : BS [] w sv secret) (htv : BS [] w tv salt) :
    Calls Tryd.prog 108 #[F, sv, tv] w (Gives w (extractF (hfK K none) secret salt)) := by
  have hok := hfK_ok K hM.1
  have hs32 := hok.sz32
  have hM0 := hM
  obtain ⟨hk1, hK, hB0, hBl, f, fst, cap, rfl, hcf, hcalls⟩ := hM0
  obtain ⟨ta, tc, htf⟩ := htv.form
  subst htf
  have heq := eql_nil ta salt.length tc (fun h => (htv.nilV h).2)
  have HM := Lib.hid hM
  have HCF := Lib.hid hcf
  have HCL := Lib.hid hcalls
  clear hM hcf hcalls
  go_enter Tryd.func108, Tryd.ntmps108
  go_upto_if 9 with fail
  go_cut [2] (fun t2 wx => ∃ salt' : Bs, BS [] wx t2 salt' ∧ salt'.length ≤ 65536 ∧ Hid (mac (hfK K none) salt' secret = extractF (hfK K none) secret salt) ∧ Chg [] w wx)
  case first =>
    cases ta with
    | some ad =>
      go_wp2
      go_meet
      exact ⟨salt, htv, ht, Lib.hid (extractF_eq hok secret salt).symm, Chg.refl _ _⟩
    | none =>
      obtain ⟨hx0, hn0, hc0⟩ := htv.nilV rfl
      have hmk := mk_zeros (hfK K none) (by omega)
      rw [hn0, hc0] at heq htv ⊢
      go_wp2_with (first | (refine call_value (.tmp 10) rfl #[] rfl rfl HCF.out (HCL.out _ (fun _ _ => rfl)) ?_; rintro x w2 ⟨p, q, rfl, hp, hq, hh, hcx⟩) | (refine inv_size none p rfl _ rfl rfl (h_size none _ p q hh.raw K) ?_; rintro w3 rfl))
      go_meet
      have hz := zeros_length (hfK K none)
      refine ⟨zeros (hfK K none), bs_zeros (hfK K none) (by omega) w2, by omega, Lib.hid ?_, hcx.alloc _⟩
      rw [hx0, extractF_zeros hok]
  case rest =>
    obtain ⟨salt', hbt, hlt, hmac, hcw⟩ := hcut
    have hnew := newo_digest K wc _ B (HM.out.keep hcw) salt' _ hlt hbt
    have HN := Lib.hid hnew
    clear hnew heq
    go_upto_region 4 with (go_at_call 110; refine HN.out.mono ?_; rintro e w1 ⟨h, F1, rfl, hm1, hc1, hf1⟩)
    have hK1 : KAt K w1 := (hK.chg hcw (by simp)).chg hc1 (by simp)
    go_upto_region 5 with (go_at_call 117; refine (maco_mark K none w1 F1 h salt' [] hm1).mono ?_; rintro e w2 ⟨rfl, hm2, hc2⟩)
    have hK2 := hK1.chg hc2 hm1.no0
    have hfw : ∀ x ∈ F1, w.heap.size ≤ x := fun x hx => Nat.le_trans hcw.size (hf1 x hx)
    have hcw2 : Chg [] w w2 := (hcw.trans hc1).and hc2 (fun i hi => .inr (hfw i hi))
    have hsv2 : BS F1 w2 sv secret := hsv.to hcw2 (by simp) (fun k hk => .inr (hfw k hk))
    go_upto_region 6 with (go_at_call 112; refine (maco_write K none w2 F1 h salt' [] hK2 hm2 (by simp) sv secret hs hsv2).mono ?_; rintro e w3 ⟨rfl, hm3, hc3⟩)
    rw [List.nil_append] at hm3
    have hK3 := hK2.chg hc3 hm2.no0
    have hcw3 : Chg [] w w3 := hcw2.and hc3 (fun i hi => .inr (hfw i hi))
    go_wp2_with (go_at_call 113; refine (maco_sum K none w3 F1 h salt' secret hK3 hm3 (by omega) (.slice none 0 0) (Own.nil _) (by simp [Value.ownBlock])).mono ?_; rintro e w4 ⟨u, rfl, hu, hm4, hc4, hfu⟩)
    go_ret
    rw [hmac.out] at hu
    refine ⟨_, rfl, hu, hcw3.and hc4 (fun i hi => by simp [Value.ownBlock] at hi; exact .inr (hfw i hi)), fun g hg => ?_⟩
    rcases hfu g hg with h | h
    · simp [Value.ownBlock] at h
    · exact Nat.le_trans hcw3.size h
set_option maxRecDepth 100000 in
set_option maxHeartbeats 600000 in
theorem textract_digest (K : List UInt32) (w : World) (F : Value) (B : List Nat) (hM : Maker K none B w F mkP) (secret salt : Bs) (sv tv : Value) (hs : secret.length ≤ 65536) (ht : salt.length ≤ 65536) (hsv : BS [] w sv secret) (htv : BS [] w tv salt) (hnil : sv = .slice none 0 0 ↔ secret = []) :
    Calls Tryd.prog 91 #[F, sv, tv] w (Gives w (extractF (hfK K none) (orZeros (hfK K none) secret) salt)) := by
  have hok := hfK_ok K hM.1
  have hs32 := hok.sz32
  have hM0 := hM
  obtain ⟨hk1, hK, hB0, hBl, f, fst, cap, rfl, hcf, hcalls⟩ := hM0
  obtain ⟨ta, tc, htf⟩ := hsv.form
  subst htf
  have heq := eql_nil ta secret.length tc (fun h => (hsv.nilV h).2)
  have HM := Lib.hid hM
  have HCF := Lib.hid hcf
  have HCL := Lib.hid hcalls
  clear hM hcf hcalls
  go_enter Tryd.func91, Tryd.ntmps91
  go_upto_if 8 with fail
  go_cut [1] (fun t1 wx => ∃ sec' : Bs, BS [] wx t1 sec' ∧ sec'.length ≤ 65536 ∧ Hid (sec' = orZeros (hfK K none) secret) ∧ Chg [] w wx)
  case first =>
    cases ta with
    | some ad =>
      go_wp2
      go_meet
      refine ⟨secret, hsv, hs, Lib.hid ?_, Chg.refl _ _⟩
      unfold orZeros
      rw [if_neg (fun h => by have := hnil.2 h; cases this)]
    | none =>
      obtain ⟨hx0, hn0, hc0⟩ := hsv.nilV rfl
      have hmk := mk_zeros (hfK K none) (by omega)
      rw [hn0, hc0] at heq hsv ⊢
      go_wp2_with (first | (refine call_value (.tmp 9) rfl #[] rfl rfl HCF.out (HCL.out _ (fun _ _ => rfl)) ?_; rintro x w2 ⟨p, q, rfl, hp, hq, hh, hcx⟩) | (refine inv_size none p rfl _ rfl rfl (h_size none _ p q hh.raw K) ?_; rintro w3 rfl))
      go_meet
      have hz := zeros_length (hfK K none)
      refine ⟨zeros (hfK K none), bs_zeros (hfK K none) (by omega) w2, by omega, Lib.hid ?_, hcx.alloc _⟩
      rw [hx0]
      unfold orZeros
      rw [if_pos rfl]
  case rest =>
    obtain ⟨sec', hbt, hlt, hsec, hcw⟩ := hcut
    have hcall := hextract_digest K wc _ B (HM.out.keep hcw) sec' salt _ tv hlt ht hbt (htv.keep hcw)
    have HC := Lib.hid hcall
    clear hcall heq
    go_wp2_with (go_at_call 108; refine HC.out.mono ?_; rintro e w4 ⟨u, rfl, fu⟩)
    go_ret
    rw [hsec.out] at fu
    exact ⟨_, rfl, fu.from hcw⟩
set_option maxRecDepth 100000 in
set_option maxHeartbeats 1000000 in
theorem dsecret_digest (K : List UInt32) (w : World) (F : Value) (B : List Nat) (hM : Maker K none B w F mkP) (key : Bs) (kv : Value) (s : ByteArray) (tv : Value) (msgs : Bs) (hk : key.length ≤ 65536) (hl : s.size ≤ 249) (hml : msgs.length ≤ 500000) (hkv : BS [] w kv key)
    (hT : (tv = .nilIface ∧ msgs = []) ∨ ∃ p q, tv = .iface (kTy none) (.pointer (some ⟨p, 0, none⟩)) ∧ HAt K none w p q msgs) :
    Calls Tryd.prog 93 #[F, kv, .string s, tv] w (Gives w (deriveF (hfK K none) key (sb s) msgs)) := by
  have hok := hfK_ok K hM.1
  have hs32 := hok.sz32
  have hsp := hok.pos
  have hM0 := hM
  obtain ⟨hk1, hK, hB0, hBl, f, fst, cap, rfl, hcf, hcalls⟩ := hM0
  have heq : ∃ bb : Bool, (∀ W, (binOp .eql 89 tv .nilIface).run Tryd.prog W = .ok (.bool bb) W) ∧ (∀ W, (eqGuard .eql 89 (.tmp 9) (.const .nilIface) tv .nilIface).run Tryd.prog W = .ok () W) ∧ (bb = true → tv = .nilIface ∧ msgs = []) ∧ (bb = false → ∃ p q, tv = .iface (kTy none) (.pointer (some ⟨p, 0, none⟩)) ∧ HAt K none w p q msgs) := by
    rcases hT with ⟨rfl, hm⟩ | ⟨p, q, rfl, hh⟩
    · exact ⟨true, fun W => by kernel_rfl, fun W => by kernel_rfl, fun _ => ⟨rfl, hm⟩, (fun h => by cases h)⟩
    · exact ⟨false, fun W => eql_inil _ _ W, fun W => eqg_inil _ _ W, (fun h => by cases h), fun _ => ⟨p, q, rfl, hh⟩⟩
  obtain ⟨bb, heq, heg, hT1, hT2⟩ := heq
  have HM := Lib.hid hM
  have HCF := Lib.hid hcf
  have HCL := Lib.hid hcalls
  have HT1 := Lib.hid hT1
  have HT2 := Lib.hid hT2
  clear hM hcf hcalls hT hT1 hT2
  go_enter Tryd.func93, Tryd.ntmps93
  go_upto_if 10 with fail
  go_cut [3] (fun t3 wx => ∃ p q, t3 = .iface (kTy none) (.pointer (some ⟨p, 0, none⟩)) ∧ HAt K none wx p q msgs ∧ Chg [] w wx)
  case first =>
    cases bb with
    | false =>
      obtain ⟨p, q, htv, hh⟩ := HT2.out rfl
      go_wp2
      go_meet
      exact ⟨p, q, by first | rfl | exact htv, hh, Chg.refl _ _⟩
    | true =>
      obtain ⟨htv, hm0⟩ := HT1.out rfl
      have Htv := Lib.hid htv
      have Hm0 := Lib.hid hm0
      clear htv hm0
      go_wp2_with (refine call_value (.tmp 11) rfl #[] rfl rfl HCF.out (HCL.out _ (fun _ _ => rfl)) ?_; rintro x w2 ⟨p, q, rfl, hp, hq, hh, hcx⟩)
      go_meet
      rw [Hm0.out]
      exact ⟨p, q, rfl, hh, hcx⟩
  case rest =>
    obtain ⟨p, q, e3, hh, hcw⟩ := hcut
    subst e3
    have hKc : KAt K wc := hK.chg hcw (by simp)
    have hsum := h_sum K none wc p q msgs hKc hh hml (.slice none 0 0) (Own.nil _) (by simp [Value.ownBlock])
    have HS := Lib.hid hsum
    clear heq heg hsum
    go_upto_region 3 with fail
    go_wp2_with (first | (refine inv_sum none p (u := .slice none 0 0) rfl _ _ rfl rfl rfl HS.out ?_; rintro v2 w2 ⟨ho2, hc2, hf2⟩; have hc2' : Chg [] wc w2 := hc2.mono (by simp [Value.ownBlock]); have hh2 := hh.chg hc2' (by simp) (by simp)) | (refine inv_size none p rfl _ rfl rfl (h_size none _ p q hh2.raw K) ?_; rintro w3 rfl) | (go_at_call 72; refine (xlabel_digest K w2 _ B (HM.out.keep (hcw.trans hc2')) key kv s ((hfK K none).sum msgs) v2 hk hl (by rw [hok.len]; omega) (hfK K none).sz (by omega) (hkv.keep (hcw.trans hc2')) (ho2.bs (by simp))).mono ?_; rintro e w4 ⟨u, rfl, fu⟩))
    go_ret
    exact ⟨_, rfl, fu.from (hcw.trans hc2')⟩
set_option maxRecDepth 100000 in
set_option maxHeartbeats 600000 in
theorem hextract_own (K : List UInt32) (x : Nat × Nat) (w : World) (F : Value) (B : List Nat) (hM : Maker K (some x) B w F mkP) (secret salt : Bs) (sv tv : Value) (hs : secret.length ≤ 65536) (ht : salt.length ≤ 65536) (hsv : BS [] w sv secret) (htv : BS [] w tv salt) :
    Calls Tryd.prog 109 #[F, sv, tv] w (Gives w (extractF (hfK K (some x)) secret salt)) := by
  have hok := hfK_ok K hM.1
  have hs32 := hok.sz32
  have hM0 := hM
  obtain ⟨hk1, hK, hB0, hBl, f, fst, cap, rfl, hcf, hcalls⟩ := hM0
  obtain ⟨ta, tc, htf⟩ := htv.form
  subst htf
  have heq := eql_nil ta salt.length tc (fun h => (htv.nilV h).2)
  have HM := Lib.hid hM
  have HCF := Lib.hid hcf
  have HCL := Lib.hid hcalls
  clear hM hcf hcalls
  go_enter Tryd.func109, Tryd.ntmps109
  go_upto_if 9 with fail
  go_cut [2] (fun t2 wx => ∃ salt' : Bs, BS [] wx t2 salt' ∧ salt'.length ≤ 65536 ∧ Hid (mac (hfK K (some x)) salt' secret = extractF (hfK K (some x)) secret salt) ∧ Chg [] w wx)
  case first =>
    cases ta with
    | some ad =>
      go_wp2
      go_meet
      exact ⟨salt, htv, ht, Lib.hid (extractF_eq hok secret salt).symm, Chg.refl _ _⟩
    | none =>
      obtain ⟨hx0, hn0, hc0⟩ := htv.nilV rfl
      have hmk := mk_zeros (hfK K (some x)) (by omega)
      rw [hn0, hc0] at heq htv ⊢
      go_wp2_with (first | (refine call_value (.tmp 10) rfl #[] rfl rfl HCF.out (HCL.out _ (fun _ _ => rfl)) ?_; rintro x w2 ⟨p, q, rfl, hp, hq, hh, hcx⟩) | (refine inv_size (some x) p rfl _ rfl rfl (h_size (some x) _ p q hh.raw K) ?_; rintro w3 rfl))
      go_meet
      have hz := zeros_length (hfK K (some x))
      refine ⟨zeros (hfK K (some x)), bs_zeros (hfK K (some x)) (by omega) w2, by omega, Lib.hid ?_, hcx.alloc _⟩
      rw [hx0, extractF_zeros hok]
  case rest =>
    obtain ⟨salt', hbt, hlt, hmac, hcw⟩ := hcut
    have hnew := newo_own K x wc _ B (HM.out.keep hcw) salt' _ hlt hbt
    have HN := Lib.hid hnew
    clear hnew heq
    go_upto_region 4 with (go_at_call 114; refine HN.out.mono ?_; rintro e w1 ⟨h, F1, rfl, hm1, hc1, hf1⟩)
    have hK1 : KAt K w1 := (hK.chg hcw (by simp)).chg hc1 (by simp)
    go_upto_region 5 with (go_at_call 117; refine (maco_mark K (some x) w1 F1 h salt' [] hm1).mono ?_; rintro e w2 ⟨rfl, hm2, hc2⟩)
    have hK2 := hK1.chg hc2 hm1.no0
    have hfw : ∀ x ∈ F1, w.heap.size ≤ x := fun x hx => Nat.le_trans hcw.size (hf1 x hx)
    have hcw2 : Chg [] w w2 := (hcw.trans hc1).and hc2 (fun i hi => .inr (hfw i hi))
    have hsv2 : BS F1 w2 sv secret := hsv.to hcw2 (by simp) (fun k hk => .inr (hfw k hk))
    go_upto_region 6 with (go_at_call 112; refine (maco_write K (some x) w2 F1 h salt' [] hK2 hm2 (by simp) sv secret hs hsv2).mono ?_; rintro e w3 ⟨rfl, hm3, hc3⟩)
    rw [List.nil_append] at hm3
    have hK3 := hK2.chg hc3 hm2.no0
    have hcw3 : Chg [] w w3 := hcw2.and hc3 (fun i hi => .inr (hfw i hi))
    go_wp2_with (go_at_call 113; refine (maco_sum K (some x) w3 F1 h salt' secret hK3 hm3 (by omega) (.slice none 0 0) (Own.nil _) (by simp [Value.ownBlock])).mono ?_; rintro e w4 ⟨u, rfl, hu, hm4, hc4, hfu⟩)
    go_ret
    rw [hmac.out] at hu
    refine ⟨_, rfl, hu, hcw3.and hc4 (fun i hi => by simp [Value.ownBlock] at hi; exact .inr (hfw i hi)), fun g hg => ?_⟩
    rcases hfu g hg with h | h
    · simp [Value.ownBlock] at h
    · exact Nat.le_trans hcw3.size h
set_option maxRecDepth 100000 in
set_option maxHeartbeats 600000 in
theorem textract_own (K : List UInt32) (x : Nat × Nat) (w : World) (F : Value) (B : List Nat) (hM : Maker K (some x) B w F mkP) (secret salt : Bs) (sv tv : Value) (hs : secret.length ≤ 65536) (ht : salt.length ≤ 65536) (hsv : BS [] w sv secret) (htv : BS [] w tv salt) (hnil : sv = .slice none 0 0 ↔ secret = []) :
    Calls Tryd.prog 92 #[F, sv, tv] w (Gives w (extractF (hfK K (some x)) (orZeros (hfK K (some x)) secret) salt)) := by
  have hok := hfK_ok K hM.1
  have hs32 := hok.sz32
  have hM0 := hM
  obtain ⟨hk1, hK, hB0, hBl, f, fst, cap, rfl, hcf, hcalls⟩ := hM0
  obtain ⟨ta, tc, htf⟩ := hsv.form
  subst htf
  have heq := eql_nil ta secret.length tc (fun h => (hsv.nilV h).2)
  have HM := Lib.hid hM
  have HCF := Lib.hid hcf
  have HCL := Lib.hid hcalls
  clear hM hcf hcalls
  go_enter Tryd.func92, Tryd.ntmps92
  go_upto_if 8 with fail
  go_cut [1] (fun t1 wx => ∃ sec' : Bs, BS [] wx t1 sec' ∧ sec'.length ≤ 65536 ∧ Hid (sec' = orZeros (hfK K (some x)) secret) ∧ Chg [] w wx)
  case first =>
    cases ta with
    | some ad =>
      go_wp2
      go_meet
      refine ⟨secret, hsv, hs, Lib.hid ?_, Chg.refl _ _⟩
      unfold orZeros
      rw [if_neg (fun h => by have := hnil.2 h; cases this)]
    | none =>
      obtain ⟨hx0, hn0, hc0⟩ := hsv.nilV rfl
      have hmk := mk_zeros (hfK K (some x)) (by omega)
      rw [hn0, hc0] at heq hsv ⊢
      go_wp2_with (first | (refine call_value (.tmp 9) rfl #[] rfl rfl HCF.out (HCL.out _ (fun _ _ => rfl)) ?_; rintro x w2 ⟨p, q, rfl, hp, hq, hh, hcx⟩) | (refine inv_size (some x) p rfl _ rfl rfl (h_size (some x) _ p q hh.raw K) ?_; rintro w3 rfl))
      go_meet
      have hz := zeros_length (hfK K (some x))
      refine ⟨zeros (hfK K (some x)), bs_zeros (hfK K (some x)) (by omega) w2, by omega, Lib.hid ?_, hcx.alloc _⟩
      rw [hx0]
      unfold orZeros
      rw [if_pos rfl]
  case rest =>
    obtain ⟨sec', hbt, hlt, hsec, hcw⟩ := hcut
    have hcall := hextract_own K x wc _ B (HM.out.keep hcw) sec' salt _ tv hlt ht hbt (htv.keep hcw)
    have HC := Lib.hid hcall
    clear hcall heq
    go_wp2_with (go_at_call 109; refine HC.out.mono ?_; rintro e w4 ⟨u, rfl, fu⟩)
    go_ret
    rw [hsec.out] at fu
    exact ⟨_, rfl, fu.from hcw⟩
set_option maxRecDepth 100000 in
set_option maxHeartbeats 1000000 in
theorem dsecret_own (K : List UInt32) (x : Nat × Nat) (w : World) (F : Value) (B : List Nat) (hM : Maker K (some x) B w F mkP) (key : Bs) (kv : Value) (s : ByteArray) (tv : Value) (msgs : Bs) (hk : key.length ≤ 65536) (hl : s.size ≤ 249) (hml : msgs.length ≤ 500000) (hkv : BS [] w kv key)
    (hT : (tv = .nilIface ∧ msgs = []) ∨ ∃ p q, tv = .iface (kTy (some x)) (.pointer (some ⟨p, 0, none⟩)) ∧ HAt K (some x) w p q msgs) :
    Calls Tryd.prog 94 #[F, kv, .string s, tv] w (Gives w (deriveF (hfK K (some x)) key (sb s) msgs)) := by
  have hok := hfK_ok K hM.1
  have hs32 := hok.sz32
  have hsp := hok.pos
  have hM0 := hM
  obtain ⟨hk1, hK, hB0, hBl, f, fst, cap, rfl, hcf, hcalls⟩ := hM0
  have heq : ∃ bb : Bool, (∀ W, (binOp .eql 89 tv .nilIface).run Tryd.prog W = .ok (.bool bb) W) ∧ (∀ W, (eqGuard .eql 89 (.tmp 9) (.const .nilIface) tv .nilIface).run Tryd.prog W = .ok () W) ∧ (bb = true → tv = .nilIface ∧ msgs = []) ∧ (bb = false → ∃ p q, tv = .iface (kTy (some x)) (.pointer (some ⟨p, 0, none⟩)) ∧ HAt K (some x) w p q msgs) := by
    rcases hT with ⟨rfl, hm⟩ | ⟨p, q, rfl, hh⟩
    · exact ⟨true, fun W => by kernel_rfl, fun W => by kernel_rfl, fun _ => ⟨rfl, hm⟩, (fun h => by cases h)⟩
    · exact ⟨false, fun W => eql_inil _ _ W, fun W => eqg_inil _ _ W, (fun h => by cases h), fun _ => ⟨p, q, rfl, hh⟩⟩
  obtain ⟨bb, heq, heg, hT1, hT2⟩ := heq
  have HM := Lib.hid hM
  have HCF := Lib.hid hcf
  have HCL := Lib.hid hcalls
  have HT1 := Lib.hid hT1
  have HT2 := Lib.hid hT2
  clear hM hcf hcalls hT hT1 hT2
  go_enter Tryd.func94, Tryd.ntmps94
  go_upto_if 10 with fail
  go_cut [3] (fun t3 wx => ∃ p q, t3 = .iface (kTy (some x)) (.pointer (some ⟨p, 0, none⟩)) ∧ HAt K (some x) wx p q msgs ∧ Chg [] w wx)
  case first =>
    cases bb with
    | false =>
      obtain ⟨p, q, htv, hh⟩ := HT2.out rfl
      go_wp2
      go_meet
      exact ⟨p, q, by first | rfl | exact htv, hh, Chg.refl _ _⟩
    | true =>
      obtain ⟨htv, hm0⟩ := HT1.out rfl
      have Htv := Lib.hid htv
      have Hm0 := Lib.hid hm0
      clear htv hm0
      go_wp2_with (refine call_value (.tmp 11) rfl #[] rfl rfl HCF.out (HCL.out _ (fun _ _ => rfl)) ?_; rintro x w2 ⟨p, q, rfl, hp, hq, hh, hcx⟩)
      go_meet
      rw [Hm0.out]
      exact ⟨p, q, rfl, hh, hcx⟩
  case rest =>
    obtain ⟨p, q, e3, hh, hcw⟩ := hcut
    subst e3
    have hKc : KAt K wc := hK.chg hcw (by simp)
    have hsum := h_sum K (some x) wc p q msgs hKc hh hml (.slice none 0 0) (Own.nil _) (by simp [Value.ownBlock])
    have HS := Lib.hid hsum
    clear heq heg hsum
    go_upto_region 3 with fail
    go_wp2_with (first | (refine inv_sum (some x) p (u := .slice none 0 0) rfl _ _ rfl rfl rfl HS.out ?_; rintro v2 w2 ⟨ho2, hc2, hf2⟩; have hc2' : Chg [] wc w2 := hc2.mono (by simp [Value.ownBlock]); have hh2 := hh.chg hc2' (by simp) (by simp)) | (refine inv_size (some x) p rfl _ rfl rfl (h_size (some x) _ p q hh2.raw K) ?_; rintro w3 rfl) | (go_at_call 73; refine (xlabel_own K x w2 _ B (HM.out.keep (hcw.trans hc2')) key kv s ((hfK K (some x)).sum msgs) v2 hk hl (by rw [hok.len]; omega) (hfK K (some x)).sz (by omega) (hkv.keep (hcw.trans hc2')) (ho2.bs (by simp))).mono ?_; rintro e w4 ⟨u, rfl, fu⟩))
    go_ret
    exact ⟨_, rfl, fu.from (hcw.trans hc2')⟩
set_option maxRecDepth 100000 in
set_option maxHeartbeats 600000 in
theorem hextract_hash (K : List UInt32) (κ : Kd) (w : World) (F : Value) (B : List Nat) (hM : Maker K κ B w F (mkI κ)) (secret salt : Bs) (sv tv : Value) (hs : secret.length ≤ 65536) (ht : salt.length ≤ 65536) (hsv : BS [] w sv secret) (htv : BS [] w tv salt) :
    Calls Tryd.prog 105 #[F, sv, tv] w (Gives w (extractF (hfK K κ) secret salt)) := by
  have hok := hfK_ok K hM.1
  have hs32 := hok.sz32
  have hM0 := hM
  obtain ⟨hk1, hK, hB0, hBl, f, fst, cap, rfl, hcf, hcalls⟩ := hM0
  obtain ⟨ta, tc, htf⟩ := htv.form
  subst htf
  have heq := eql_nil ta salt.length tc (fun h => (htv.nilV h).2)
  have HM := Lib.hid hM
  have HCF := Lib.hid hcf
  have HCL := Lib.hid hcalls
  clear hM hcf hcalls
  go_enter Tryd.func105, Tryd.ntmps105
  go_upto_if 9 with fail
  go_cut [2] (fun t2 wx => ∃ salt' : Bs, BS [] wx t2 salt' ∧ salt'.length ≤ 65536 ∧ Hid (mac (hfK K κ) salt' secret = extractF (hfK K κ) secret salt) ∧ Chg [] w wx)
  case first =>
    cases ta with
    | some ad =>
      go_wp2
      go_meet
      exact ⟨salt, htv, ht, Lib.hid (extractF_eq hok secret salt).symm, Chg.refl _ _⟩
    | none =>
      obtain ⟨hx0, hn0, hc0⟩ := htv.nilV rfl
      have hmk := mk_zeros (hfK K κ) (by omega)
      rw [hn0, hc0] at heq htv ⊢
      go_wp2_with (first | (refine call_value (.tmp 10) rfl #[] rfl rfl HCF.out (HCL.out _ (fun _ _ => rfl)) ?_; rintro x w2 ⟨p, q, rfl, hp, hq, hh, hcx⟩) | (refine inv_size κ p rfl _ rfl rfl (h_size κ _ p q hh.raw K) ?_; rintro w3 rfl))
      go_meet
      have hz := zeros_length (hfK K κ)
      refine ⟨zeros (hfK K κ), bs_zeros (hfK K κ) (by omega) w2, by omega, Lib.hid ?_, hcx.alloc _⟩
      rw [hx0, extractF_zeros hok]
  case rest =>
    obtain ⟨salt', hbt, hlt, hmac, hcw⟩ := hcut
    have hnew := newo_hash K κ wc _ B (HM.out.keep hcw) salt' _ hlt hbt
    have HN := Lib.hid hnew
    clear hnew heq
    go_upto_region 4 with (go_at_call 116; refine HN.out.mono ?_; rintro e w1 ⟨h, F1, rfl, hm1, hc1, hf1⟩)
    have hK1 : KAt K w1 := (hK.chg hcw (by simp)).chg hc1 (by simp)
    go_upto_region 5 with (go_at_call 117; refine (maco_mark K κ w1 F1 h salt' [] hm1).mono ?_; rintro e w2 ⟨rfl, hm2, hc2⟩)
    have hK2 := hK1.chg hc2 hm1.no0
    have hfw : ∀ x ∈ F1, w.heap.size ≤ x := fun x hx => Nat.le_trans hcw.size (hf1 x hx)
    have hcw2 : Chg [] w w2 := (hcw.trans hc1).and hc2 (fun i hi => .inr (hfw i hi))
    have hsv2 : BS F1 w2 sv secret := hsv.to hcw2 (by simp) (fun k hk => .inr (hfw k hk))
    go_upto_region 6 with (go_at_call 112; refine (maco_write K κ w2 F1 h salt' [] hK2 hm2 (by simp) sv secret hs hsv2).mono ?_; rintro e w3 ⟨rfl, hm3, hc3⟩)
    rw [List.nil_append] at hm3
    have hK3 := hK2.chg hc3 hm2.no0
    have hcw3 : Chg [] w w3 := hcw2.and hc3 (fun i hi => .inr (hfw i hi))
    go_wp2_with (go_at_call 113; refine (maco_sum K κ w3 F1 h salt' secret hK3 hm3 (by omega) (.slice none 0 0) (Own.nil _) (by simp [Value.ownBlock])).mono ?_; rintro e w4 ⟨u, rfl, hu, hm4, hc4, hfu⟩)
    go_ret
    rw [hmac.out] at hu
    refine ⟨_, rfl, hu, hcw3.and hc4 (fun i hi => by simp [Value.ownBlock] at hi; exact .inr (hfw i hi)), fun g hg => ?_⟩
    rcases hfu g hg with h | h
    · simp [Value.ownBlock] at h
    · exact Nat.le_trans hcw3.size h
set_option maxRecDepth 100000 in
set_option maxHeartbeats 600000 in
theorem textract_hash (K : List UInt32) (κ : Kd) (w : World) (F : Value) (B : List Nat) (hM : Maker K κ B w F (mkI κ)) (secret salt : Bs) (sv tv : Value) (hs : secret.length ≤ 65536) (ht : salt.length ≤ 65536) (hsv : BS [] w sv secret) (htv : BS [] w tv salt) (hnil : sv = .slice none 0 0 ↔ secret = []) :
    Calls Tryd.prog 86 #[F, sv, tv] w (Gives w (extractF (hfK K κ) (orZeros (hfK K κ) secret) salt)) := by
  have hok := hfK_ok K hM.1
  have hs32 := hok.sz32
  have hM0 := hM
  obtain ⟨hk1, hK, hB0, hBl, f, fst, cap, rfl, hcf, hcalls⟩ := hM0
  obtain ⟨ta, tc, htf⟩ := hsv.form
  subst htf
  have heq := eql_nil ta secret.length tc (fun h => (hsv.nilV h).2)
  have HM := Lib.hid hM
  have HCF := Lib.hid hcf
  have HCL := Lib.hid hcalls
  clear hM hcf hcalls
  go_enter Tryd.func86, Tryd.ntmps86
  go_upto_if 8 with fail
  go_cut [1] (fun t1 wx => ∃ sec' : Bs, BS [] wx t1 sec' ∧ sec'.length ≤ 65536 ∧ Hid (sec' = orZeros (hfK K κ) secret) ∧ Chg [] w wx)
  case first =>
    cases ta with
    | some ad =>
      go_wp2
      go_meet
      refine ⟨secret, hsv, hs, Lib.hid ?_, Chg.refl _ _⟩
      unfold orZeros
      rw [if_neg (fun h => by have := hnil.2 h; cases this)]
    | none =>
      obtain ⟨hx0, hn0, hc0⟩ := hsv.nilV rfl
      have hmk := mk_zeros (hfK K κ) (by omega)
      rw [hn0, hc0] at heq hsv ⊢
      go_wp2_with (first | (refine call_value (.tmp 9) rfl #[] rfl rfl HCF.out (HCL.out _ (fun _ _ => rfl)) ?_; rintro x w2 ⟨p, q, rfl, hp, hq, hh, hcx⟩) | (refine inv_size κ p rfl _ rfl rfl (h_size κ _ p q hh.raw K) ?_; rintro w3 rfl))
      go_meet
      have hz := zeros_length (hfK K κ)
      refine ⟨zeros (hfK K κ), bs_zeros (hfK K κ) (by omega) w2, by omega, Lib.hid ?_, hcx.alloc _⟩
      rw [hx0]
      unfold orZeros
      rw [if_pos rfl]
  case rest =>
    obtain ⟨sec', hbt, hlt, hsec, hcw⟩ := hcut
    have hcall := hextract_hash K κ wc _ B (HM.out.keep hcw) sec' salt _ tv hlt ht hbt (htv.keep hcw)
    have HC := Lib.hid hcall
    clear hcall heq
    go_wp2_with (go_at_call 105; refine HC.out.mono ?_; rintro e w4 ⟨u, rfl, fu⟩)
    go_ret
    rw [hsec.out] at fu
    exact ⟨_, rfl, fu.from hcw⟩
set_option maxRecDepth 100000 in
set_option maxHeartbeats 1000000 in
theorem dsecret_hash (K : List UInt32) (κ : Kd) (w : World) (F : Value) (B : List Nat) (hM : Maker K κ B w F (mkI κ)) (key : Bs) (kv : Value) (s : ByteArray) (tv : Value) (msgs : Bs) (hk : key.length ≤ 65536) (hl : s.size ≤ 249) (hml : msgs.length ≤ 500000) (hkv : BS [] w kv key)
    (hT : (tv = .nilIface ∧ msgs = []) ∨ ∃ p q, tv = .iface (kTy κ) (.pointer (some ⟨p, 0, none⟩)) ∧ HAt K κ w p q msgs) :
    Calls Tryd.prog 84 #[F, kv, .string s, tv] w (Gives w (deriveF (hfK K κ) key (sb s) msgs)) := by
  have hok := hfK_ok K hM.1
  have hs32 := hok.sz32
  have hsp := hok.pos
  have hM0 := hM
  obtain ⟨hk1, hK, hB0, hBl, f, fst, cap, rfl, hcf, hcalls⟩ := hM0
  have heq : ∃ bb : Bool, (∀ W, (binOp .eql 89 tv .nilIface).run Tryd.prog W = .ok (.bool bb) W) ∧ (∀ W, (eqGuard .eql 89 (.tmp 9) (.const .nilIface) tv .nilIface).run Tryd.prog W = .ok () W) ∧ (bb = true → tv = .nilIface ∧ msgs = []) ∧ (bb = false → ∃ p q, tv = .iface (kTy κ) (.pointer (some ⟨p, 0, none⟩)) ∧ HAt K κ w p q msgs) := by
    rcases hT with ⟨rfl, hm⟩ | ⟨p, q, rfl, hh⟩
    · exact ⟨true, fun W => by kernel_rfl, fun W => by kernel_rfl, fun _ => ⟨rfl, hm⟩, (fun h => by cases h)⟩
    · exact ⟨false, fun W => eql_inil _ _ W, fun W => eqg_inil _ _ W, (fun h => by cases h), fun _ => ⟨p, q, rfl, hh⟩⟩
  obtain ⟨bb, heq, heg, hT1, hT2⟩ := heq
  have HM := Lib.hid hM
  have HCF := Lib.hid hcf
  have HCL := Lib.hid hcalls
  have HT1 := Lib.hid hT1
  have HT2 := Lib.hid hT2
  clear hM hcf hcalls hT hT1 hT2
  go_enter Tryd.func84, Tryd.ntmps84
  go_upto_if 10 with fail
  go_cut [3] (fun t3 wx => ∃ p q, t3 = .iface (kTy κ) (.pointer (some ⟨p, 0, none⟩)) ∧ HAt K κ wx p q msgs ∧ Chg [] w wx)
  case first =>
    cases bb with
    | false =>
      obtain ⟨p, q, htv, hh⟩ := HT2.out rfl
      go_wp2
      go_meet
      exact ⟨p, q, by first | rfl | exact htv, hh, Chg.refl _ _⟩
    | true =>
      obtain ⟨htv, hm0⟩ := HT1.out rfl
      have Htv := Lib.hid htv
      have Hm0 := Lib.hid hm0
      clear htv hm0
      go_wp2_with (refine call_value (.tmp 11) rfl #[] rfl rfl HCF.out (HCL.out _ (fun _ _ => rfl)) ?_; rintro x w2 ⟨p, q, rfl, hp, hq, hh, hcx⟩)
      go_meet
      rw [Hm0.out]
      exact ⟨p, q, rfl, hh, hcx⟩
  case rest =>
    obtain ⟨p, q, e3, hh, hcw⟩ := hcut
    subst e3
    have hKc : KAt K wc := hK.chg hcw (by simp)
    have hsum := h_sum K κ wc p q msgs hKc hh hml (.slice none 0 0) (Own.nil _) (by simp [Value.ownBlock])
    have HS := Lib.hid hsum
    clear heq heg hsum
    go_upto_region 3 with fail
    go_wp2_with (first | (refine inv_sum κ p (u := .slice none 0 0) rfl _ _ rfl rfl rfl HS.out ?_; rintro v2 w2 ⟨ho2, hc2, hf2⟩; have hc2' : Chg [] wc w2 := hc2.mono (by simp [Value.ownBlock]); have hh2 := hh.chg hc2' (by simp) (by simp)) | (refine inv_size κ p rfl _ rfl rfl (h_size κ _ p q hh2.raw K) ?_; rintro w3 rfl) | (go_at_call 90; refine (xlabel_hash K κ w2 _ B (HM.out.keep (hcw.trans hc2')) key kv s ((hfK K κ).sum msgs) v2 hk hl (by rw [hok.len]; omega) (hfK K κ).sz (by omega) (hkv.keep (hcw.trans hc2')) (ho2.bs (by simp))).mono ?_; rintro e w4 ⟨u, rfl, fu⟩))
    go_ret
    exact ⟨_, rfl, fu.from (hcw.trans hc2')⟩
end Go.Proofs.YtknoomndofnnmaaDoor
