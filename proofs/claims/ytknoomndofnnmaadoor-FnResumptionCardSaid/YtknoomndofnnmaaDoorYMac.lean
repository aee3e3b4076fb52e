/- HMAC: Write, Sum. -/
import Derived.Test.YtknoomndofnnmaaDoorYHash
namespace Go.Proofs.YtknoomndofnnmaaDoor
open Go Go.RowKit

def Apart (A B : List Nat) : Prop := ∀ x ∈ A, x ∉ B
/-- Bytes in the block b. -/
def Pad (b : Nat) (w : World) (v : Value) (xs : Bs) : Prop :=
  ∃ off c, v = .slice (some ⟨b, off, none⟩) xs.length c ∧ xs.length ≤ c ∧ c ≤ maxLen ∧ ∀ j, j < xs.length → w.cell? ⟨b, off + j, none⟩ = some (.int .u8 ((gt xs j).toNat : Int))
theorem Pad.bs {b : Nat} {w : World} {v : Value} {xs : Bs} (h : Pad b w v xs) {S : List Nat} (hb : b ∉ S) : BS S w v xs := by
  obtain ⟨off, c, hv, h1, h2, h3⟩ := h
  exact ⟨_, c, hv, h1, h2, fun h => (by cases h), .inr ⟨b, off, rfl, hb, h3⟩⟩
theorem Pad.chg {b : Nat} {w w' : World} {v : Value} {xs : Bs} {S : List Nat} (h : Pad b w v xs) (hc : Chg S w w') (hb : b ∉ S) : Pad b w' v xs := by
  obtain ⟨off, c, hv, h1, h2, h3⟩ := h
  exact ⟨off, c, hv, h1, h2, fun j hj => hc.cell (h3 j hj) hb⟩
theorem Own.pad {w : World} {v : Value} {xs : Bs} (h : Own w v xs) (hx : xs ≠ []) : ∃ b, v.ownBlock = some b ∧ Pad b w v xs := by
  have hh := id h
  rcases h with ⟨_, h⟩ | ⟨g, cap, cur, rfl, hg, hc, hm, hs, ht⟩
  · exact absurd h hx
  · exact ⟨g, rfl, 0, cap, rfl, hc, hm, fun j hj => by rw [Nat.zero_add]; exact hh.cells rfl j hj⟩

/-- A MAC at h: its inner hash at p (row s), its outer one at q (row t), its pads in the blocks bo and bi; m: the pads are states. -/
structure MacAt (K : List UInt32) (κ : Kd) (w : World) (h p s q t bo bi : Nat) (key d : Bs) (m : Bool) : Prop where
  ok : κ.ok
  a1 : Apart [h, bo, bi] [p, s, q, t]
  a2 : Apart [p, s] [q, t]
  a3 : Apart [h] [bo, bi]
  a4 : Apart [0] [h, p, s, q, t, bo, bi]
  inn : HAt K κ w p s (padX (hfK K κ) key 0x36 ++ d)
  out : HRaw κ w q t
  row : ∃ ov iv fh kl, w.heap[h]? = some (.cells #[ov, iv, .iface (kTy κ) (.pointer (some ⟨q, 0, none⟩)), .iface (kTy κ) (.pointer (some ⟨p, 0, none⟩)), .bool m, fh, kl] 121 (0, 0)) ∧
      match m with
      | true => κ = none ∧ Pad bo w ov (marsh (shaAll K shaInit (padX (hfK K κ) key 0x5c)) 64) ∧ Pad bi w iv (marsh (shaAll K shaInit (padX (hfK K κ) key 0x36)) 64)
      | false => Pad bo w ov (padX (hfK K κ) key 0x5c) ∧ Pad bi w iv (padX (hfK K κ) key 0x36)
theorem MacAt.chg {K : List UInt32} {κ : Kd} {w w' : World} {h p s q t bo bi : Nat} {key d : Bs} {m : Bool} {S : List Nat} (hm : MacAt K κ w h p s q t bo bi key d m) (hc : Chg S w w') (hS : Apart [h, p, s, q, t, bo, bi] S) : MacAt K κ w' h p s q t bo bi key d m := by
  obtain ⟨h1, h2, h3, h4, h5, h6, h7, ov, iv, fh, kl, h8, h9⟩ := hm
  refine ⟨h1, h2, h3, h4, h5, h6.chg hc (hS p (by simp)) (hS s (by simp)), h7.chg hc (hS q (by simp)) (hS t (by simp)), ov, iv, fh, kl, hc.row h8 (hS h (by simp)), ?_⟩
  cases m with
  | true => exact ⟨h9.1, h9.2.1.chg hc (hS bo (by simp)), h9.2.2.chg hc (hS bi (by simp))⟩
  | false => exact ⟨h9.1.chg hc (hS bo (by simp)), h9.2.chg hc (hS bi (by simp))⟩

set_option maxHeartbeats 1000000 in
theorem mac_write (K : List UInt32) (κ : Kd) (w : World) (h p s q t bo bi : Nat) (key d : Bs) (m : Bool) (hK : KAt K w) (hm : MacAt K κ w h p s q t bo bi key d m) (hd : d.length ≤ 400000) (v : Value) (xs : Bs) (hx : xs.length ≤ 65536) (hv : BS [p, s] w v xs) :
    Calls Tryd.prog 112 #[.pointer (some ⟨h, 0, none⟩), v] w fun e w' => e = .returned (.tuple #[.int .i64 xs.length, .nilIface]) ∧ MacAt K κ w' h p s q t bo bi key (d ++ xs) m ∧ Chg [p, s] w w' := by
  obtain ⟨h1, h2, h3, h4, h5, h6, h7, ov, iv, fh, kl, h8, h9⟩ := hm
  have hpl := padX_length (hfK_ok K h1) key 0x36
  have hbk := (hfK_ok K h1).bk64
  have hw := h_write K κ w p s _ hK h6 (by simp; omega) v xs hx hv
  have HW := Lib.hid hw
  have c3 : w.cell? ⟨h, 3, none⟩ = some (.iface (kTy κ) (.pointer (some ⟨p, 0, none⟩))) := blk_cell h8 3
  clear hw hpl hbk
  go_enter Tryd.func112, Tryd.ntmps112
  go_wp2_with (refine inv_write κ p (u := v) rfl (.tmp 9) (.tmp 10) rfl rfl rfl HW.out ?_; rintro w' ⟨hh, hc⟩)
  go_ret2
  have n1 : ∀ x ∈ [h, bo, bi], x ∉ [p, s] := fun x hx hm => h2 x hx (by simp at hm ⊢; rcases hm with rfl | rfl <;> simp)
  have n2 : q ∉ [p, s] := fun hm => by simp at hm; rcases hm with rfl | rfl; exact h3 q (by simp) (by simp); exact h3 q (by simp) (by simp)
  have n3 : t ∉ [p, s] := fun hm => by simp at hm; rcases hm with rfl | rfl; exact h3 t (by simp) (by simp); exact h3 t (by simp) (by simp)
  refine ⟨rfl, ⟨h1, h2, h3, h4, h5, by rw [← List.append_assoc]; exact hh, h7.chg hc n2 n3, ov, iv, fh, kl, hc.row h8 (n1 h (by simp)), ?_⟩, hc⟩
  cases m with
  | true => exact ⟨h9.1, h9.2.1.chg hc (n1 bo (by simp)), h9.2.2.chg hc (n1 bi (by simp))⟩
  | false => exact ⟨h9.1.chg hc (n1 bo (by simp)), h9.2.chg hc (n1 bi (by simp))⟩

theorem Own.head0 {w : World} {a : Option Addr} {n c : Nat} {xs : Bs} (h : Own w (.slice a n c) xs) : Own w (.slice a 0 c) [] := by
  rcases h with ⟨h, rfl⟩ | ⟨g, cap, cur, h, hg, hc, hm, hs, ht⟩
  · cases h; exact .inl ⟨rfl, rfl⟩
  · cases h; exact .inr ⟨g, c, cur, rfl, hg, Nat.zero_le _, hm, hs, rfl⟩
theorem own_len (a : Option Addr) (n m c : Nat) : (Value.slice a n c).ownBlock = (Value.slice a m c).ownBlock := by cases a <;> rfl
theorem ta_sum (p : Nat) (W : World) : (Instr.typeAssert (.iface (kTy none) (.pointer (some ⟨p, 0, none⟩))) 89 123 false).run Tryd.prog W = .ok (.iface (kTy none) (.pointer (some ⟨p, 0, none⟩))) W := by kernel_rfl

set_option maxRecDepth 100000 in
set_option maxHeartbeats 1000000 in
theorem mac_sum (K : List UInt32) (κ : Kd) (w : World) (h p s q t bo bi : Nat) (key d : Bs) (m : Bool) (hK : KAt K w) (hm : MacAt K κ w h p s q t bo bi key d m) (hd : d.length ≤ 400000) (vin : Value) (hv : Own w vin []) (hvo : ∀ g, vin.ownBlock = some g → g ∉ [0, h, p, s, q, t, bo, bi]) :
    Calls Tryd.prog 113 #[.pointer (some ⟨h, 0, none⟩), vin] w fun e w' => ∃ v', e = .returned v' ∧ Own w' v' (mac (hfK K κ) key d) ∧ MacAt K κ w' h p s q t bo bi key d m ∧ Chg (q :: t :: vin.ownBlock.toList) w w' ∧ ∀ g, v'.ownBlock = some g → vin.ownBlock = some g ∨ w.heap.size ≤ g := by
  obtain ⟨h1, h2, h3, h4, h5, h6, h7, ov, iv, fh, kl, h8, h9⟩ := hm
  have hok := hfK_ok K h1
  have hpl := padX_length hok key 0x36
  have hpl2 := padX_length hok key 0x5c
  have hbk := hok.bk64
  have hsz := hok.sz32
  have hle := hok.le
  obtain ⟨a0, c0, hvin, -⟩ := hv.bs (S := []) (fun _ _ => by simp)
  have hs := h_sum K κ w p s _ hK h6 (by simp; omega) vin hv (fun g hg hm => hvo g hg (by simp at hm ⊢; rcases hm with rfl | rfl <;> simp))
  have HS := Lib.hid hs
  have c3 : w.cell? ⟨h, 3, none⟩ = some (.iface (kTy κ) (.pointer (some ⟨p, 0, none⟩))) := blk_cell h8 3
  have hlt : q < w.heap.size ∧ t < w.heap.size := h7.lt
  have hsl : ((hfK K κ).sum (padX (hfK K κ) key 0x36 ++ d)).length = (hfK K κ).sz := hok.len _
  have Hpl := Lib.hid hpl
  have Hpl2 := Lib.hid hpl2
  have Hsl := Lib.hid hsl
  obtain ⟨X, hX⟩ : ∃ X, X = (hfK K κ).sum (padX (hfK K κ) key 0x36 ++ d) := ⟨_, rfl⟩
  rw [← hX] at HS Hsl
  have HX := Lib.hid hX
  have HA1 := Lib.hid h2
  have HA3 := Lib.hid h4
  clear hs hpl hpl2 hsl hX
  subst hvin
  simp only [List.length_nil] at HS hv hvo
  have hF : ∀ k ∈ [0, h, p, s, q, t, bo, bi], k ∉ (Value.slice a0 0 c0).ownBlock.toList := fun k hk hm => hvo k (by simpa using hm) hk
  have HF := Lib.hid hF
  clear hF hvo
  go_enter Tryd.func113, Tryd.ntmps113
  go_upto_if 18 with (refine inv_sum κ p (u := .slice a0 0 c0) rfl (.tmp 12) (.tmp 13) rfl rfl rfl HS.out ?_; rintro v1 w1 ⟨ho1, hc1, hf1⟩; have h8a := hc1.row h8 (HF.out h (by simp)); have c4 : w1.cell? ⟨h, 4, none⟩ = some (.bool m) := blk_cell h8a 4)
  have hK1 := hK.chg hc1 (HF.out 0 (by simp))
  have h7a := h7.chg hc1 (HF.out q (by simp)) (HF.out t (by simp))
  clear c3
  go_cut [] (fun wx => HAt K κ wx q t (padX (hfK K κ) key 0x5c) ∧ Chg [q, t] w1 wx)
  case first =>
    have c2 : w1.cell? ⟨h, 2, none⟩ = some (.iface (kTy κ) (.pointer (some ⟨q, 0, none⟩))) := blk_cell h8a 2
    have c0' : w1.cell? ⟨h, 0, none⟩ = some ov := blk_cell h8a 0
    have nh : h ∉ [q, t] := fun hm => HA1.out h (by simp) (by simp at hm ⊢; rcases hm with rfl | rfl <;> simp)
    have nb : bo ∉ [q, t] := fun hm => HA1.out bo (by simp) (by simp at hm ⊢; rcases hm with rfl | rfl <;> simp)
    cases m with
    | false =>
      have hpad := (h9.1.chg hc1 (HF.out bo (by simp)))
      have HP := Lib.hid hpad
      have hr := h_reset K κ w1 q t h7a
      have HR := Lib.hid hr
      clear hr hpad
      go_wp2_with (refine inv_reset κ q rfl (.tmp 37) rfl rfl HR.out ?_; rintro w2 ⟨hh2, hc2⟩; have h8b := hc2.row h8a nh; have c2b : w2.cell? ⟨h, 2, none⟩ = some (.iface (kTy κ) (.pointer (some ⟨q, 0, none⟩))) := blk_cell h8b 2; have c0b : w2.cell? ⟨h, 0, none⟩ = some ov := blk_cell h8b 0)
      have hdr : Chg [] w2 w2.drew := (Chg.refl [] w2).drew
      have hw := h_write K κ w2.drew q t [] (hK1.chg (hc2.drew) (fun hm => h5 0 (by simp) (by simp at hm ⊢; rcases hm with h | h <;> simp [h]))) (hh2.chg hdr (by simp) (by simp)) (by simp) ov _ (by rw [Hpl2.out]; omega) (((HP.out.chg hc2 nb).chg hdr (by simp)).bs nb)
      have HW := Lib.hid hw
      clear hw
      refine region_tail 10 (by kernel_rfl) (by kernel_rfl) ?_
      simp only [List.take_succ_cons, List.take_zero, List.drop_succ_cons, List.drop_zero]
      repeat ((first | refine still_one rfl ?_ | refine still_one2 rfl ?_); go_wp2; refine Held1.mk ?_)
      refine wpStill_nil ?_
      refine inv_write κ q (u := ov) rfl (.tmp 48) (.tmp 46) rfl rfl rfl HW.out ?_
      rintro w3 ⟨hh3, hc3⟩
      go_wp2
      go_meet
      exact ⟨hh3, hc2.drew.trans hc3⟩
    | true =>
      obtain ⟨rfl, h9a, h9b⟩ := h9
      have hpad := (h9a.chg hc1 (HF.out bo (by simp)))
      have hta := ta_sum q
      have hK2 : (hfK K none).bk = 64 := rfl
      rw [← show (padX (hfK K none) key 0x5c).length = 64 from Hpl2.out] at hpad
      have hdr : Chg [] w1 w1.drew := (Chg.refl [] w1).drew
      have hu := dig_unmarshal K w1.drew q (padX (hfK K none) key 0x5c) (h7a.2.2.2.chg hdr (by simp)) (by rw [Hpl2.out]; exact show (64 : Nat) % 64 = 0 from rfl) (by rw [Hpl2.out]; exact show (64 : Nat) ≤ 500000 from Nat.le_of_ble_eq_true rfl) ov ((hpad.chg hdr (by simp)).bs (fun hm => nb (by simp at hm ⊢; exact .inl hm)))
      have HU := Lib.hid hu
      clear hu hpad hK2
      go_wp2
      refine region_tail 11 (by kernel_rfl) (by kernel_rfl) ?_
      simp only [List.take_succ_cons, List.take_zero, List.drop_succ_cons, List.drop_zero]
      repeat ((first | refine still_one rfl ?_ | refine still_one2 rfl ?_); go_wp2; refine Held1.mk ?_)
      refine wpStill_nil ?_
      refine inv_unm q (u := ov) rfl (.tmp 29) (.tmp 27) rfl rfl rfl HU.out ?_
      rintro w3 ⟨hh3, hc3⟩
      go_wp2
      go_meet
      exact ⟨⟨h7a.1, h7a.2.1, h7a.2.2.1, hh3⟩, (hdr.mono (by simp)).trans (hc3.mono (by simp))⟩
  case rest =>
    obtain ⟨hhc, hcc⟩ := hcut
    have nh : h ∉ [q, t] := fun hm => HA1.out h (by simp) (by simp at hm ⊢; rcases hm with rfl | rfl <;> simp)
    have hv1 : ∀ g, v1.ownBlock = some g → (Value.slice a0 0 c0).ownBlock = some g ∨ w.heap.size ≤ g := hf1
    have nv : ∀ g, v1.ownBlock = some g → g ∉ [q, t] := by
      intro g hg hm
      rcases hv1 g hg with h | h
      · exact HF.out g (by simp at hm ⊢; rcases hm with rfl | rfl <;> simp) (by simpa using h)
      · simp at hm; omega
    have ho1c := ho1.chg hcc nv
    have hbs := ho1c.bs (S := [q, t]) nv
    obtain ⟨a1, c1, hve, hx1, hx2, hx3, -⟩ := hbs
    subst hve
    have oe := own_len a1 0 X.length c1
    have OE := Lib.hid oe
    clear oe
    have hdr : Chg [] wc wc.drew := (Chg.refl [] wc).drew
    have hKc := (hK1.chg hcc (fun hm => h5 0 (by simp) (by simp at hm ⊢; rcases hm with h | h <;> simp [h])))
    have hbs2 := ((ho1c.bs (S := [q, t]) nv).cut 0 (by omega)).chg hdr (by simp)
    rw [List.drop_zero, Nat.sub_zero, Nat.sub_zero] at hbs2
    have hw := h_write K κ wc.drew q t _ (hKc.chg hdr (by simp)) (hhc.chg hdr (by simp) (by simp)) (by rw [Hpl2.out]; omega) _ X (by rw [Hsl.out]; omega) hbs2
    have HW := Lib.hid hw
    have hcut0 : ∀ W, (Instr.slice 24 (.slice a1 X.length c1) (some (.int .i64 0)) none none).run Tryd.prog W = .ok (.slice (cutO a1 c1 0) X.length c1) W := fun W => run_cut a1 X.length c1 0 (by omega) W
    have hhead0 : ∀ W, (Instr.slice 24 (.slice a1 X.length c1) none (some (.int .i64 0)) none).run Tryd.prog W = .ok (.slice a1 0 c1) W := fun W => run_head a1 X.length c1 0 (by omega) W
    have h8c := hcc.row h8a nh
    have c2 : wc.cell? ⟨h, 2, none⟩ = some (.iface (kTy κ) (.pointer (some ⟨q, 0, none⟩))) := blk_cell h8c 2
    have HO := Lib.hid ho1c
    have HV := Lib.hid nv
    clear hw hbs2 ho1 ho1c nv hx3
    go_wp2
    refine region_tail 9 (by kernel_rfl) (by kernel_rfl) ?_
    simp only [List.take_succ_cons, List.take_zero, List.drop_succ_cons, List.drop_zero]
    repeat ((first | refine still_one rfl ?_ | refine still_one2 rfl ?_); go_wp2; refine Held1.mk ?_)
    refine wpStill_nil ?_
    refine inv_write κ q (u := .slice (cutO a1 c1 0) X.length c1) rfl (.tmp 58) (.tmp 56) rfl rfl rfl HW.out ?_
    rintro w4 ⟨hh4, hc4⟩
    have h8d := hc4.row (blk_drew h8c) nh
    have c2 : w4.cell? ⟨h, 2, none⟩ = some (.iface (kTy κ) (.pointer (some ⟨q, 0, none⟩))) := blk_cell h8d 2
    have ho4 := (HO.out.chg hdr (by simp)).chg hc4 HV.out
    have hdr4 : Chg [] w4 w4.drew := (Chg.refl [] w4).drew
    have hs := h_sum K κ w4.drew q t _ ((hKc.chg hdr (by simp)).chg (hc4.trans (hdr4.mono (by simp))) (fun hm => h5 0 (by simp) (by simp at hm ⊢; rcases hm with h | h <;> simp [h]))) (hh4.chg hdr4 (by simp) (by simp)) (by rw [List.length_append, Hpl2.out, Hsl.out]; omega) (.slice a1 0 c1) ((Own.head0 ho4).chg hdr4 (by simp)) (fun g hg => HV.out g (OE.out ▸ hg))
    have HS2 := Lib.hid hs
    have HO4 := Lib.hid ho4
    clear hs ho4
    go_wp2
    refine region_tail 9 (by kernel_rfl) (by kernel_rfl) ?_
    simp only [List.take_succ_cons, List.take_zero, List.drop_succ_cons, List.drop_zero]
    repeat ((first | refine still_one rfl ?_ | refine still_one2 rfl ?_); go_wp2; refine Held1.mk ?_)
    refine wpStill_nil ?_
    refine inv_sum κ q (u := .slice a1 0 c1) rfl (.tmp 68) (.tmp 66) rfl rfl rfl HS2.out ?_
    rintro v5 w5 ⟨ho5, hc5, hf5⟩
    go_wp2
    go_ret
    have hc : Chg (q :: t :: (Value.slice a0 0 c0).ownBlock.toList) w w5 := by
      have e1 : Chg (q :: t :: (Value.slice a0 0 c0).ownBlock.toList) w w1 := hc1.mono (fun k hk _ => by simp at hk ⊢; exact .inr (.inr hk))
      have e2 : Chg (q :: t :: (Value.slice a0 0 c0).ownBlock.toList) w w4 := (e1.and hcc (by simp)).drew.and hc4 (by simp)
      refine e2.drew.and hc5 fun i hi => ?_
      rcases hv1 i (by rw [← OE.out]; simpa using hi) with h | h
      · exact .inl (by simp; exact .inr (.inr h))
      · exact .inr h
    have hA : Apart [h, p, s, bo, bi] (q :: t :: (Value.slice a0 0 c0).ownBlock.toList) := by
      intro x hx hm
      simp only [List.mem_cons] at hm
      rcases hm with rfl | rfl | hm
      · simp only [List.mem_cons, List.not_mem_nil, or_false] at hx
        rcases hx with rfl | rfl | rfl | rfl | rfl
        · exact HA1.out x (by simp) (by simp)
        · exact h3 x (by simp) (by simp)
        · exact h3 x (by simp) (by simp)
        · exact HA1.out x (by simp) (by simp)
        · exact HA1.out x (by simp) (by simp)
      · simp only [List.mem_cons, List.not_mem_nil, or_false] at hx
        rcases hx with rfl | rfl | rfl | rfl | rfl
        · exact HA1.out x (by simp) (by simp)
        · exact h3 x (by simp) (by simp)
        · exact h3 x (by simp) (by simp)
        · exact HA1.out x (by simp) (by simp)
        · exact HA1.out x (by simp) (by simp)
      · exact HF.out x (by simp only [List.mem_cons, List.not_mem_nil, or_false] at hx ⊢; rcases hx with rfl | rfl | rfl | rfl | rfl <;> simp) hm
    have nq : ∀ x ∈ [q, t], x ∉ (Value.slice a1 0 c1).ownBlock.toList := fun x hx hm => HV.out x (by rw [← OE.out]; simpa using hm) hx
    refine ⟨v5, rfl, ?_, ⟨h1, HA1.out, h3, HA3.out, h5, h6.chg hc (hA p (by simp)) (hA s (by simp)), (hh4.raw.chg hdr4 (by simp) (by simp)).chg hc5 (nq q (by simp)) (nq t (by simp)), ov, iv, fh, kl, hc.row h8 (hA h (by simp)), ?_⟩, hc, ?_⟩
    · rw [HX.out] at ho5; exact ho5
    · cases m with
      | true => exact ⟨h9.1, h9.2.1.chg hc (hA bo (by simp)), h9.2.2.chg hc (hA bi (by simp))⟩
      | false => exact ⟨h9.1.chg hc (hA bo (by simp)), h9.2.chg hc (hA bi (by simp))⟩
    · intro g hg
      have hsz4 : w.heap.size ≤ w4.heap.size := Nat.le_trans hc1.size (Nat.le_trans hcc.size hc4.size)
      rcases hf5 g hg with h | h
      · exact hv1 g (OE.out ▸ h)
      · exact .inr (Nat.le_trans hsz4 h)
end Go.Proofs.YtknoomndofnnmaaDoor
