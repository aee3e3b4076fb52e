/- HMAC: Reset. -/
import Derived.Test.YtknoomndofnnmaaDoorYMac
import Derived.Stop.Asserts
namespace Go.Proofs.YtknoomndofnnmaaDoor
open Go Go.RowKit

/-- What is apart: one by one. -/
theorem Apart.no {A B C : List Nat} (h : Apart A B) (hC : ∀ x ∈ C, x ∈ B) {x : Nat} (hx : x ∈ A) : x ∉ C := fun hm => h x hx (hC x hm)
theorem Apart.no' {A B C : List Nat} (h : Apart A B) (hC : ∀ x ∈ C, x ∈ A) {x : Nat} (hx : x ∈ B) : x ∉ C := fun hm => h x (hC x hm) hx

/-- What Reset says. -/
def ResetSaid (K : List UInt32) (κ : Kd) (w : World) (h p s q t bo bi : Nat) (key : Bs) (e : Ending) (w' : World) : Prop :=
  e = .returned (.tuple #[]) ∧ ∃ bo' bi' m', MacAt K κ w' h p s q t bo' bi' key [] m' ∧ Chg [h, p, s, q, t] w w' ∧ (bo' = bo ∨ w.heap.size ≤ bo') ∧ (bi' = bi ∨ w.heap.size ≤ bi')

set_option maxRecDepth 100000 in
set_option maxHeartbeats 1000000 in
theorem mac_reset_m (K : List UInt32) (κ : Kd) (w : World) (h p s q t bo bi : Nat) (key d : Bs) (hm : MacAt K κ w h p s q t bo bi key d true) :
    Calls Tryd.prog 111 #[.pointer (some ⟨h, 0, none⟩)] w (ResetSaid K κ w h p s q t bo bi key) := by
  obtain ⟨h1, h2, h3, h4, h5, h6, h7, ov, iv, fh, kl, h8, h9⟩ := hm
  obtain ⟨rfl, h9a, h9b⟩ := h9
  have hpl : (padX (hfK K none) key 0x36).length = 64 := padX_length (hfK_ok K h1) key 0x36
  have hta := ta_sum p
  have hpad := h9b
  rw [← hpl] at hpad
  have hdr : Chg [] w w.drew := (Chg.refl [] w).drew
  have hu := dig_unmarshal K w.drew p (padX (hfK K none) key 0x36) (h6.raw.2.2.2.chg hdr (by simp)) (by rw [hpl]) (by rw [hpl]; omega) iv ((hpad.chg hdr (by simp)).bs (h2.no (C := [p]) (by simp) (by simp)))
  have HU := Lib.hid hu
  have c3 : w.cell? ⟨h, 3, none⟩ = some (.iface (kTy none) (.pointer (some ⟨p, 0, none⟩))) := blk_cell h8 3
  have c1 : w.cell? ⟨h, 1, none⟩ = some iv := blk_cell h8 1
  have c4 : w.cell? ⟨h, 4, none⟩ = some (.bool true) := blk_cell h8 4
  clear hu hpad hpl
  go_enter Tryd.func111, Tryd.ntmps111
  go_wp2
  refine region_tail 11 (by kernel_rfl) (by kernel_rfl) ?_
  simp only [List.take_succ_cons, List.take_zero, List.drop_succ_cons, List.drop_zero]
  repeat ((first | refine still_one rfl ?_ | refine still_one2 rfl ?_); go_wp2; refine Held1.mk ?_)
  refine wpStill_nil ?_
  refine inv_unm p (u := iv) rfl (.tmp 24) (.tmp 22) rfl rfl rfl HU.out ?_
  rintro w3 ⟨hh3, hc3⟩
  go_wp2
  go_end0
  have hc : Chg [p] w w3 := (hdr.mono (by simp)).trans hc3
  have n1 : ∀ x ∈ [h, bo, bi], x ∉ [p] := fun x hx => h2.no (by simp) hx
  have n2 : ∀ x ∈ [q, t], x ∉ [p] := fun x hx => h3.no' (by simp) hx
  exact ⟨rfl, bo, bi, true, ⟨h1, h2, h3, h4, h5, ⟨h6.1, h6.2.1, h6.2.2.1, by rw [List.append_nil]; exact hh3⟩, h7.chg hc (n2 q (by simp)) (n2 t (by simp)), ov, iv, fh, kl, hc.row h8 (n1 h (by simp)), rfl, h9a.chg hc (n1 bo (by simp)), h9b.chg hc (n1 bi (by simp))⟩, hc.mono (by simp), .inl rfl, .inl rfl⟩

theorem ta_own (x : Nat × Nat) (p : Nat) (W : World) : (Instr.typeAssert (.iface (kTy (some x)) (.pointer (some ⟨p, 0, none⟩))) 89 123 true).run Tryd.prog W = .ok (.tuple #[.nilIface, .bool false]) W := run_typeAssert_lacksB Tryd.underlying123 (by kernel_rfl) (by kernel_rfl) _ 89 W
theorem ta_dig (p : Nat) (W : World) : (Instr.typeAssert (.iface (kTy none) (.pointer (some ⟨p, 0, none⟩))) 89 123 true).run Tryd.prog W = .ok (.tuple #[.iface (kTy none) (.pointer (some ⟨p, 0, none⟩)), .bool true]) W := by kernel_rfl

set_option maxRecDepth 100000 in
set_option maxHeartbeats 1000000 in
theorem mac_reset_own (K : List UInt32) (x : Nat × Nat) (w : World) (h p s q t bo bi : Nat) (key d : Bs) (hK : KAt K w) (hm : MacAt K (some x) w h p s q t bo bi key d false) :
    Calls Tryd.prog 111 #[.pointer (some ⟨h, 0, none⟩)] w (ResetSaid K (some x) w h p s q t bo bi key) := by
  obtain ⟨h1, h2, h3, h4, h5, h6, h7, ov, iv, fh, kl, h8, h9⟩ := hm
  obtain ⟨h9a, h9b⟩ := h9
  have hok := hfK_ok K h1
  have hpl := padX_length hok key 0x36
  have hbk := hok.bk64
  have hta := ta_own x p
  have n1 : ∀ y ∈ [h, bo, bi], y ∉ [p, s] := fun y hy => h2.no (by simp) hy
  have n2 : ∀ y ∈ [q, t], y ∉ [p, s] := fun y hy => h3.no' (by simp) hy
  have n0 : 0 ∉ [p, s] := h5.no (by simp) (by simp)
  have hr := h_reset K (some x) w p s h6.raw
  have HR := Lib.hid hr
  have Hpl := Lib.hid hpl
  have c3 : w.cell? ⟨h, 3, none⟩ = some (.iface (kTy (some x)) (.pointer (some ⟨p, 0, none⟩))) := blk_cell h8 3
  have c1 : w.cell? ⟨h, 1, none⟩ = some iv := blk_cell h8 1
  have c4 : w.cell? ⟨h, 4, none⟩ = some (.bool false) := blk_cell h8 4
  clear hr hpl
  go_enter Tryd.func111, Tryd.ntmps111
  go_wp2_with (refine inv_reset (some x) p rfl (.tmp 32) rfl rfl HR.out ?_; rintro w2 ⟨hh2, hc2⟩; have h8b := hc2.row h8 (n1 h (by simp)); have c3b : w2.cell? ⟨h, 3, none⟩ = some (.iface (kTy (some x)) (.pointer (some ⟨p, 0, none⟩))) := blk_cell h8b 3; have c1b : w2.cell? ⟨h, 1, none⟩ = some iv := blk_cell h8b 1)
  have hdr : Chg [] w2 w2.drew := (Chg.refl [] w2).drew
  have hw := h_write K (some x) w2.drew p s [] (hK.chg hc2.drew n0) (hh2.chg hdr (by simp) (by simp)) (by simp) iv _ (by rw [Hpl.out]; omega) (((h9b.chg hc2 (n1 bi (by simp))).chg hdr (by simp)).bs (n1 bi (by simp)))
  have HW := Lib.hid hw
  clear hw c1 c3 c4
  refine region_tail 10 (by kernel_rfl) (by kernel_rfl) ?_
  simp only [List.take_succ_cons, List.take_zero, List.drop_succ_cons, List.drop_zero]
  repeat ((first | refine still_one rfl ?_ | refine still_one2 rfl ?_); go_wp2; refine Held1.mk ?_)
  refine wpStill_nil ?_
  refine inv_write (some x) p (u := iv) rfl (.tmp 43) (.tmp 41) rfl rfl rfl HW.out ?_
  rintro w3 ⟨hh3, hc3⟩
  have hc : Chg [p, s] w w3 := hc2.drew.trans hc3
  have h8c := hc.row h8 (n1 h (by simp))
  have c3 : w3.cell? ⟨h, 3, none⟩ = some (.iface (kTy (some x)) (.pointer (some ⟨p, 0, none⟩))) := blk_cell h8c 3
  go_wp2
  go_end0
  exact ⟨rfl, bo, bi, false, ⟨h1, h2, h3, h4, h5, by rw [List.append_nil]; exact hh3, h7.chg hc (n2 q (by simp)) (n2 t (by simp)), ov, iv, fh, kl, hc.row h8 (n1 h (by simp)), h9a.chg hc (n1 bo (by simp)), h9b.chg hc (n1 bi (by simp))⟩, hc.mono (by simp), .inl rfl, .inl rfl⟩

theorem marsh_ne (s : S8) (n : Nat) : marsh s n ≠ [] := by simp [marsh, magic]
theorem dig_marshal2 (K : List UInt32) (w : World) (d : Nat) (data : Bs) (h : DigAt K w d data) (h64 : data.length % 64 = 0) (hdl : data.length ≤ 500000) :
    Calls Tryd.prog 142 #[.pointer (some ⟨d, 0, none⟩)] w fun e w' => ∃ x, e = .returned x ∧ ∃ v', x = .tuple #[v', .nilIface] ∧ Own w' v' (marsh (shaAll K shaInit data) data.length) ∧ Chg [] w w' ∧ ∀ g, v'.ownBlock = some g → w.heap.size ≤ g :=
  (dig_marshal K w d data h h64 hdl).mono fun _ _ ⟨v', he, hr⟩ => ⟨_, he, v', rfl, hr⟩
set_option maxRecDepth 100000 in
set_option maxHeartbeats 2000000 in
theorem mac_reset_sha (K : List UInt32) (w : World) (h p s q t bo bi : Nat) (key d : Bs) (hK : KAt K w) (hm : MacAt K none w h p s q t bo bi key d false) :
    Calls Tryd.prog 111 #[.pointer (some ⟨h, 0, none⟩)] w (ResetSaid K none w h p s q t bo bi key) := by
  obtain ⟨h1, h2, h3, h4, h5, h6, h7, ov, iv, fh, kl, h8, h9⟩ := hm
  obtain ⟨h9a, h9b⟩ := h9
  have hok := hfK_ok K h1
  have hpl : (padX (hfK K none) key 0x36).length = 64 := padX_length hok key 0x36
  have hpl2 : (padX (hfK K none) key 0x5c).length = 64 := padX_length hok key 0x5c
  have hta := ta_dig p
  have htb := ta_dig q
  have n1 : ∀ y ∈ [h, bo, bi], y ∉ [p, s] := fun y hy => h2.no (by simp) hy
  have n2 : ∀ y ∈ [q, t], y ∉ [p, s] := fun y hy => h3.no' (by simp) hy
  have n3 : ∀ y ∈ [h, bo, bi], y ∉ [q, t] := fun y hy => h2.no (by simp) hy
  have n4 : ∀ y ∈ [p, s], y ∉ [q, t] := fun y hy => h3.no (by simp) hy
  have n0 : 0 ∉ [p, s] := h5.no (by simp) (by simp)
  have n0' : 0 ∉ [q, t] := h5.no (by simp) (by simp)
  have hr := h_reset K none w p s h6.raw
  have HR := Lib.hid hr
  have Hpl := Lib.hid hpl
  have Hpl2 := Lib.hid hpl2
  have c3 : w.cell? ⟨h, 3, none⟩ = some (.iface (kTy none) (.pointer (some ⟨p, 0, none⟩))) := blk_cell h8 3
  have c1 : w.cell? ⟨h, 1, none⟩ = some iv := blk_cell h8 1
  have c4 : w.cell? ⟨h, 4, none⟩ = some (.bool false) := blk_cell h8 4
  clear hr hpl hpl2
  go_enter Tryd.func111, Tryd.ntmps111
  go_wp2_with (refine inv_reset none p rfl (.tmp 32) rfl rfl HR.out ?_; rintro w2 ⟨hh2, hc2⟩; have h8b := hc2.row h8 (n1 h (by simp)); have c3b : w2.cell? ⟨h, 3, none⟩ = some (.iface (kTy none) (.pointer (some ⟨p, 0, none⟩))) := blk_cell h8b 3; have c1b : w2.cell? ⟨h, 1, none⟩ = some iv := blk_cell h8b 1)
  have hdr : Chg [] w2 w2.drew := (Chg.refl [] w2).drew
  have hw := h_write K none w2.drew p s [] (hK.chg hc2.drew n0) (hh2.chg hdr (by simp) (by simp)) (by simp) iv _ (by rw [Hpl.out]; omega) (((h9b.chg hc2 (n1 bi (by simp))).chg hdr (by simp)).bs (n1 bi (by simp)))
  have HW := Lib.hid hw
  clear hw c1 c3 c4
  refine region_tail 10 (by kernel_rfl) (by kernel_rfl) ?_
  simp only [List.take_succ_cons, List.take_zero, List.drop_succ_cons, List.drop_zero]
  repeat ((first | refine still_one rfl ?_ | refine still_one2 rfl ?_); go_wp2; refine Held1.mk ?_)
  refine wpStill_nil ?_
  refine inv_write none p (u := iv) rfl (.tmp 43) (.tmp 41) rfl rfl rfl HW.out ?_
  rintro w3 ⟨hh3, hc3⟩
  have hc : Chg [p, s] w w3 := hc2.drew.trans hc3
  have h8c := hc.row h8 (n1 h (by simp))
  have c3 : w3.cell? ⟨h, 3, none⟩ = some (.iface (kTy none) (.pointer (some ⟨p, 0, none⟩))) := blk_cell h8c 3
  have c2 : w3.cell? ⟨h, 2, none⟩ = some (.iface (kTy none) (.pointer (some ⟨q, 0, none⟩))) := blk_cell h8c 2
  rw [List.nil_append] at hh3
  have hmar := dig_marshal2 K w3 p (padX (hfK K none) key 0x36) hh3.2.2.2 (by rw [Hpl.out]) (by rw [Hpl.out]; omega)
  have HM := Lib.hid hmar
  clear hmar c3b c1b
  have hq3 := h7.chg hc (n2 q (by simp)) (n2 t (by simp))
  go_wp2_with (first | (refine inv_mar p rfl (.tmp 66) rfl rfl HM.out ?_; rintro x4 w4 ⟨v4, rfl, ho4, hc4, hf4⟩; obtain ⟨b4, hb4, hp4⟩ := ho4.pad (marsh_ne _ _); have hb4' := hf4 b4 hb4; have hp4' := id hp4; obtain ⟨off4, cc4, rfl, -⟩ := hp4'; have HP4 := Lib.hid hp4; clear hp4 ho4 hf4 hb4; have h8d := hc4.row h8c (by simp); have c2d : w4.cell? ⟨h, 2, none⟩ = some (.iface (kTy none) (.pointer (some ⟨q, 0, none⟩))) := blk_cell h8d 2; have hr4 := h_reset K none w4 q t (hq3.chg hc4 (by simp) (by simp)); have HR4 := Lib.hid hr4; clear hr4) | (refine inv_reset none q rfl (.tmp 75) rfl rfl HR4.out ?_; rintro w5 ⟨hh5, hc5⟩; have h8e := hc5.row h8d (n3 h (by simp)); have c2e : w5.cell? ⟨h, 2, none⟩ = some (.iface (kTy none) (.pointer (some ⟨q, 0, none⟩))) := blk_cell h8e 2; have c0e : w5.cell? ⟨h, 0, none⟩ = some ov := blk_cell h8e 0))
  have hdr5 : Chg [] w5 w5.drew := (Chg.refl [] w5).drew
  have hall : Chg [p, s, q, t] w w5 := ((hc.mono (S' := [p, s, q, t]) (by simp)).and hc4 (by simp)).and hc5 (by simp)
  have hw5 := h_write K none w5.drew q t [] (((hK.chg hc n0).chg hc4 (by simp)).chg hc5.drew n0') (hh5.chg hdr5 (by simp) (by simp)) (by simp) ov _ (by rw [Hpl2.out]; omega) (((h9a.chg hall (h2.no (by simp) (by simp))).chg hdr5 (by simp)).bs (n3 bo (by simp)))
  have HW5 := Lib.hid hw5
  clear hw5 c2 c3
  refine region_tail 10 (by kernel_rfl) (by kernel_rfl) ?_
  simp only [List.take_succ_cons, List.take_zero, List.drop_succ_cons, List.drop_zero]
  repeat ((first | refine still_one rfl ?_ | refine still_one2 rfl ?_); go_wp2; refine Held1.mk ?_)
  refine wpStill_nil ?_
  refine inv_write none q (u := ov) rfl (.tmp 86) (.tmp 84) rfl rfl rfl HW5.out ?_
  rintro w6 ⟨hh6, hc6⟩
  rw [List.nil_append] at hh6
  have hmar6 := dig_marshal2 K w6 q (padX (hfK K none) key 0x5c) hh6.2.2.2 (by rw [Hpl2.out]) (by rw [Hpl2.out]; omega)
  have HM6 := Lib.hid hmar6
  clear hmar6 c2d c2e c0e
  have h8f := hc6.row (blk_drew h8e) (n3 h (by simp))
  go_wp2_with (refine inv_mar q rfl (.tmp 89) rfl rfl HM6.out ?_; rintro x7 w7 ⟨v7, rfl, ho7, hc7, hf7⟩; obtain ⟨b7, hb7, hp7⟩ := ho7.pad (marsh_ne _ _); have hb7' := hf7 b7 hb7; have hp7' := id hp7; obtain ⟨off7, cc7, rfl, -⟩ := hp7'; have HP7 := Lib.hid hp7; clear hp7 ho7 hf7 hb7; have h8g := hc7.row h8f (by simp); have g0 : w7.cell? ⟨h, 0, none⟩ = some ov := blk_cell h8g 0; have g1 : w7.cell? ⟨h, 1, none⟩ = some iv := blk_cell h8g 1; have g4 : w7.cell? ⟨h, 4, none⟩ = some (.bool false) := blk_cell h8g 4; have gf := fun j => blk_frozen h8g j)
  go_end0
  have hs3 : w.heap.size ≤ w3.heap.size := hc.size
  have hs6 : w3.heap.size ≤ w6.heap.size := Nat.le_trans hc4.size (Nat.le_trans hc5.size hc6.size)
  have hlp := h6.raw.lt
  have hlq := h7.lt
  have hlh := blk_lt h8
  have hst := blk_set (blk_set (blk_set h8g (.slice (some ⟨b4, off4, none⟩) (marsh (shaAll K shaInit (padX (hfK K none) key 0x36)) (padX (hfK K none) key 0x36).length).length cc4) (i := 1)) (.slice (some ⟨b7, off7, none⟩) (marsh (shaAll K shaInit (padX (hfK K none) key 0x5c)) (padX (hfK K none) key 0x5c).length).length cc7) (i := 0)) (.bool true) (i := 4)
  have hp4 := HP4.out
  have hp7 := HP7.out
  rw [Hpl.out] at hp4 hst ⊢
  rw [Hpl2.out] at hp7 hst ⊢
  have e6 : Chg [p, s, q, t] w w6 := hall.drew.and hc6 (by simp)
  have e7 : Chg [p, s, q, t] w w7 := e6.and hc7 (by simp)
  have f5 : Chg [q, t] w4 w7 := (hc5.drew.and hc6 (by simp)).and hc7 (by simp)
  have f4 : Chg [q, t] w3 w7 := (hc4.mono (by simp)).trans f5
  have f7 : ∀ S u1 u2 u3, h ∈ S → (∀ k ∈ [q, t], k ∈ S) → ∀ W, Chg [q, t] W w7 → Chg S W (((w7.setCell ⟨h, 1, none⟩ u1).setCell ⟨h, 0, none⟩ u2).setCell ⟨h, 4, none⟩ u3) := fun S u1 u2 u3 hS hq W hW =>
    (((hW.mono fun k hk _ => hq k hk).setCell (.inl hS) _).setCell (.inl hS) _).setCell (.inl hS) _
  have k4 : ∀ x, x < w3.heap.size → x ≠ b4 := fun x hx he => by omega
  have s7 : w3.heap.size ≤ w6.heap.size := hs6
  have l0 : 0 < w.heap.size := by omega
  refine ⟨rfl, b7, b4, true, ⟨h1, ?_, h3, ?_, ?_, ?_, ?_, _, _, fh, kl, hst, rfl, ?_, ?_⟩, ?_, .inr (by omega), .inr (by omega)⟩
  · intro x hx hm
    simp only [List.mem_cons, List.not_mem_nil, or_false] at hx
    rcases hx with rfl | rfl | rfl
    · exact h2 x (by simp) hm
    · simp only [List.mem_cons, List.not_mem_nil, or_false] at hm; omega
    · simp only [List.mem_cons, List.not_mem_nil, or_false] at hm; omega
  · intro x hx hm
    simp only [List.mem_cons, List.not_mem_nil, or_false] at hx hm
    omega
  · intro x hx hm
    have := h5 0 (by simp)
    simp only [List.mem_cons, List.not_mem_nil, or_false] at hx hm this
    omega
  · rw [List.append_nil]
    exact hh3.chg (f7 [h, q, t] _ _ _ (by simp) (by simp) w3 f4) (by have := n1 h (by simp); have := n4 p (by simp); simp at *; omega) (by have := n1 h (by simp); have := n4 s (by simp); simp at *; omega)
  · exact hh6.raw.chg ((((hc7.mono (S' := [h]) (by simp)).setCell (.inl (by simp)) _).setCell (.inl (by simp)) _).setCell (.inl (by simp)) _) (by have := n3 h (by simp); simp at *; omega) (by have := n3 h (by simp); simp at *; omega)
  · exact hp7.chg ((((Chg.refl [h] w7).setCell (.inl (by simp)) _).setCell (.inl (by simp)) _).setCell (.inl (by simp)) _) (by simp; omega)
  · exact hp4.chg (f7 [h, q, t] _ _ _ (by simp) (by simp) w4 f5) (by simp; omega)
  · exact ((((e7.mono (S' := [h, p, s, q, t]) (by simp)).setCell (.inl (by simp)) _).setCell (.inl (by simp)) _).setCell (.inl (by simp)) _)

theorem mac_reset (K : List UInt32) (κ : Kd) (w : World) (h p s q t bo bi : Nat) (key d : Bs) (m : Bool) (hK : KAt K w) (hm : MacAt K κ w h p s q t bo bi key d m) :
    Calls Tryd.prog 111 #[.pointer (some ⟨h, 0, none⟩)] w (ResetSaid K κ w h p s q t bo bi key) := by
  cases m with
  | true => exact mac_reset_m K κ w h p s q t bo bi key d hm
  | false =>
    cases κ with
    | none => exact mac_reset_sha K w h p s q t bo bi key d hK hm
    | some x => exact mac_reset_own K x w h p s q t bo bi key d hK hm
end Go.Proofs.YtknoomndofnnmaaDoor
