/- hmac.New at Digest. -/
import Derived.Test.YtknoomndofnnmaaDoorYMacC
namespace Go.Proofs.YtknoomndofnnmaaDoor
open Go Go.RowKit

theorem new_aparts_digest {h V p s q t gi go n : Nat} (ngi : ∀ x ∈ [h, V, p, s, q, t], x ≠ gi) (ngo : ∀ x ∈ [h, V, p, s, q, t], x ≠ go) (hgg : gi ≠ go) (hph : p ≠ h) (hsh : s ≠ h) (hqh : q ≠ h) (hth : t ≠ h) (hpq : p ≠ q) (hpt : p ≠ t) (hsq : s ≠ q) (hst : s ≠ t) (hall : ∀ x ∈ [h, V, gi, go, p, s, q, t], n ≤ x) (hn : 0 < n) (hpV : p ≠ V) (hsV : s ≠ V) :
    Apart [h, go, gi] [p, s, q, t] ∧ Apart [p, s] [q, t] ∧ Apart [h] [go, gi] ∧ Apart [0] [h, p, s, q, t, go, gi] ∧ (∀ x ∈ [h, p, s, q, t, go, gi], n ≤ x) ∧ ∀ x ∈ [h, V, gi, go, q, t], x ∉ [p, s] := by
  have i1 := ngi p (by simp)
  have i2 := ngi s (by simp)
  have i3 := ngi q (by simp)
  have i4 := ngi t (by simp)
  have i5 := ngi h (by simp)
  have o1 := ngo p (by simp)
  have o2 := ngo s (by simp)
  have o3 := ngo q (by simp)
  have o4 := ngo t (by simp)
  have o5 := ngo h (by simp)
  have a1 := hall h (by simp)
  have a2 := hall gi (by simp)
  have a3 := hall go (by simp)
  have a4 := hall p (by simp)
  have a5 := hall s (by simp)
  have a6 := hall q (by simp)
  have a7 := hall t (by simp)
  clear ngi ngo hall
  refine ⟨?_, ?_, ?_, ?_, ?_, ?_⟩
  · intro x hx hm
    clear a1 a2 a3 a4 a5 a6 a7
    simp only [List.mem_cons, List.not_mem_nil, or_false] at hx hm
    rcases hx with rfl | rfl | rfl <;> rcases hm with rfl | rfl | rfl | rfl <;> contradiction
  · intro x hx hm
    clear a1 a2 a3 a4 a5 a6 a7
    simp only [List.mem_cons, List.not_mem_nil, or_false] at hx hm
    rcases hx with rfl | rfl <;> rcases hm with rfl | rfl <;> contradiction
  · intro x hx hm
    clear a1 a2 a3 a4 a5 a6 a7
    simp only [List.mem_cons, List.not_mem_nil, or_false] at hx hm
    subst hx
    rcases hm with rfl | rfl <;> contradiction
  · intro x hx hm
    clear i1 i2 i3 i4 i5 o1 o2 o3 o4 o5 hgg hph hsh hqh hth hpq hpt hsq hst hpV hsV
    simp only [List.mem_cons, List.not_mem_nil, or_false] at hx hm
    subst hx
    rcases hm with rfl | rfl | rfl | rfl | rfl | rfl | rfl <;> omega
  · intro x hx
    clear i1 i2 i3 i4 i5 o1 o2 o3 o4 o5 hgg hph hsh hqh hth hpq hpt hsq hst hpV hsV
    simp only [List.mem_cons, List.not_mem_nil, or_false] at hx
    rcases hx with rfl | rfl | rfl | rfl | rfl | rfl | rfl <;> assumption
  · intro x hx hm
    clear a1 a2 a3 a4 a5 a6 a7
    simp only [List.mem_cons, List.not_mem_nil, or_false] at hx hm
    rcases hx with rfl | rfl | rfl | rfl | rfl | rfl <;> rcases hm with rfl | rfl <;> contradiction

set_option maxRecDepth 100000 in
set_option maxHeartbeats 1000000 in
theorem recov_digest (w : World) : CallsD Tryd.prog 120 #[] .returning w fun e u' w' => e = .returned (.tuple #[]) ∧ u' = .returning ∧ w' = w := by
  refine callsD_of_wpS Tryd.func120 rfl fun c₀ cs hu => ?_
  apply wpS_region
  cases c₀
  simp_all [wpOpsS, go_sem, recoverD, Tryd.ntmps120, bodyPostS, results, Tryd.results120]

set_option maxRecDepth 100000 in
set_option maxHeartbeats 1000000 in
theorem cmp_digest (w : World) (V U h p q : Nat) (hV : w.cell? ⟨V, 0, none⟩ = some (.pointer (some ⟨h, 0, none⟩))) (h2 : w.cell? ⟨h, 2, none⟩ = some (.iface (kTy none) (.pointer (some ⟨q, 0, none⟩)))) (h3 : w.cell? ⟨h, 3, none⟩ = some (.iface (kTy none) (.pointer (some ⟨p, 0, none⟩)))) (hne : q ≠ p) (hp : IsRow w p) (hq : IsRow w q) :
    Calls Tryd.prog 119 #[.pointer (some ⟨V, 0, none⟩), .pointer (some ⟨U, 0, none⟩)] w fun e w' => e = .returned (.tuple #[]) ∧ Chg [] w w' := by
  have hmf : ∀ (fn : Fn) (first cap : Array Value) (w : World), (Instr.makeFunc fn first cap).run Tryd.prog w = .ok (.func fn first cap) w := fun _ _ _ _ => rfl
  have heq := fun n => eql_other none (w := w.drewN n) hne hp hq
  go_enter_defers Tryd.func119, Tryd.ntmps119
  go_wp2
  go_quiet (fail)
  go_wp2
  refine leaves_cons (f := 120) (args := #[]) (by simp) (by simp [go_sem]) ?_
  refine (recov_digest _).mono ?_
  rintro e u' w'' ⟨rfl, rfl, rfl⟩
  exact ⟨_, results_none rfl _ _ _, rfl, (Chg.refl [] w).drewN _⟩

set_option maxRecDepth 100000 in
set_option maxHeartbeats 4000000 in
theorem new_digest (K : List UInt32) (w : World) (F : Value) (B : List Nat) (hM : Maker K none B w F mkP) (key : Bs) (v : Value) (hkl : key.length ≤ 65536) (hv : BS [] w v key) :
    Calls Tryd.prog 110 #[F, v] w (NewSaid K none w key) := by
  have hM0 := id hM
  obtain ⟨hok, hK, hB0, hBl, f, fst, cap, rfl, hf, hcall⟩ := hM
  have hvv := id hv
  obtain ⟨va, vc, rfl, -⟩ := hvv
  have h0 := blk_lt hK.2
  have HB0 := Lib.hid hB0
  have HBl := Lib.hid hBl
  have HF := Lib.hid hf
  have HC := Lib.hid hcall
  have HM := Lib.hid hM0
  clear hB0 hBl hf hcall hM0
  go_enter Tryd.func110, Tryd.ntmps110
  go_wp2
  refine gen_wp (fun w' => w'.heap[w.heap.size]? = some (.cells #[.slice none 0 0, .slice none 0 0, .nilIface, .nilIface, .bool false, .bool false, .int .i64 (key.length : Int)] 121 (0, 0)) ∧ w'.heap[w.heap.size + 1]? = some (.cells #[.pointer (some ⟨w.heap.size, 0, none⟩)] 115 (0, 0)) ∧ Chg [] w w') ?_ (fun w1 h1 => ?_)
  · exact ⟨heap_alloc2_old w _ _, heap_alloc2_new w _ _, ((Chg.refl [] w).alloc _).alloc _⟩
  obtain ⟨h, hh⟩ : ∃ h, h = w.heap.size := ⟨_, rfl⟩
  obtain ⟨V, hVV⟩ : ∃ V, V = w.heap.size + 1 := ⟨_, rfl⟩
  rw [← hVV, ← hh] at h1
  rw [← hVV]
  have Hh := Lib.hid hh
  have HVV := Lib.hid hVV
  have hhV : h ≠ V := by omega
  have hwh : w.heap.size ≤ h := by omega
  have hwV : w.heap.size ≤ V := by omega
  clear hh hVV
  have hcell : ∀ W : World, W.heap[V]? = some (.cells #[.pointer (some ⟨h, 0, none⟩)] 115 (0, 0)) → W.cell? ⟨V, 0, none⟩ = some (.pointer (some ⟨h, 0, none⟩)) := fun W hW => blk_cell hW 0
  have HV := Lib.hid hcell
  clear hcell
  refine region_held (fun w' => w'.heap[V]? = some (.cells #[.pointer (some ⟨h, 0, none⟩)] 115 (0, 0))) [(0, true), (1, true), (2, false), (3, false), (4, true), (5, true), (6, false)] (by kernel_rfl) (by kernel_rfl) h1.2.1 ?_
  change wpPlan _ _ _ _ [(_, true), (_, true), (_, false), (_, false), (_, true), (_, true), (_, false)] _ _
  refine plan_load 115 (.tmp 5) ⟨V, 0, none⟩ (.pointer (some ⟨h, 0, none⟩)) rfl rfl rfl (fun W hW => ld_hmac (HV.out W hW)) ?_
  refine plan_uni (by kernel_rfl) rfl ?_
  go_wp2
  refine HeldU.mk ?_
  refine plan_step ?_
  refine call_value (.tmp 15) rfl #[] rfl rfl HF.out (HC.out _ (fun b hb => (h1.2.2.drew.block b (HBl.out b hb) (by simp)))) ?_
  intro x w2 ⟨q, t, hx, hq, ht, hoq, hcq⟩
  subst hx
  have hV2 := hcq.row (blk_drew h1.2.1) (by simp)
  refine HeldN.mk hV2 ?_
  refine plan_step ?_
  go_wp2
  refine HeldN.mk hV2 ?_
  have hh2 := hcq.row (blk_drew h1.1) (by simp)
  iterate 2 (refine plan_uni (by kernel_rfl) rfl ?_; go_wp2; refine HeldU.mk ?_)
  have hfz := fun j => blk_frozen hh2 j
  have hc2 : w2.cell? ⟨h, 2, none⟩ = some .nilIface := blk_cell hh2 2
  refine plan_step ?_
  go_wp2
  refine HeldN.mk (blk_setOther hV2 (Ne.symm hhV) _) (plan_nil (Held2.mk ?_))
  go_wp2
  have hV1 := blk_lt h1.2.1
  have hh1 := blk_lt h1.1
  simp only [World.size_drew] at hq ht
  refine gen_wp (fun w' => w'.heap[h]? = some (.cells #[.slice none 0 0, .slice none 0 0, .iface (kTy none) (.pointer (some ⟨q, 0, none⟩)), .nilIface, .bool false, .bool false, .int .i64 (key.length : Int)] 121 (0, 0)) ∧ w'.heap[V]? = some (.cells #[.pointer (some ⟨h, 0, none⟩)] 115 (0, 0)) ∧ Chg [] w w' ∧ HAt K none w' q t []) ?_ (fun w3 h3 => ?_)
  · exact ⟨blk_set hh2 _, blk_setOther hV2 (Ne.symm hhV) _, (h1.2.2.drew.trans hcq).setCell (.inr hwh) _, hoq.chg ((Chg.refl [h] w2).setCell (.inl (by simp)) _) (by simp; omega) (by simp; omega)⟩
  have hqh : q ≠ h := by omega
  have hth : t ≠ h := by omega
  have hqV : q ≠ V := by omega
  have htV : t ≠ V := by omega
  have hwq : w.heap.size ≤ q := Nat.le_trans h1.2.2.size hq
  have hwt : w.heap.size ≤ t := Nat.le_trans h1.2.2.size ht
  clear h1 hq ht hoq hcq hV2 hh2 hfz hc2 hV1 hh1
  refine region_held (fun w' => w'.heap[V]? = some (.cells #[.pointer (some ⟨h, 0, none⟩)] 115 (0, 0))) [(0, true), (1, true), (2, false), (3, false), (4, true), (5, true), (6, false)] (by kernel_rfl) (by kernel_rfl) h3.2.1 ?_
  change wpPlan _ _ _ _ [(_, true), (_, true), (_, false), (_, false), (_, true), (_, true), (_, false)] _ _
  refine plan_load 115 (.tmp 5) ⟨V, 0, none⟩ (.pointer (some ⟨h, 0, none⟩)) rfl rfl rfl (fun W hW => ld_hmac (HV.out W hW)) ?_
  refine plan_uni (by kernel_rfl) rfl ?_
  go_wp2
  refine HeldU.mk ?_
  refine plan_step ?_
  refine call_value (.tmp 21) rfl #[] rfl rfl HF.out (HC.out _ (fun b hb => (h3.2.2.1.drew.block b (HBl.out b hb) (by simp)))) ?_
  intro x w4 ⟨p, s, hx, hp, hs, hop, hcp⟩
  subst hx
  have hV4 := hcp.row (blk_drew h3.2.1) (by simp)
  refine HeldN.mk hV4 ?_
  refine plan_step ?_
  go_wp2
  refine HeldN.mk hV4 ?_
  have hh4 := hcp.row (blk_drew h3.1) (by simp)
  iterate 2 (refine plan_uni (by kernel_rfl) rfl ?_; go_wp2; refine HeldU.mk ?_)
  have hfz := fun j => blk_frozen hh4 j
  have hc3 : w4.cell? ⟨h, 3, none⟩ = some .nilIface := blk_cell hh4 3
  refine plan_step ?_
  go_wp2
  refine HeldN.mk (blk_setOther hV4 (Ne.symm hhV) _) (plan_nil (Held2.mk ?_))
  go_upto_region 4 with fail
  have hV1 := blk_lt h3.2.1
  have hh1 := blk_lt h3.1
  have hql := h3.2.2.2.raw.lt
  simp only [World.size_drew] at hp hs
  refine gen_wp (fun w' => w'.heap[h]? = some (.cells #[.slice none 0 0, .slice none 0 0, .iface (kTy none) (.pointer (some ⟨q, 0, none⟩)), .iface (kTy none) (.pointer (some ⟨p, 0, none⟩)), .bool false, .bool false, .int .i64 (key.length : Int)] 121 (0, 0)) ∧ w'.heap[V]? = some (.cells #[.pointer (some ⟨h, 0, none⟩)] 115 (0, 0)) ∧ Chg [] w w' ∧ HAt K none w' q t [] ∧ HAt K none w' p s []) ?_ (fun w5 h5 => ?_)
  · have hst : Chg [h] w4 (w4.setCell ⟨h, 3, none⟩ (.iface (kTy none) (.pointer (some ⟨p, 0, none⟩)))) := (Chg.refl [h] w4).setCell (.inl (by simp)) _
    exact ⟨blk_set hh4 _, blk_setOther hV4 (Ne.symm hhV) _, (h3.2.2.1.drew.trans hcp).setCell (.inr hwh) _, ((h3.2.2.2.chg (Chg.refl [] w3).drew (by simp) (by simp)).chg hcp (by simp) (by simp)).chg hst (by simpa using hqh) (by simpa using hth), hop.chg hst (by simp; omega) (by simp; omega)⟩
  have hph : p ≠ h := by omega
  have hsh : s ≠ h := by omega
  have hpV : p ≠ V := by omega
  have hsV : s ≠ V := by omega
  have hpq : p ≠ q := by omega
  have hpt : p ≠ t := by omega
  have hsq : s ≠ q := by omega
  have hst : s ≠ t := by omega
  have hwp : w.heap.size ≤ p := Nat.le_trans h3.2.2.1.size hp
  have hws : w.heap.size ≤ s := Nat.le_trans h3.2.2.1.size hs
  clear h3 hp hs hop hcp hV4 hh4 hfz hc3 hV1 hh1 hql
  have hmf : ∀ (fn : Fn) (first cap : Array Value) (w : World), (Instr.makeFunc fn first cap).run Tryd.prog w = .ok (.func fn first cap) w := fun _ _ _ _ => rfl
  have hV5 := blk_lt h5.2.1
  have hh5 := blk_lt h5.1
  obtain ⟨w6, hw6⟩ : ∃ w6, w6 = w5.alloc (.cells #[.bool true] 4) := ⟨_, rfl⟩
  have hc6 : Chg [] w5 w6 := by rw [hw6]; exact (Chg.refl [] w5).alloc _
  have hU6 : w6.heap[w5.heap.size]? = some (.cells #[.bool true] 4 (0, 0)) := by rw [hw6]; exact heap_alloc_new w5 _
  have h6h := hc6.row h5.1 (by simp)
  have h6V := hc6.row h5.2.1 (by simp)
  have h6q := h5.2.2.2.1.chg hc6 (by simp) (by simp)
  have h6p := h5.2.2.2.2.chg hc6 (by simp) (by simp)
  have hcmp := cmp_digest w6 V w5.heap.size h p q (blk_cell h6V 0) (blk_cell h6h 2) (blk_cell h6h 3) (Ne.symm hpq) h6p.raw.isRow h6q.raw.isRow
  have hw6c : Chg [] w w6 := h5.2.2.1.trans hc6
  have HCMP := Lib.hid hcmp
  have HKW := Lib.hid hK
  have hUn : w5.heap.size ≠ h := by omega
  clear hcmp hc6 hK
  go_upto_region 5 with fail
  rw [← hw6]
  obtain ⟨U, hU⟩ : ∃ U, U = w5.heap.size := ⟨_, rfl⟩
  rw [← hU] at HCMP hU6 hUn ⊢
  clear hw6 h5 hU
  go_upto_region 9 with (first | (go_at_call 119; refine HCMP.out.mono ?_; rintro e w7 ⟨rfl, hc7⟩; have h7U := hc7.row hU6 (by simp); have cU : w7.cell? ⟨U, 0, none⟩ = some (.bool true) := blk_cell h7U 0; have h7V := hc7.row h6V (by simp); have cV := HV.out w7 h7V; have h7h := hc7.row h6h (by simp); have c3 : w7.cell? ⟨h, 3, none⟩ = some (.iface (kTy none) (.pointer (some ⟨p, 0, none⟩))) := blk_cell h7h 3; have h7p := h6p.chg hc7 (by simp) (by simp); have hbl := h_block none w7 p s h7p.raw K; have HBLK := Lib.hid hbl; clear hbl) | (refine inv_block none p rfl (.tmp 34) rfl rfl HBLK.out ?_; rintro w8 rfl))
  obtain ⟨bk, hbk⟩ : ∃ bk, bk = (hfK K none).bk := ⟨_, rfl⟩
  rw [← hbk]
  have hok2 := hfK_ok K hok
  have hb64 : bk ≤ 64 := by rw [hbk]; exact hok2.bk64
  have hb1 : 1 ≤ bk := by rw [hbk]; exact Nat.le_trans hok2.pos hok2.le
  have HBK := Lib.hid hbk
  have h7q := h6q.chg hc7 (by simp) (by simp)
  have hw7c := hw6c.trans hc7
  clear hbk h6q h6p h6V h6h hU6 hc7 HCMP c3 cU cV h7U HBLK hw6c
  have hap : Apart [V, p, s, q, t] [h] := fun x hx => by
    simp only [List.mem_cons, List.not_mem_nil, or_false] at hx ⊢
    rcases hx with rfl | rfl | rfl | rfl | rfl
    · exact Ne.symm hhV
    · exact hph
    · exact hsh
    · exact hqh
    · exact hth
  have hmk := mk_bytes bk (by omega)
  refine gen_wp (fun w' => NewMem K none w w' h V p s q t (.slice none 0 0) (.slice none 0 0) (key.length : Int)) ⟨h7h, h7V, hw7c, h7q, h7p⟩ (fun w9 m9 => ?_)
  clear h7h h7V hw7c h7q h7p
  have hlgi := m9.lt
  have hsgi := m9.chg.size
  refine region_held (fun w' => w'.heap[V]? = some (.cells #[.pointer (some ⟨h, 0, none⟩)] 115 (0, 0))) [(0, true), (1, true), (2, false), (3, true), (4, true), (5, false)] (by kernel_rfl) (by kernel_rfl) m9.rV ?_
  change wpPlan _ _ _ _ [(_, true), (_, true), (_, false), (_, true), (_, true), (_, false)] _ _
  refine plan_load 115 (.tmp 5) ⟨V, 0, none⟩ (.pointer (some ⟨h, 0, none⟩)) rfl rfl rfl (fun W hW => ld_hmac (HV.out W hW)) ?_
  refine plan_uni (by kernel_rfl) rfl ?_
  go_wp2
  refine HeldU.mk ?_
  refine plan_step ?_
  go_wp2
  obtain ⟨gi, hgi⟩ : ∃ g, g = w9.heap.size := ⟨_, rfl⟩
  rw [← hgi]
  refine HeldN.mk (blk_alloc (blk_drew m9.rV) _) ?_
  have hzgi : ∀ b ∈ ([] : List Nat), w.heap.size ≤ b := by simp
  refine gen_plan (fun w' => NewMem K none w w' h V p s q t (.slice none 0 0) (.slice none 0 0) (key.length : Int) ∧ w'.heap[gi]? = some (.cells (brow (zN bk)).toArray 5 (0, 0))) ⟨m9.step (S := []) ((Chg.refl [] w9).drew.alloc _) (fun _ _ => by simp) hzgi, by rw [hgi]; exact heap_alloc_new w9.drew _⟩ (fun w10 m10 => ?_)
  have ngi : ∀ x ∈ [h, V, p, s, q, t], x ≠ gi := fun x hx => by have := hlgi x hx; omega
  have hwgi : w.heap.size ≤ gi := by omega
  iterate 2 (refine plan_uni (by kernel_rfl) rfl ?_; go_wp2; refine HeldU.mk ?_)
  have hfz := fun j => blk_frozen m10.1.rh j
  have hci : w10.cell? ⟨h, 1, none⟩ = some (.slice none 0 0) := blk_cell m10.1.rh 1
  refine plan_step ?_
  go_wp2
  try rw [← hgi]
  have mm := m10.1.pads (i := 1) (u := .slice (some ⟨gi, 0, none⟩) bk bk) (ov' := (.slice none 0 0)) (iv' := (.slice (some ⟨gi, 0, none⟩) bk bk)) hap hwh rfl
  refine HeldN.mk mm.rV (plan_nil (Held2.mk ?_))
  go_wp2
  refine gen_wp (fun w' => NewMem K none w w' h V p s q t (.slice none 0 0) (.slice (some ⟨gi, 0, none⟩) bk bk) (key.length : Int) ∧ w'.heap[gi]? = some (.cells (brow (zN bk)).toArray 5 (0, 0))) ⟨mm, blk_setOther m10.2 (Ne.symm (ngi h (by simp))) _⟩ (fun w11 m11 => ?_)
  clear mm hfz hci m10 hlgi hsgi m9
  have hlgo := m11.1.lt
  have hsgo := m11.1.chg.size
  refine region_held (fun w' => w'.heap[V]? = some (.cells #[.pointer (some ⟨h, 0, none⟩)] 115 (0, 0))) [(0, true), (1, true), (2, false), (3, true), (4, true), (5, false)] (by kernel_rfl) (by kernel_rfl) m11.1.rV ?_
  change wpPlan _ _ _ _ [(_, true), (_, true), (_, false), (_, true), (_, true), (_, false)] _ _
  refine plan_load 115 (.tmp 5) ⟨V, 0, none⟩ (.pointer (some ⟨h, 0, none⟩)) rfl rfl rfl (fun W hW => ld_hmac (HV.out W hW)) ?_
  refine plan_uni (by kernel_rfl) rfl ?_
  go_wp2
  refine HeldU.mk ?_
  refine plan_step ?_
  go_wp2
  obtain ⟨go, hgo⟩ : ∃ g, g = w11.heap.size := ⟨_, rfl⟩
  rw [← hgo]
  refine HeldN.mk (blk_alloc (blk_drew m11.1.rV) _) ?_
  have hzgo : ∀ b ∈ ([] : List Nat), w.heap.size ≤ b := by simp
  refine gen_plan (fun w' => NewMem K none w w' h V p s q t (.slice none 0 0) (.slice (some ⟨gi, 0, none⟩) bk bk) (key.length : Int) ∧ w'.heap[go]? = some (.cells (brow (zN bk)).toArray 5 (0, 0)) ∧ w'.heap[gi]? = some (.cells (brow (zN bk)).toArray 5 (0, 0))) ⟨m11.1.step (S := []) ((Chg.refl [] w11).drew.alloc _) (fun _ _ => by simp) hzgo, by rw [hgo]; exact heap_alloc_new w11.drew _, blk_alloc (blk_drew m11.2) _⟩ (fun w12 m12 => ?_)
  have ngo : ∀ x ∈ [h, V, p, s, q, t], x ≠ go := fun x hx => by have := hlgo x hx; omega
  have hwgo : w.heap.size ≤ go := by omega
  iterate 2 (refine plan_uni (by kernel_rfl) rfl ?_; go_wp2; refine HeldU.mk ?_)
  have hfz := fun j => blk_frozen m12.1.rh j
  have hci : w12.cell? ⟨h, 0, none⟩ = some (.slice none 0 0) := blk_cell m12.1.rh 0
  refine plan_step ?_
  go_wp2
  try rw [← hgo]
  have mm := m12.1.pads (i := 0) (u := .slice (some ⟨go, 0, none⟩) bk bk) (ov' := (.slice (some ⟨go, 0, none⟩) bk bk)) (iv' := (.slice (some ⟨gi, 0, none⟩) bk bk)) hap hwh rfl
  refine HeldN.mk mm.rV (plan_nil (Held2.mk ?_))
  have hgg : gi ≠ go := by have := blk_lt m11.2; omega
  have Hgi := Lib.hid hgi
  have Hgo := Lib.hid hgo
  clear hgi hgo
  have hm12 : NewMem K none w (w12.setCell ⟨h, 0, none⟩ (.slice (some ⟨go, 0, none⟩) bk bk)) h V p s q t (.slice (some ⟨go, 0, none⟩) bk bk) (.slice (some ⟨gi, 0, none⟩) bk bk) (key.length : Int) ∧ (w12.setCell ⟨h, 0, none⟩ (.slice (some ⟨go, 0, none⟩) bk bk)).heap[gi]? = some (.cells (brow (zN bk)).toArray 5 (0, 0)) ∧ (w12.setCell ⟨h, 0, none⟩ (.slice (some ⟨go, 0, none⟩) bk bk)).heap[go]? = some (.cells (brow (zN bk)).toArray 5 (0, 0)) := ⟨mm, blk_setOther m12.2.2 (Ne.symm (ngi h (by simp))) _, blk_setOther m12.2.1 (Ne.symm (ngo h (by simp))) _⟩
  clear mm hfz hci hlgo hsgo
  generalize (w12.setCell ⟨h, 0, none⟩ (.slice (some ⟨go, 0, none⟩) bk bk)) = w13 at hm12 ⊢
  clear m11 m12
  go_upto_if 49 with fail
  have hlt13 := hm12.1.lt
  have hl13i := blk_lt hm12.2.1
  have hl13o := blk_lt hm12.2.2
  have hAll : ∀ x ∈ [h, V, gi, go, p, s, q, t], w.heap.size ≤ x := fun x hx => by
    simp only [List.mem_cons, List.not_mem_nil, or_false] at hx
    rcases hx with rfl | rfl | rfl | rfl | rfl | rfl | rfl | rfl <;> assumption
  have HALL := Lib.hid hAll
  clear hAll
  have hqp : ∀ x ∈ [h, V, gi, go, p, s], x ∉ [q, t] := fun x hx hm => by
    have n1 := ngi q (by simp)
    have n2 := ngi t (by simp)
    have n3 := ngo q (by simp)
    have n4 := ngo t (by simp)
    simp only [List.mem_cons, List.not_mem_nil, or_false] at hx hm
    rcases hm with rfl | rfl <;> rcases hx with rfl | rfl | rfl | rfl | rfl | rfl <;> simp_all
  have HQP := Lib.hid hqp
  clear hqp
  have hap6 := new_aparts_digest ngi ngo hgg hph hsh hqh hth hpq hpt hsq hst HALL.out (Nat.lt_of_le_of_lt (Nat.zero_le _) h0) hpV hsV
  have HAP := Lib.hid hap6
  clear hap6
  go_cut [1] (fun s1 wx => ∃ k0 : Bs, Hid (k0 = key0 (hfK K none) key) ∧ BS [h, V, gi, go, p, s, q, t] wx s1 k0 ∧ PadMem K none w wx h V p s q t gi go bk (key.length : Int) (zN bk) (zN bk))
  case first =>
    by_cases hlt : bk < key.length
    · as_aux_lemma =>
        have hlt' : (bk : Int) < (key.length : Int) := by omega
        have hw := h_write K none w13 q t [] (HKW.out.chg hm12.1.chg (by simp)) hm12.1.out (by simp) _ key hkl ((hv.old (fun k hk => .inr (HALL.out k (by simp at hk ⊢; rcases hk with rfl | rfl <;> simp)))).chg hm12.1.chg (by simp))
        have HW := Lib.hid hw
        have cV := HV.out w13 hm12.1.rV
        have c2 : w13.cell? ⟨h, 2, none⟩ = some (.iface (kTy none) (.pointer (some ⟨q, 0, none⟩))) := blk_cell hm12.1.rh 2
        have h0q : 0 ∉ [q, t] := fun hm => by have := HALL.out 0 (by simp at hm ⊢; rcases hm with h | h <;> simp [h]); omega
        clear hw
        go_wp2_with (first | (refine inv_write none q (u := .slice va key.length vc) rfl (.tmp 53) (.tmp 54) rfl rfl rfl HW.out ?_; rintro w14 ⟨hh14, hc14⟩; have r14h := hc14.row hm12.1.rh (HQP.out h (by simp)); have r14V := hc14.row hm12.1.rV (HQP.out V (by simp)); have cV14 := HV.out w14 r14V; have c214 : w14.cell? ⟨h, 2, none⟩ = some (.iface (kTy none) (.pointer (some ⟨q, 0, none⟩))) := blk_cell r14h 2; have hsum := h_sum K none w14 q t ([] ++ key) ((HKW.out.chg hm12.1.chg (by simp)).chg hc14 h0q) hh14 (by simp; omega) (.slice none 0 0) (Own.nil _) (by simp [Value.ownBlock]); have HSUM := Lib.hid hsum; clear hsum) | (refine inv_sum none q (u := .slice none 0 0) rfl (.tmp 59) (.const (.slice none 0 0)) rfl rfl rfl HSUM.out ?_; rintro v15 w15 ⟨ho15, hc15, hf15⟩))
        go_meet
        have hc1 : Chg [q, t] w13 w15 := hc14.and hc15 (by simp [Value.ownBlock])
        refine ⟨(hfK K none).sum key, Lib.hid ?_, ho15.bs fun g hg hm => ?_, ⟨hc1.row hm12.1.rh (HQP.out h (by simp)), hc1.row hm12.1.rV (HQP.out V (by simp)), hm12.1.chg.and hc1 (fun x hx => .inr (HALL.out x (by simp at hx ⊢; rcases hx with rfl | rfl <;> simp))), (hh14.raw).chg hc15 (by simp [Value.ownBlock]) (by simp [Value.ownBlock]), hm12.1.inn.chg hc1 (HQP.out p (by simp)) (HQP.out s (by simp)), hc1.row hm12.2.1 (HQP.out gi (by simp)), hc1.row hm12.2.2 (HQP.out go (by simp))⟩⟩
        · unfold key0
          rw [← HBK.out, if_pos hlt]
        · have h1 : w13.heap.size ≤ g := by
            rcases hf15 g hg with h | h
            · simp [Value.ownBlock] at h
            · exact Nat.le_trans hc14.size h
          have h2 := hlt13 g
          simp only [List.mem_cons, List.not_mem_nil, or_false] at hm h2
          omega
    · as_aux_lemma =>
        have hlt' : ¬ (bk : Int) < (key.length : Int) := by omega
        go_wp2
        go_meet
        refine ⟨key, Lib.hid ?_, (hv.old (fun k hk => .inr (HALL.out k hk))).chg hm12.1.chg (by simp), ⟨hm12.1.rh, hm12.1.rV, hm12.1.chg, hm12.1.out.raw, hm12.1.inn, hm12.2.1, hm12.2.2⟩⟩
        unfold key0
        rw [← HBK.out, if_neg hlt]
  case rest =>
    as_aux_lemma =>
      obtain ⟨k0, HK0, hbs, m⟩ := hcut
      have hkl0 : k0.length ≤ bk := by rw [HK0.out, HBK.out]; exact key0_length hok2 key
      obtain ⟨w16, hr16, hw16, hc16⟩ := run_copy_bytes (ty := 3) (off := 0) (dLen := bk) (dCap := bk) m.ri (by rw [brow_length, zN_length]; omega) hbs
      rw [pad_row bk k0 hkl0] at hw16
      have m16 := m.stepI hc16 hw16 ngi hgg hwgi
      have hbs16 : BS [h, V, gi, go, p, s, q, t] w16 _ k0 := hbs.chg hc16 (by simp)
      obtain ⟨w17, hr17, hw17, hc17⟩ := run_copy_bytes (ty := 3) (off := 0) (dLen := bk) (dCap := bk) m16.ro (by rw [brow_length, zN_length]; omega) hbs16
      rw [pad_row bk k0 hkl0] at hw17
      have m17 := m16.stepO hc17 hw17 ngo hgg hwgo
      obtain ⟨ka, kc, rfl, -⟩ := hbs
      obtain ⟨P, hP⟩ : ∃ P, P = padTo bk k0 := ⟨_, rfl⟩
      have hPl : P.length = bk := by rw [hP]; exact padTo_length bk k0 hkl0
      rw [← hP] at m17
      have HP := Lib.hid hP
      have HPl := Lib.hid hPl
      have cV0 := HV.out _ m.rV
      have cV16 := HV.out _ m16.rV
      have cV17 := HV.out _ m17.rV
      have ci0 : wc.cell? ⟨h, 1, none⟩ = some (.slice (some ⟨gi, 0, none⟩) bk bk) := blk_cell m.rh 1
      have co16 : w16.cell? ⟨h, 0, none⟩ = some (.slice (some ⟨go, 0, none⟩) bk bk) := blk_cell m16.rh 0
      have ci17 : w17.cell? ⟨h, 1, none⟩ = some (.slice (some ⟨gi, 0, none⟩) bk bk) := blk_cell m17.rh 1
      clear hP hPl hbs16 hc16 hw16 hc17 hw17 m m16 hm12 hlt13 hl13i hl13o
      go_wp2
      go_loopw [78] (fun i wr => ∃ k : Nat, k ≤ bk ∧ i = .int .i64 k ∧ PadMem K none w wr h V p s q t gi go bk (key.length : Int) (xorN 0x36 P k) P) (fun i _ => bk - (intOf i).toNat)
      case atStart => exact ⟨0, by omega, rfl, m17⟩
      case round =>
        obtain ⟨k, hk, rfl, mr⟩ := hrel
        clear hr16 hr17 cV0 cV16 cV17 ci0 co16 ci17 m17
        have cV := HV.out _ mr.rV
        have ci : wr.cell? ⟨h, 1, none⟩ = some (.slice (some ⟨gi, 0, none⟩) bk bk) := blk_cell mr.rh 1
        have fi := fun j => blk_frozen mr.ri j
        by_cases hlt : k < bk
        · as_aux_lemma =>
            have hlt' : decide ((k : Int) < (bk : Int)) = true := decide_eq_true (by omega)
            have cb := (blk_cell mr.ri k).trans (bv_cell (xorN 0x36 P k) k (by rw [xorN_length, HPl.out]; exact hlt))
            rw [xorN_gt _ _ _ (by rw [HPl.out]; exact hlt)] at cb
            go_wp2
            go_roundw
            case rel =>
              refine ⟨k + 1, by omega, by go_num, mr.stepI ((Chg.refl _ _).setCell (.inl (by simp)) _) ?_ ngi hgg hwgi⟩
              rw [xor36, blk_bset mr.ri, xorN_step _ _ _ (by rw [HPl.out]; exact hlt)]
            case measure => simp [intOf]; omega
        · obtain rfl : k = bk := by omega
          have mr2 := mr
          rw [show xorN 0x36 P k = P.map (· ^^^ 0x36) from by rw [← HPl.out]; exact xorN_all _ _] at mr2
          have co : wr.cell? ⟨h, 0, none⟩ = some (.slice (some ⟨go, 0, none⟩) k k) := blk_cell mr.rh 0
          clear mr fi ci cV
          have cV := HV.out _ mr2.rV
          go_wp2
          go_loopw [96] (fun i wr2 => ∃ j : Nat, j ≤ k ∧ i = .int .i64 j ∧ PadMem K none w wr2 h V p s q t gi go k (key.length : Int) (P.map (· ^^^ 0x36)) (xorN 0x5c P j)) (fun i _ => k - (intOf i).toNat)
          case atStart => exact ⟨0, by omega, rfl, mr2⟩
          case round =>
            obtain ⟨j, hj, rfl, mo⟩ := hrel
            clear mr2 cV co
            have cV := HV.out _ mo.rV
            have co : wr.cell? ⟨h, 0, none⟩ = some (.slice (some ⟨go, 0, none⟩) k k) := blk_cell mo.rh 0
            have fo := fun j => blk_frozen mo.ro j
            by_cases hlt : j < k
            · as_aux_lemma =>
                have hlt' : decide ((j : Int) < (k : Int)) = true := decide_eq_true (by omega)
                have cb := (blk_cell mo.ro j).trans (bv_cell (xorN 0x5c P j) j (by rw [xorN_length, HPl.out]; exact hlt))
                rw [xorN_gt _ _ _ (by rw [HPl.out]; exact hlt)] at cb
                go_wp2
                go_roundw
                case rel =>
                  refine ⟨j + 1, by omega, by go_num, mo.stepO ((Chg.refl _ _).setCell (.inl (by simp)) _) ?_ ngo hgg hwgo⟩
                  rw [xor5c, blk_bset mo.ro, xorN_step _ _ _ (by rw [HPl.out]; exact hlt)]
                case measure => simp [intOf]; omega
            · as_aux_lemma =>
                obtain rfl : j = k := by omega
                have mf := mo
                rw [show xorN 0x5c P j = P.map (· ^^^ 0x5c) from by rw [← HPl.out]; exact xorN_all _ _] at mf
                have ci : wr.cell? ⟨h, 1, none⟩ = some (.slice (some ⟨gi, 0, none⟩) j j) := blk_cell mf.rh 1
                have c3 : wr.cell? ⟨h, 3, none⟩ = some (.iface (kTy none) (.pointer (some ⟨p, 0, none⟩))) := blk_cell mf.rh 3
                have hdr : Chg [] wr wr.drew := (Chg.refl [] wr).drew
                have hml : ∀ x : UInt8, (P.map (· ^^^ x)).length = j := fun x => by rw [List.length_map, HPl.out]
                have hw := h_write K none wr.drew p s [] (HKW.out.chg (mf.chg.drew) (by simp)) (mf.inn.chg hdr (by simp) (by simp)) (by simp) (.slice (some ⟨gi, 0, none⟩) j j) (P.map (· ^^^ 0x36)) (by rw [hml]; omega) ((row_pad (mf.drew).ri (hml _) (by omega)).bs (by have := ngi p (by simp); have := ngi s (by simp); simp; omega))
                have HW := Lib.hid hw
                clear hw mo fo
                go_wp2
                refine region_tail 10 (by kernel_rfl) (by kernel_rfl) ?_
                simp only [List.take_succ_cons, List.take_zero, List.drop_succ_cons, List.drop_zero]
                repeat ((first | refine still_one rfl ?_ | refine still_one2 rfl ?_); go_wp2; refine Held1.mk ?_)
                refine wpStill_nil ?_
                refine inv_write none p (u := .slice (some ⟨gi, 0, none⟩) j j) rfl (.tmp 118) (.tmp 116) rfl rfl rfl HW.out ?_
                rintro w18 ⟨hh18, hc18⟩
                obtain ⟨ap1, ap2, ap3, ap4, ap5, n1⟩ := HAP.out
                have cV18 := HV.out _ (hc18.row (mf.drew).rV (n1 V (by simp)))
                go_wp2
                go_ret
                have hk1 : ∀ y : UInt8, padX (hfK K none) key y = P.map (· ^^^ y) := fun y => by unfold padX; rw [← HBK.out, ← HK0.out, ← HP.out]
                have hall := HALL.out
                refine ⟨h, p, s, q, t, go, gi, rfl, ⟨hok, ap1, ap2, ap3, ap4, ?_, mf.drew.out.chg hc18 (n1 q (by simp)) (n1 t (by simp)), .slice (some ⟨go, 0, none⟩) j j, .slice (some ⟨gi, 0, none⟩) j j, .bool false, .int .i64 (key.length : Int), hc18.row (mf.drew).rh (n1 h (by simp)), ?_, ?_⟩, (mf.chg.drew).and hc18 (fun x hx => .inr (hall x (by simp at hx ⊢; rcases hx with rfl | rfl <;> simp))), ap5⟩
                · rw [hk1, List.append_nil]
                  exact hh18
                · rw [hk1]; exact row_pad (hc18.row (mf.drew).ro (n1 go (by simp))) (hml _) (by omega)
                · rw [hk1]; exact row_pad (hc18.row (mf.drew).ri (n1 gi (by simp))) (hml _) (by omega)
end Go.Proofs.YtknoomndofnnmaaDoor
