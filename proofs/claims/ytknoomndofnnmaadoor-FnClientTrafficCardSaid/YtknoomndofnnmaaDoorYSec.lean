/- TLS 1.3's secrets: the objects and their methods. TLS 1.3's secrets: what makes such objects. The exporter; NewEarlySecret and what it makes hashes of. -/
import Derived.Test.YtknoomndofnnmaaDoorYTlsC
import Derived.Test.YtknoomndofnnmaaDoorYKit
namespace Go.Proofs.YtknoomndofnnmaaDoor
open Go Go.RowKit

theorem ld_fn {W : World} {p : Addr} {v : Value} (h : W.cell? p = some v) : (Instr.loadAt 91 (.pointer (some p))).run Tryd.prog W = .ok v W := by simp [go_sem, h]
/-- A secret object at e: its bytes, and what makes hashes. -/
def SecAt (K : List UInt32) (κ : Kd) (T : TypeId) (w : World) (e : Nat) (x : Bs) : Prop :=
  x.length ≤ 64 ∧ ∃ sv F B, w.heap[e]? = some (.cells #[sv, F] T (0, 0)) ∧ BS [] w sv x ∧ Maker K κ B w F (mkI κ)
theorem SecAt.keep {K : List UInt32} {κ : Kd} {T : TypeId} {w w' : World} {e : Nat} {x : Bs} (h : SecAt K κ T w e x) (hc : Chg [] w w') : SecAt K κ T w' e x := by
  obtain ⟨h1, sv, F, B, h2, h3, h4⟩ := h
  exact ⟨h1, sv, F, B, hc.row h2 (by simp), h3.keep hc, h4.keep hc⟩
/-- The call ends with such an object. -/
def GivesSec (K : List UInt32) (κ : Kd) (T : TypeId) (w : World) (x : Bs) (e : Ending) (w' : World) : Prop := ∃ p, e = .returned (.pointer (some ⟨p, 0, none⟩)) ∧ SecAt K κ T w' p x ∧ Chg [] w w'
/-- A transcript. -/
def TrAt (K : List UInt32) (κ : Kd) (w : World) (tv : Value) (msgs : Bs) : Prop := (tv = .nilIface ∧ msgs = []) ∨ ∃ p q, tv = .iface (kTy κ) (.pointer (some ⟨p, 0, none⟩)) ∧ HAt K κ w p q msgs
theorem TrAt.keep {K : List UInt32} {κ : Kd} {w w' : World} {tv : Value} {msgs : Bs} (h : TrAt K κ w tv msgs) (hc : Chg [] w w') : TrAt K κ w' tv msgs := by
  rcases h with h | ⟨p, q, h1, h2⟩
  · exact .inl h
  · exact .inr ⟨p, q, h1, h2.chg hc (by simp) (by simp)⟩
theorem deriveF_le {H : HF} (hok : H.Ok) (a b c : Bs) : (deriveF H a b c).length ≤ 64 := by rw [deriveF_length hok]; have := hok.sz32; omega
theorem extractF_le {H : HF} (hok : H.Ok) (a b : Bs) : (extractF H a b).length ≤ 64 := by rw [extractF_length hok]; have := hok.sz32; omega

def lblCE : ByteArray := { data := #[99, 32, 101, 32, 116, 114, 97, 102, 102, 105, 99] }
theorem lblCE_size : lblCE.size ≤ 249 := Nat.le_of_ble_eq_true rfl
def lblRB : ByteArray := { data := #[114, 101, 115, 32, 98, 105, 110, 100, 101, 114] }
theorem lblRB_size : lblRB.size ≤ 249 := Nat.le_of_ble_eq_true rfl
def lblEX : ByteArray := { data := #[101, 32, 101, 120, 112, 32, 109, 97, 115, 116, 101, 114] }
theorem lblEX_size : lblEX.size ≤ 249 := Nat.le_of_ble_eq_true rfl
def lblCH : ByteArray := { data := #[99, 32, 104, 115, 32, 116, 114, 97, 102, 102, 105, 99] }
theorem lblCH_size : lblCH.size ≤ 249 := Nat.le_of_ble_eq_true rfl
def lblSH : ByteArray := { data := #[115, 32, 104, 115, 32, 116, 114, 97, 102, 102, 105, 99] }
theorem lblSH_size : lblSH.size ≤ 249 := Nat.le_of_ble_eq_true rfl
def lblCA : ByteArray := { data := #[99, 32, 97, 112, 32, 116, 114, 97, 102, 102, 105, 99] }
theorem lblCA_size : lblCA.size ≤ 249 := Nat.le_of_ble_eq_true rfl
def lblSA : ByteArray := { data := #[115, 32, 97, 112, 32, 116, 114, 97, 102, 102, 105, 99] }
theorem lblSA_size : lblSA.size ≤ 249 := Nat.le_of_ble_eq_true rfl
def lblRM : ByteArray := { data := #[114, 101, 115, 32, 109, 97, 115, 116, 101, 114] }
theorem lblRM_size : lblRM.size ≤ 249 := Nat.le_of_ble_eq_true rfl
def lblXM : ByteArray := { data := #[101, 120, 112, 32, 109, 97, 115, 116, 101, 114] }
theorem lblXM_size : lblXM.size ≤ 249 := Nat.le_of_ble_eq_true rfl
def lblD : ByteArray := { data := #[100, 101, 114, 105, 118, 101, 100] }
theorem lblD_size : lblD.size ≤ 249 := Nat.le_of_ble_eq_true rfl
def lblX : ByteArray := { data := #[101, 120, 112, 111, 114, 116, 101, 114] }
theorem lblX_size : lblX.size ≤ 249 := Nat.le_of_ble_eq_true rfl
set_option maxRecDepth 100000 in
set_option maxHeartbeats 1000000 in
theorem sec_ClientEarlyTrafficSecret (K : List UInt32) (κ : Kd) (w : World) (e : Nat) (x : Bs) (hs : SecAt K κ 93 w e x) (tv : Value) (msgs : Bs) (hml : msgs.length ≤ 500000) (hT : TrAt K κ w tv msgs) :
    Calls Tryd.prog 52 #[.pointer (some ⟨e, 0, none⟩), tv] w (Gives w (deriveF (hfK K κ) x (sb lblCE) msgs)) := by
  obtain ⟨hxl, sv, F, B, hrow, hbs, hM⟩ := hs
  have hok := hfK_ok K hM.1
  have ldf : ∀ W, Chg [] w W → (Instr.loadAt 91 (.pointer (some ⟨e, 1, none⟩))).run Tryd.prog W = .ok F W := fun W h => ld_fn (blk_cell (h.row hrow (by simp)) 1)
  have lds : ∀ W, Chg [] w W → (Instr.loadAt 24 (.pointer (some ⟨e, 0, none⟩))).run Tryd.prog W = .ok sv W := fun W h => ld_slice (blk_cell (h.row hrow (by simp)) 0)
  have hd0 : Chg [] w w.drew := (Chg.refl [] w).drew
  go_enter Tryd.func52, Tryd.ntmps52
  go_upto_region 1 with fail
  refine region_held (fun w' => Chg [] w w') [(0, true), (1, true), (2, true), (3, true), (4, true), (5, true), (6, true), (7, true), (8, true), (9, false), (10, true)] (by kernel_rfl) (by kernel_rfl) hd0 ?_
  change wpPlan _ _ _ _ [(_, true), (_, true), (_, true), (_, true), (_, true), (_, true), (_, true), (_, true), (_, true), (_, false), (_, true)] _ _
  refine plan_uniG (by kernel_rfl) rfl ?_
  go_wp2
  refine HeldU.mk ?_
  refine plan_uniG (by kernel_rfl) rfl ?_
  go_wp2
  refine HeldU.mk ?_
  refine plan_uniG (by kernel_rfl) rfl ?_
  go_wp2
  refine HeldU.mk ?_
  refine plan_loadG 91 _ ⟨e, 1, none⟩ F rfl rfl rfl ldf ?_
  refine plan_uniG (by kernel_rfl) rfl ?_
  go_wp2
  refine HeldU.mk ?_
  refine plan_uniG (by kernel_rfl) rfl ?_
  go_wp2
  refine HeldU.mk ?_
  refine plan_uniG (by kernel_rfl) rfl ?_
  go_wp2
  refine HeldU.mk ?_
  refine plan_loadG 24 _ ⟨e, 0, none⟩ sv rfl rfl rfl lds ?_
  refine plan_uniG (by kernel_rfl) rfl ?_
  go_wp2
  refine HeldU.mk ?_
  refine plan_step ?_
  go_wp2_with (go_at_call 84; refine (dsecret_hash K κ _ F B (hM.keep hd0) x sv lblCE tv msgs (by omega) lblCE_size (by first | omega | simp) (hbs.keep hd0) (hT.keep hd0)).mono ?_; rintro ed wd ⟨ud, rfl, fd⟩)
  have hx0 := Chg.trans hd0 fd.2.1
  refine HeldN.mk hx0 ?_
  refine plan_assign _ rfl rfl ?_
  refine plan_nil (Held2.mk ?_)
  go_wp2
  go_ret
  exact ⟨_, rfl, fd.from hd0⟩
set_option maxRecDepth 100000 in
set_option maxHeartbeats 1000000 in
theorem sec_ResumptionBinderKey (K : List UInt32) (κ : Kd) (w : World) (e : Nat) (x : Bs) (hs : SecAt K κ 93 w e x) :
    Calls Tryd.prog 69 #[.pointer (some ⟨e, 0, none⟩)] w (Gives w (deriveF (hfK K κ) x (sb lblRB) [])) := by
  obtain ⟨hxl, sv, F, B, hrow, hbs, hM⟩ := hs
  have hok := hfK_ok K hM.1
  have ldf : ∀ W, Chg [] w W → (Instr.loadAt 91 (.pointer (some ⟨e, 1, none⟩))).run Tryd.prog W = .ok F W := fun W h => ld_fn (blk_cell (h.row hrow (by simp)) 1)
  have lds : ∀ W, Chg [] w W → (Instr.loadAt 24 (.pointer (some ⟨e, 0, none⟩))).run Tryd.prog W = .ok sv W := fun W h => ld_slice (blk_cell (h.row hrow (by simp)) 0)
  have hd0 : Chg [] w w.drew := (Chg.refl [] w).drew
  go_enter Tryd.func69, Tryd.ntmps69
  go_upto_region 1 with fail
  refine region_held (fun w' => Chg [] w w') [(0, true), (1, true), (2, true), (3, true), (4, true), (5, false), (6, false), (7, true), (8, false), (9, true)] (by kernel_rfl) (by kernel_rfl) hd0 ?_
  change wpPlan _ _ _ _ [(_, true), (_, true), (_, true), (_, true), (_, true), (_, false), (_, false), (_, true), (_, false), (_, true)] _ _
  refine plan_uniG (by kernel_rfl) rfl ?_
  go_wp2
  refine HeldU.mk ?_
  refine plan_uniG (by kernel_rfl) rfl ?_
  go_wp2
  refine HeldU.mk ?_
  refine plan_uniG (by kernel_rfl) rfl ?_
  go_wp2
  refine HeldU.mk ?_
  refine plan_loadG 91 _ ⟨e, 1, none⟩ F rfl rfl rfl ldf ?_
  refine plan_uniG (by kernel_rfl) rfl ?_
  go_wp2
  refine HeldU.mk ?_
  refine plan_step ?_
  go_wp2
  refine HeldN.mk hd0 ?_
  refine plan_step ?_
  go_wp2
  refine HeldN.mk hd0 ?_
  refine plan_loadG 24 _ ⟨e, 0, none⟩ sv rfl rfl rfl lds ?_
  refine plan_step ?_
  go_wp2_with (go_at_call 84; refine (dsecret_hash K κ _ F B (hM.keep hd0) x sv lblRB .nilIface [] (by omega) lblRB_size (by first | omega | simp) (hbs.keep hd0) (.inl ⟨rfl, rfl⟩)).mono ?_; rintro ed wd ⟨ud, rfl, fd⟩)
  have hx0 := Chg.trans hd0 fd.2.1
  refine HeldN.mk hx0 ?_
  refine plan_assign _ rfl rfl ?_
  refine plan_nil (Held2.mk ?_)
  go_wp2
  go_ret
  exact ⟨_, rfl, fd.from hd0⟩
set_option maxRecDepth 100000 in
set_option maxHeartbeats 1000000 in
theorem sec_ClientHandshakeTrafficSecret (K : List UInt32) (κ : Kd) (w : World) (e : Nat) (x : Bs) (hs : SecAt K κ 95 w e x) (tv : Value) (msgs : Bs) (hml : msgs.length ≤ 500000) (hT : TrAt K κ w tv msgs) :
    Calls Tryd.prog 70 #[.pointer (some ⟨e, 0, none⟩), tv] w (Gives w (deriveF (hfK K κ) x (sb lblCH) msgs)) := by
  obtain ⟨hxl, sv, F, B, hrow, hbs, hM⟩ := hs
  have hok := hfK_ok K hM.1
  have ldf : ∀ W, Chg [] w W → (Instr.loadAt 91 (.pointer (some ⟨e, 1, none⟩))).run Tryd.prog W = .ok F W := fun W h => ld_fn (blk_cell (h.row hrow (by simp)) 1)
  have lds : ∀ W, Chg [] w W → (Instr.loadAt 24 (.pointer (some ⟨e, 0, none⟩))).run Tryd.prog W = .ok sv W := fun W h => ld_slice (blk_cell (h.row hrow (by simp)) 0)
  have hd0 : Chg [] w w.drew := (Chg.refl [] w).drew
  go_enter Tryd.func70, Tryd.ntmps70
  go_upto_region 1 with fail
  refine region_held (fun w' => Chg [] w w') [(0, true), (1, true), (2, true), (3, true), (4, true), (5, true), (6, true), (7, true), (8, true), (9, false), (10, true)] (by kernel_rfl) (by kernel_rfl) hd0 ?_
  change wpPlan _ _ _ _ [(_, true), (_, true), (_, true), (_, true), (_, true), (_, true), (_, true), (_, true), (_, true), (_, false), (_, true)] _ _
  refine plan_uniG (by kernel_rfl) rfl ?_
  go_wp2
  refine HeldU.mk ?_
  refine plan_uniG (by kernel_rfl) rfl ?_
  go_wp2
  refine HeldU.mk ?_
  refine plan_uniG (by kernel_rfl) rfl ?_
  go_wp2
  refine HeldU.mk ?_
  refine plan_loadG 91 _ ⟨e, 1, none⟩ F rfl rfl rfl ldf ?_
  refine plan_uniG (by kernel_rfl) rfl ?_
  go_wp2
  refine HeldU.mk ?_
  refine plan_uniG (by kernel_rfl) rfl ?_
  go_wp2
  refine HeldU.mk ?_
  refine plan_uniG (by kernel_rfl) rfl ?_
  go_wp2
  refine HeldU.mk ?_
  refine plan_loadG 24 _ ⟨e, 0, none⟩ sv rfl rfl rfl lds ?_
  refine plan_uniG (by kernel_rfl) rfl ?_
  go_wp2
  refine HeldU.mk ?_
  refine plan_step ?_
  go_wp2_with (go_at_call 84; refine (dsecret_hash K κ _ F B (hM.keep hd0) x sv lblCH tv msgs (by omega) lblCH_size (by first | omega | simp) (hbs.keep hd0) (hT.keep hd0)).mono ?_; rintro ed wd ⟨ud, rfl, fd⟩)
  have hx0 := Chg.trans hd0 fd.2.1
  refine HeldN.mk hx0 ?_
  refine plan_assign _ rfl rfl ?_
  refine plan_nil (Held2.mk ?_)
  go_wp2
  go_ret
  exact ⟨_, rfl, fd.from hd0⟩
set_option maxRecDepth 100000 in
set_option maxHeartbeats 1000000 in
theorem sec_ServerHandshakeTrafficSecret (K : List UInt32) (κ : Kd) (w : World) (e : Nat) (x : Bs) (hs : SecAt K κ 95 w e x) (tv : Value) (msgs : Bs) (hml : msgs.length ≤ 500000) (hT : TrAt K κ w tv msgs) :
    Calls Tryd.prog 75 #[.pointer (some ⟨e, 0, none⟩), tv] w (Gives w (deriveF (hfK K κ) x (sb lblSH) msgs)) := by
  obtain ⟨hxl, sv, F, B, hrow, hbs, hM⟩ := hs
  have hok := hfK_ok K hM.1
  have ldf : ∀ W, Chg [] w W → (Instr.loadAt 91 (.pointer (some ⟨e, 1, none⟩))).run Tryd.prog W = .ok F W := fun W h => ld_fn (blk_cell (h.row hrow (by simp)) 1)
  have lds : ∀ W, Chg [] w W → (Instr.loadAt 24 (.pointer (some ⟨e, 0, none⟩))).run Tryd.prog W = .ok sv W := fun W h => ld_slice (blk_cell (h.row hrow (by simp)) 0)
  have hd0 : Chg [] w w.drew := (Chg.refl [] w).drew
  go_enter Tryd.func75, Tryd.ntmps75
  go_upto_region 1 with fail
  refine region_held (fun w' => Chg [] w w') [(0, true), (1, true), (2, true), (3, true), (4, true), (5, true), (6, true), (7, true), (8, true), (9, false), (10, true)] (by kernel_rfl) (by kernel_rfl) hd0 ?_
  change wpPlan _ _ _ _ [(_, true), (_, true), (_, true), (_, true), (_, true), (_, true), (_, true), (_, true), (_, true), (_, false), (_, true)] _ _
  refine plan_uniG (by kernel_rfl) rfl ?_
  go_wp2
  refine HeldU.mk ?_
  refine plan_uniG (by kernel_rfl) rfl ?_
  go_wp2
  refine HeldU.mk ?_
  refine plan_uniG (by kernel_rfl) rfl ?_
  go_wp2
  refine HeldU.mk ?_
  refine plan_loadG 91 _ ⟨e, 1, none⟩ F rfl rfl rfl ldf ?_
  refine plan_uniG (by kernel_rfl) rfl ?_
  go_wp2
  refine HeldU.mk ?_
  refine plan_uniG (by kernel_rfl) rfl ?_
  go_wp2
  refine HeldU.mk ?_
  refine plan_uniG (by kernel_rfl) rfl ?_
  go_wp2
  refine HeldU.mk ?_
  refine plan_loadG 24 _ ⟨e, 0, none⟩ sv rfl rfl rfl lds ?_
  refine plan_uniG (by kernel_rfl) rfl ?_
  go_wp2
  refine HeldU.mk ?_
  refine plan_step ?_
  go_wp2_with (go_at_call 84; refine (dsecret_hash K κ _ F B (hM.keep hd0) x sv lblSH tv msgs (by omega) lblSH_size (by first | omega | simp) (hbs.keep hd0) (hT.keep hd0)).mono ?_; rintro ed wd ⟨ud, rfl, fd⟩)
  have hx0 := Chg.trans hd0 fd.2.1
  refine HeldN.mk hx0 ?_
  refine plan_assign _ rfl rfl ?_
  refine plan_nil (Held2.mk ?_)
  go_wp2
  go_ret
  exact ⟨_, rfl, fd.from hd0⟩
set_option maxRecDepth 100000 in
set_option maxHeartbeats 1000000 in
theorem sec_ClientApplicationTrafficSecret (K : List UInt32) (κ : Kd) (w : World) (e : Nat) (x : Bs) (hs : SecAt K κ 97 w e x) (tv : Value) (msgs : Bs) (hml : msgs.length ≤ 500000) (hT : TrAt K κ w tv msgs) :
    Calls Tryd.prog 76 #[.pointer (some ⟨e, 0, none⟩), tv] w (Gives w (deriveF (hfK K κ) x (sb lblCA) msgs)) := by
  obtain ⟨hxl, sv, F, B, hrow, hbs, hM⟩ := hs
  have hok := hfK_ok K hM.1
  have ldf : ∀ W, Chg [] w W → (Instr.loadAt 91 (.pointer (some ⟨e, 1, none⟩))).run Tryd.prog W = .ok F W := fun W h => ld_fn (blk_cell (h.row hrow (by simp)) 1)
  have lds : ∀ W, Chg [] w W → (Instr.loadAt 24 (.pointer (some ⟨e, 0, none⟩))).run Tryd.prog W = .ok sv W := fun W h => ld_slice (blk_cell (h.row hrow (by simp)) 0)
  have hd0 : Chg [] w w.drew := (Chg.refl [] w).drew
  go_enter Tryd.func76, Tryd.ntmps76
  go_upto_region 1 with fail
  refine region_held (fun w' => Chg [] w w') [(0, true), (1, true), (2, true), (3, true), (4, true), (5, true), (6, true), (7, true), (8, true), (9, false), (10, true)] (by kernel_rfl) (by kernel_rfl) hd0 ?_
  change wpPlan _ _ _ _ [(_, true), (_, true), (_, true), (_, true), (_, true), (_, true), (_, true), (_, true), (_, true), (_, false), (_, true)] _ _
  refine plan_uniG (by kernel_rfl) rfl ?_
  go_wp2
  refine HeldU.mk ?_
  refine plan_uniG (by kernel_rfl) rfl ?_
  go_wp2
  refine HeldU.mk ?_
  refine plan_uniG (by kernel_rfl) rfl ?_
  go_wp2
  refine HeldU.mk ?_
  refine plan_loadG 91 _ ⟨e, 1, none⟩ F rfl rfl rfl ldf ?_
  refine plan_uniG (by kernel_rfl) rfl ?_
  go_wp2
  refine HeldU.mk ?_
  refine plan_uniG (by kernel_rfl) rfl ?_
  go_wp2
  refine HeldU.mk ?_
  refine plan_uniG (by kernel_rfl) rfl ?_
  go_wp2
  refine HeldU.mk ?_
  refine plan_loadG 24 _ ⟨e, 0, none⟩ sv rfl rfl rfl lds ?_
  refine plan_uniG (by kernel_rfl) rfl ?_
  go_wp2
  refine HeldU.mk ?_
  refine plan_step ?_
  go_wp2_with (go_at_call 84; refine (dsecret_hash K κ _ F B (hM.keep hd0) x sv lblCA tv msgs (by omega) lblCA_size (by first | omega | simp) (hbs.keep hd0) (hT.keep hd0)).mono ?_; rintro ed wd ⟨ud, rfl, fd⟩)
  have hx0 := Chg.trans hd0 fd.2.1
  refine HeldN.mk hx0 ?_
  refine plan_assign _ rfl rfl ?_
  refine plan_nil (Held2.mk ?_)
  go_wp2
  go_ret
  exact ⟨_, rfl, fd.from hd0⟩
set_option maxRecDepth 100000 in
set_option maxHeartbeats 1000000 in
theorem sec_ServerApplicationTrafficSecret (K : List UInt32) (κ : Kd) (w : World) (e : Nat) (x : Bs) (hs : SecAt K κ 97 w e x) (tv : Value) (msgs : Bs) (hml : msgs.length ≤ 500000) (hT : TrAt K κ w tv msgs) :
    Calls Tryd.prog 56 #[.pointer (some ⟨e, 0, none⟩), tv] w (Gives w (deriveF (hfK K κ) x (sb lblSA) msgs)) := by
  obtain ⟨hxl, sv, F, B, hrow, hbs, hM⟩ := hs
  have hok := hfK_ok K hM.1
  have ldf : ∀ W, Chg [] w W → (Instr.loadAt 91 (.pointer (some ⟨e, 1, none⟩))).run Tryd.prog W = .ok F W := fun W h => ld_fn (blk_cell (h.row hrow (by simp)) 1)
  have lds : ∀ W, Chg [] w W → (Instr.loadAt 24 (.pointer (some ⟨e, 0, none⟩))).run Tryd.prog W = .ok sv W := fun W h => ld_slice (blk_cell (h.row hrow (by simp)) 0)
  have hd0 : Chg [] w w.drew := (Chg.refl [] w).drew
  go_enter Tryd.func56, Tryd.ntmps56
  go_upto_region 1 with fail
  refine region_held (fun w' => Chg [] w w') [(0, true), (1, true), (2, true), (3, true), (4, true), (5, true), (6, true), (7, true), (8, true), (9, false), (10, true)] (by kernel_rfl) (by kernel_rfl) hd0 ?_
  change wpPlan _ _ _ _ [(_, true), (_, true), (_, true), (_, true), (_, true), (_, true), (_, true), (_, true), (_, true), (_, false), (_, true)] _ _
  refine plan_uniG (by kernel_rfl) rfl ?_
  go_wp2
  refine HeldU.mk ?_
  refine plan_uniG (by kernel_rfl) rfl ?_
  go_wp2
  refine HeldU.mk ?_
  refine plan_uniG (by kernel_rfl) rfl ?_
  go_wp2
  refine HeldU.mk ?_
  refine plan_loadG 91 _ ⟨e, 1, none⟩ F rfl rfl rfl ldf ?_
  refine plan_uniG (by kernel_rfl) rfl ?_
  go_wp2
  refine HeldU.mk ?_
  refine plan_uniG (by kernel_rfl) rfl ?_
  go_wp2
  refine HeldU.mk ?_
  refine plan_uniG (by kernel_rfl) rfl ?_
  go_wp2
  refine HeldU.mk ?_
  refine plan_loadG 24 _ ⟨e, 0, none⟩ sv rfl rfl rfl lds ?_
  refine plan_uniG (by kernel_rfl) rfl ?_
  go_wp2
  refine HeldU.mk ?_
  refine plan_step ?_
  go_wp2_with (go_at_call 84; refine (dsecret_hash K κ _ F B (hM.keep hd0) x sv lblSA tv msgs (by omega) lblSA_size (by first | omega | simp) (hbs.keep hd0) (hT.keep hd0)).mono ?_; rintro ed wd ⟨ud, rfl, fd⟩)
  have hx0 := Chg.trans hd0 fd.2.1
  refine HeldN.mk hx0 ?_
  refine plan_assign _ rfl rfl ?_
  refine plan_nil (Held2.mk ?_)
  go_wp2
  go_ret
  exact ⟨_, rfl, fd.from hd0⟩
set_option maxRecDepth 100000 in
set_option maxHeartbeats 1000000 in
theorem sec_ResumptionMasterSecret (K : List UInt32) (κ : Kd) (w : World) (e : Nat) (x : Bs) (hs : SecAt K κ 97 w e x) (tv : Value) (msgs : Bs) (hml : msgs.length ≤ 500000) (hT : TrAt K κ w tv msgs) :
    Calls Tryd.prog 71 #[.pointer (some ⟨e, 0, none⟩), tv] w (Gives w (deriveF (hfK K κ) x (sb lblRM) msgs)) := by
  obtain ⟨hxl, sv, F, B, hrow, hbs, hM⟩ := hs
  have hok := hfK_ok K hM.1
  have ldf : ∀ W, Chg [] w W → (Instr.loadAt 91 (.pointer (some ⟨e, 1, none⟩))).run Tryd.prog W = .ok F W := fun W h => ld_fn (blk_cell (h.row hrow (by simp)) 1)
  have lds : ∀ W, Chg [] w W → (Instr.loadAt 24 (.pointer (some ⟨e, 0, none⟩))).run Tryd.prog W = .ok sv W := fun W h => ld_slice (blk_cell (h.row hrow (by simp)) 0)
  have hd0 : Chg [] w w.drew := (Chg.refl [] w).drew
  go_enter Tryd.func71, Tryd.ntmps71
  go_upto_region 1 with fail
  refine region_held (fun w' => Chg [] w w') [(0, true), (1, true), (2, true), (3, true), (4, true), (5, true), (6, true), (7, true), (8, true), (9, false), (10, true)] (by kernel_rfl) (by kernel_rfl) hd0 ?_
  change wpPlan _ _ _ _ [(_, true), (_, true), (_, true), (_, true), (_, true), (_, true), (_, true), (_, true), (_, true), (_, false), (_, true)] _ _
  refine plan_uniG (by kernel_rfl) rfl ?_
  go_wp2
  refine HeldU.mk ?_
  refine plan_uniG (by kernel_rfl) rfl ?_
  go_wp2
  refine HeldU.mk ?_
  refine plan_uniG (by kernel_rfl) rfl ?_
  go_wp2
  refine HeldU.mk ?_
  refine plan_loadG 91 _ ⟨e, 1, none⟩ F rfl rfl rfl ldf ?_
  refine plan_uniG (by kernel_rfl) rfl ?_
  go_wp2
  refine HeldU.mk ?_
  refine plan_uniG (by kernel_rfl) rfl ?_
  go_wp2
  refine HeldU.mk ?_
  refine plan_uniG (by kernel_rfl) rfl ?_
  go_wp2
  refine HeldU.mk ?_
  refine plan_loadG 24 _ ⟨e, 0, none⟩ sv rfl rfl rfl lds ?_
  refine plan_uniG (by kernel_rfl) rfl ?_
  go_wp2
  refine HeldU.mk ?_
  refine plan_step ?_
  go_wp2_with (go_at_call 84; refine (dsecret_hash K κ _ F B (hM.keep hd0) x sv lblRM tv msgs (by omega) lblRM_size (by first | omega | simp) (hbs.keep hd0) (hT.keep hd0)).mono ?_; rintro ed wd ⟨ud, rfl, fd⟩)
  have hx0 := Chg.trans hd0 fd.2.1
  refine HeldN.mk hx0 ?_
  refine plan_assign _ rfl rfl ?_
  refine plan_nil (Held2.mk ?_)
  go_wp2
  go_ret
  exact ⟨_, rfl, fd.from hd0⟩
end Go.Proofs.YtknoomndofnnmaaDoor

namespace Go.Proofs.YtknoomndofnnmaaDoor
open Go Go.RowKit

set_option maxRecDepth 100000 in
set_option maxHeartbeats 1000000 in
theorem sec_EarlyExporterMasterSecret (K : List UInt32) (κ : Kd) (w : World) (e : Nat) (x : Bs) (hs : SecAt K κ 93 w e x) (tv : Value) (msgs : Bs) (hml : msgs.length ≤ 500000) (hT : TrAt K κ w tv msgs) :
    Calls Tryd.prog 74 #[.pointer (some ⟨e, 0, none⟩), tv] w (GivesSec K κ 100 w (deriveF (hfK K κ) x (sb lblEX) msgs)) := by
  obtain ⟨hxl, sv, F, B, hrow, hbs, hM⟩ := hs
  have hok := hfK_ok K hM.1
  have ldf : ∀ W, Chg [] w W → (Instr.loadAt 91 (.pointer (some ⟨e, 1, none⟩))).run Tryd.prog W = .ok F W := fun W h => ld_fn (blk_cell (h.row hrow (by simp)) 1)
  have lds : ∀ W, Chg [] w W → (Instr.loadAt 24 (.pointer (some ⟨e, 0, none⟩))).run Tryd.prog W = .ok sv W := fun W h => ld_slice (blk_cell (h.row hrow (by simp)) 0)
  have hd0 : Chg [] w w.drew := (Chg.refl [] w).drew
  go_enter Tryd.func74, Tryd.ntmps74
  go_upto_region 1 with fail
  refine region_held (fun w' => Chg [] w w') [(0, true), (1, true), (2, true), (3, true), (4, true), (5, true), (6, true), (7, true), (8, true), (10, true), (11, true), (12, true), (13, true), (9, false), (14, false), (15, false), (16, true)] (by kernel_rfl) (by kernel_rfl) hd0 ?_
  change wpPlan _ _ _ _ [(_, true), (_, true), (_, true), (_, true), (_, true), (_, true), (_, true), (_, true), (_, true), (_, true), (_, true), (_, true), (_, true), (_, false), (_, false), (_, false), (_, true)] _ _
  refine plan_uniG (by kernel_rfl) rfl ?_
  go_wp2
  refine HeldU.mk ?_
  refine plan_uniG (by kernel_rfl) rfl ?_
  go_wp2
  refine HeldU.mk ?_
  refine plan_uniG (by kernel_rfl) rfl ?_
  go_wp2
  refine HeldU.mk ?_
  refine plan_loadG 91 _ ⟨e, 1, none⟩ F rfl rfl rfl ldf ?_
  refine plan_uniG (by kernel_rfl) rfl ?_
  go_wp2
  refine HeldU.mk ?_
  refine plan_uniG (by kernel_rfl) rfl ?_
  go_wp2
  refine HeldU.mk ?_
  refine plan_uniG (by kernel_rfl) rfl ?_
  go_wp2
  refine HeldU.mk ?_
  refine plan_loadG 24 _ ⟨e, 0, none⟩ sv rfl rfl rfl lds ?_
  refine plan_uniG (by kernel_rfl) rfl ?_
  go_wp2
  refine HeldU.mk ?_
  refine plan_uniG (by kernel_rfl) rfl ?_
  go_wp2
  refine HeldU.mk ?_
  refine plan_uniG (by kernel_rfl) rfl ?_
  go_wp2
  refine HeldU.mk ?_
  refine plan_uniG (by kernel_rfl) rfl ?_
  go_wp2
  refine HeldU.mk ?_
  refine plan_loadG 91 _ ⟨e, 1, none⟩ F rfl rfl rfl ldf ?_
  refine plan_step ?_
  go_wp2_with (go_at_call 84; refine (dsecret_hash K κ _ F B (hM.keep hd0) x sv lblEX tv msgs (by omega) lblEX_size (by first | omega | simp) (hbs.keep hd0) (hT.keep hd0)).mono ?_; rintro ed wd ⟨ud, rfl, fd⟩)
  have hx0 := Chg.trans hd0 fd.2.1
  obtain ⟨ua, uc, eu⟩ := fd.bs0.form
  subst eu
  obtain ⟨-, -, -, -, fF, fst, cap, hF, -, -⟩ := id hM
  subst hF
  refine HeldN.mk hx0 ?_
  refine plan_step ?_
  go_wp2
  refine HeldN.mk hx0 ?_
  refine plan_step ?_
  go_wp2
  refine HeldN.mk (Chg.alloc hx0 _) ?_
  refine plan_assign _ rfl rfl ?_
  refine plan_nil (Held2.mk ?_)
  go_wp2
  go_ret
  exact ⟨_, rfl, ⟨deriveF_le hok _ _ _, _, _, B, heap_alloc_new wd _, fd.bs0.keep ((Chg.refl [] wd).alloc _), hM.keep (Chg.alloc hx0 _)⟩, Chg.alloc hx0 _⟩
set_option maxRecDepth 100000 in
set_option maxHeartbeats 1000000 in
theorem sec_ExporterMasterSecret (K : List UInt32) (κ : Kd) (w : World) (e : Nat) (x : Bs) (hs : SecAt K κ 97 w e x) (tv : Value) (msgs : Bs) (hml : msgs.length ≤ 500000) (hT : TrAt K κ w tv msgs) :
    Calls Tryd.prog 60 #[.pointer (some ⟨e, 0, none⟩), tv] w (GivesSec K κ 100 w (deriveF (hfK K κ) x (sb lblXM) msgs)) := by
  obtain ⟨hxl, sv, F, B, hrow, hbs, hM⟩ := hs
  have hok := hfK_ok K hM.1
  have ldf : ∀ W, Chg [] w W → (Instr.loadAt 91 (.pointer (some ⟨e, 1, none⟩))).run Tryd.prog W = .ok F W := fun W h => ld_fn (blk_cell (h.row hrow (by simp)) 1)
  have lds : ∀ W, Chg [] w W → (Instr.loadAt 24 (.pointer (some ⟨e, 0, none⟩))).run Tryd.prog W = .ok sv W := fun W h => ld_slice (blk_cell (h.row hrow (by simp)) 0)
  have hd0 : Chg [] w w.drew := (Chg.refl [] w).drew
  go_enter Tryd.func60, Tryd.ntmps60
  go_upto_region 1 with fail
  refine region_held (fun w' => Chg [] w w') [(0, true), (1, true), (2, true), (3, true), (4, true), (5, true), (6, true), (7, true), (8, true), (10, true), (11, true), (12, true), (13, true), (9, false), (14, false), (15, false), (16, true)] (by kernel_rfl) (by kernel_rfl) hd0 ?_
  change wpPlan _ _ _ _ [(_, true), (_, true), (_, true), (_, true), (_, true), (_, true), (_, true), (_, true), (_, true), (_, true), (_, true), (_, true), (_, true), (_, false), (_, false), (_, false), (_, true)] _ _
  refine plan_uniG (by kernel_rfl) rfl ?_
  go_wp2
  refine HeldU.mk ?_
  refine plan_uniG (by kernel_rfl) rfl ?_
  go_wp2
  refine HeldU.mk ?_
  refine plan_uniG (by kernel_rfl) rfl ?_
  go_wp2
  refine HeldU.mk ?_
  refine plan_loadG 91 _ ⟨e, 1, none⟩ F rfl rfl rfl ldf ?_
  refine plan_uniG (by kernel_rfl) rfl ?_
  go_wp2
  refine HeldU.mk ?_
  refine plan_uniG (by kernel_rfl) rfl ?_
  go_wp2
  refine HeldU.mk ?_
  refine plan_uniG (by kernel_rfl) rfl ?_
  go_wp2
  refine HeldU.mk ?_
  refine plan_loadG 24 _ ⟨e, 0, none⟩ sv rfl rfl rfl lds ?_
  refine plan_uniG (by kernel_rfl) rfl ?_
  go_wp2
  refine HeldU.mk ?_
  refine plan_uniG (by kernel_rfl) rfl ?_
  go_wp2
  refine HeldU.mk ?_
  refine plan_uniG (by kernel_rfl) rfl ?_
  go_wp2
  refine HeldU.mk ?_
  refine plan_uniG (by kernel_rfl) rfl ?_
  go_wp2
  refine HeldU.mk ?_
  refine plan_loadG 91 _ ⟨e, 1, none⟩ F rfl rfl rfl ldf ?_
  refine plan_step ?_
  go_wp2_with (go_at_call 84; refine (dsecret_hash K κ _ F B (hM.keep hd0) x sv lblXM tv msgs (by omega) lblXM_size (by first | omega | simp) (hbs.keep hd0) (hT.keep hd0)).mono ?_; rintro ed wd ⟨ud, rfl, fd⟩)
  have hx0 := Chg.trans hd0 fd.2.1
  obtain ⟨ua, uc, eu⟩ := fd.bs0.form
  subst eu
  obtain ⟨-, -, -, -, fF, fst, cap, hF, -, -⟩ := id hM
  subst hF
  refine HeldN.mk hx0 ?_
  refine plan_step ?_
  go_wp2
  refine HeldN.mk hx0 ?_
  refine plan_step ?_
  go_wp2
  refine HeldN.mk (Chg.alloc hx0 _) ?_
  refine plan_assign _ rfl rfl ?_
  refine plan_nil (Held2.mk ?_)
  go_wp2
  go_ret
  exact ⟨_, rfl, ⟨deriveF_le hok _ _ _, _, _, B, heap_alloc_new wd _, fd.bs0.keep ((Chg.refl [] wd).alloc _), hM.keep (Chg.alloc hx0 _)⟩, Chg.alloc hx0 _⟩
set_option maxRecDepth 100000 in
set_option maxHeartbeats 1000000 in
theorem sec_toHandshakeSecret (K : List UInt32) (κ : Kd) (w : World) (e : Nat) (x : Bs) (hs : SecAt K κ 93 w e x) (yv : Value) (y : Bs) (hyl : y.length ≤ 65536) (hyb : BS [] w yv y) (hyn : yv = .slice none 0 0 ↔ y = []) :
    Calls Tryd.prog 85 #[.pointer (some ⟨e, 0, none⟩), yv] w (GivesSec K κ 95 w (extractF (hfK K κ) (orZeros (hfK K κ) y) (deriveF (hfK K κ) x (sb lblD) []))) := by
  obtain ⟨hxl, sv, F, B, hrow, hbs, hM⟩ := hs
  have hok := hfK_ok K hM.1
  have ldf : ∀ W, Chg [] w W → (Instr.loadAt 91 (.pointer (some ⟨e, 1, none⟩))).run Tryd.prog W = .ok F W := fun W h => ld_fn (blk_cell (h.row hrow (by simp)) 1)
  have lds : ∀ W, Chg [] w W → (Instr.loadAt 24 (.pointer (some ⟨e, 0, none⟩))).run Tryd.prog W = .ok sv W := fun W h => ld_slice (blk_cell (h.row hrow (by simp)) 0)
  have hd0 : Chg [] w w.drew := (Chg.refl [] w).drew
  go_enter Tryd.func85, Tryd.ntmps85
  go_upto_region 1 with fail
  refine region_held (fun w' => Chg [] w w') [(0, true), (1, true), (2, true), (3, true), (4, true), (5, false), (6, false), (7, true), (8, false), (9, true)] (by kernel_rfl) (by kernel_rfl) hd0 ?_
  change wpPlan _ _ _ _ [(_, true), (_, true), (_, true), (_, true), (_, true), (_, false), (_, false), (_, true), (_, false), (_, true)] _ _
  refine plan_uniG (by kernel_rfl) rfl ?_
  go_wp2
  refine HeldU.mk ?_
  refine plan_uniG (by kernel_rfl) rfl ?_
  go_wp2
  refine HeldU.mk ?_
  refine plan_uniG (by kernel_rfl) rfl ?_
  go_wp2
  refine HeldU.mk ?_
  refine plan_loadG 91 _ ⟨e, 1, none⟩ F rfl rfl rfl ldf ?_
  refine plan_uniG (by kernel_rfl) rfl ?_
  go_wp2
  refine HeldU.mk ?_
  refine plan_step ?_
  go_wp2
  refine HeldN.mk hd0 ?_
  refine plan_step ?_
  go_wp2
  refine HeldN.mk hd0 ?_
  refine plan_loadG 24 _ ⟨e, 0, none⟩ sv rfl rfl rfl lds ?_
  refine plan_step ?_
  go_wp2_with (go_at_call 84; refine (dsecret_hash K κ _ F B (hM.keep hd0) x sv lblD .nilIface [] (by omega) lblD_size (by first | omega | simp) (hbs.keep hd0) (.inl ⟨rfl, rfl⟩)).mono ?_; rintro ed wd ⟨ud, rfl, fd⟩)
  have hx0 := Chg.trans hd0 fd.2.1
  refine HeldN.mk hx0 ?_
  refine plan_assign _ rfl rfl ?_
  refine plan_nil (Held2.mk ?_)
  go_upto_region 2 with fail
  have hdr : Chg [] wd wd.drew := (Chg.refl [] wd).drew
  have hd1 := Chg.drew hx0
  refine region_held (fun w' => Chg [] w w') [(0, true), (1, true), (2, true), (3, true), (4, true), (5, true), (7, true), (8, true), (9, true), (10, true), (6, false), (11, false), (12, false), (13, true)] (by kernel_rfl) (by kernel_rfl) hd1 ?_
  change wpPlan _ _ _ _ [(_, true), (_, true), (_, true), (_, true), (_, true), (_, true), (_, true), (_, true), (_, true), (_, true), (_, false), (_, false), (_, false), (_, true)] _ _
  refine plan_uniG (by kernel_rfl) rfl ?_
  go_wp2
  refine HeldU.mk ?_
  refine plan_uniG (by kernel_rfl) rfl ?_
  go_wp2
  refine HeldU.mk ?_
  refine plan_uniG (by kernel_rfl) rfl ?_
  go_wp2
  refine HeldU.mk ?_
  refine plan_loadG 91 _ ⟨e, 1, none⟩ F rfl rfl rfl ldf ?_
  refine plan_uniG (by kernel_rfl) rfl ?_
  go_wp2
  refine HeldU.mk ?_
  refine plan_uniG (by kernel_rfl) rfl ?_
  go_wp2
  refine HeldU.mk ?_
  refine plan_uniG (by kernel_rfl) rfl ?_
  go_wp2
  refine HeldU.mk ?_
  refine plan_uniG (by kernel_rfl) rfl ?_
  go_wp2
  refine HeldU.mk ?_
  refine plan_uniG (by kernel_rfl) rfl ?_
  go_wp2
  refine HeldU.mk ?_
  refine plan_loadG 91 _ ⟨e, 1, none⟩ F rfl rfl rfl ldf ?_
  refine plan_step ?_
  go_wp2_with (go_at_call 86; refine (textract_hash K κ _ F B (hM.keep hd1) y (deriveF (hfK K κ) x (sb lblD) []) yv ud (by first | omega | simp) (by have := deriveF_le hok x (sb lblD) []; omega) (hyb.keep hd1) (fd.bs0.keep (hdr)) (hyn)).mono ?_; rintro ee we ⟨ue, rfl, fe⟩)
  have hy0 := Chg.trans hd1 fe.2.1
  obtain ⟨ua, uc, eu⟩ := fe.bs0.form
  subst eu
  obtain ⟨-, -, -, -, fF, fst, cap, hF, -, -⟩ := id hM
  subst hF
  refine HeldN.mk hy0 ?_
  refine plan_step ?_
  go_wp2
  refine HeldN.mk hy0 ?_
  refine plan_step ?_
  go_wp2
  refine HeldN.mk (Chg.alloc hy0 _) ?_
  refine plan_assign _ rfl rfl ?_
  refine plan_nil (Held2.mk ?_)
  go_wp2
  go_ret
  exact ⟨_, rfl, ⟨extractF_le hok _ _, _, _, B, heap_alloc_new we _, fe.bs0.keep ((Chg.refl [] we).alloc _), hM.keep (Chg.alloc hy0 _)⟩, Chg.alloc hy0 _⟩
set_option maxRecDepth 100000 in
set_option maxHeartbeats 1000000 in
theorem sec_toMasterSecret (K : List UInt32) (κ : Kd) (w : World) (e : Nat) (x : Bs) (hs : SecAt K κ 95 w e x) :
    Calls Tryd.prog 55 #[.pointer (some ⟨e, 0, none⟩)] w (GivesSec K κ 97 w (extractF (hfK K κ) (orZeros (hfK K κ) []) (deriveF (hfK K κ) x (sb lblD) []))) := by
  obtain ⟨hxl, sv, F, B, hrow, hbs, hM⟩ := hs
  have hok := hfK_ok K hM.1
  have ldf : ∀ W, Chg [] w W → (Instr.loadAt 91 (.pointer (some ⟨e, 1, none⟩))).run Tryd.prog W = .ok F W := fun W h => ld_fn (blk_cell (h.row hrow (by simp)) 1)
  have lds : ∀ W, Chg [] w W → (Instr.loadAt 24 (.pointer (some ⟨e, 0, none⟩))).run Tryd.prog W = .ok sv W := fun W h => ld_slice (blk_cell (h.row hrow (by simp)) 0)
  have hd0 : Chg [] w w.drew := (Chg.refl [] w).drew
  go_enter Tryd.func55, Tryd.ntmps55
  go_upto_region 1 with fail
  refine region_held (fun w' => Chg [] w w') [(0, true), (1, true), (2, true), (3, true), (4, true), (5, false), (6, false), (7, true), (8, false), (9, true)] (by kernel_rfl) (by kernel_rfl) hd0 ?_
  change wpPlan _ _ _ _ [(_, true), (_, true), (_, true), (_, true), (_, true), (_, false), (_, false), (_, true), (_, false), (_, true)] _ _
  refine plan_uniG (by kernel_rfl) rfl ?_
  go_wp2
  refine HeldU.mk ?_
  refine plan_uniG (by kernel_rfl) rfl ?_
  go_wp2
  refine HeldU.mk ?_
  refine plan_uniG (by kernel_rfl) rfl ?_
  go_wp2
  refine HeldU.mk ?_
  refine plan_loadG 91 _ ⟨e, 1, none⟩ F rfl rfl rfl ldf ?_
  refine plan_uniG (by kernel_rfl) rfl ?_
  go_wp2
  refine HeldU.mk ?_
  refine plan_step ?_
  go_wp2
  refine HeldN.mk hd0 ?_
  refine plan_step ?_
  go_wp2
  refine HeldN.mk hd0 ?_
  refine plan_loadG 24 _ ⟨e, 0, none⟩ sv rfl rfl rfl lds ?_
  refine plan_step ?_
  go_wp2_with (go_at_call 84; refine (dsecret_hash K κ _ F B (hM.keep hd0) x sv lblD .nilIface [] (by omega) lblD_size (by first | omega | simp) (hbs.keep hd0) (.inl ⟨rfl, rfl⟩)).mono ?_; rintro ed wd ⟨ud, rfl, fd⟩)
  have hx0 := Chg.trans hd0 fd.2.1
  refine HeldN.mk hx0 ?_
  refine plan_assign _ rfl rfl ?_
  refine plan_nil (Held2.mk ?_)
  go_upto_region 2 with fail
  have hdr : Chg [] wd wd.drew := (Chg.refl [] wd).drew
  have hd1 := Chg.drew hx0
  refine region_held (fun w' => Chg [] w w') [(0, true), (1, true), (2, true), (3, true), (4, true), (6, true), (7, true), (8, true), (9, true), (5, false), (10, false), (11, false), (12, true)] (by kernel_rfl) (by kernel_rfl) hd1 ?_
  change wpPlan _ _ _ _ [(_, true), (_, true), (_, true), (_, true), (_, true), (_, true), (_, true), (_, true), (_, true), (_, false), (_, false), (_, false), (_, true)] _ _
  refine plan_uniG (by kernel_rfl) rfl ?_
  go_wp2
  refine HeldU.mk ?_
  refine plan_uniG (by kernel_rfl) rfl ?_
  go_wp2
  refine HeldU.mk ?_
  refine plan_uniG (by kernel_rfl) rfl ?_
  go_wp2
  refine HeldU.mk ?_
  refine plan_loadG 91 _ ⟨e, 1, none⟩ F rfl rfl rfl ldf ?_
  refine plan_uniG (by kernel_rfl) rfl ?_
  go_wp2
  refine HeldU.mk ?_
  refine plan_uniG (by kernel_rfl) rfl ?_
  go_wp2
  refine HeldU.mk ?_
  refine plan_uniG (by kernel_rfl) rfl ?_
  go_wp2
  refine HeldU.mk ?_
  refine plan_uniG (by kernel_rfl) rfl ?_
  go_wp2
  refine HeldU.mk ?_
  refine plan_loadG 91 _ ⟨e, 1, none⟩ F rfl rfl rfl ldf ?_
  refine plan_step ?_
  go_wp2_with (go_at_call 86; refine (textract_hash K κ _ F B (hM.keep hd1) [] (deriveF (hfK K κ) x (sb lblD) []) (.slice none 0 0) ud (by first | omega | simp) (by have := deriveF_le hok x (sb lblD) []; omega) (BS.nil _ _) (fd.bs0.keep (hdr)) (by simp)).mono ?_; rintro ee we ⟨ue, rfl, fe⟩)
  have hy0 := Chg.trans hd1 fe.2.1
  obtain ⟨ua, uc, eu⟩ := fe.bs0.form
  subst eu
  obtain ⟨-, -, -, -, fF, fst, cap, hF, -, -⟩ := id hM
  subst hF
  refine HeldN.mk hy0 ?_
  refine plan_step ?_
  go_wp2
  refine HeldN.mk hy0 ?_
  refine plan_step ?_
  go_wp2
  refine HeldN.mk (Chg.alloc hy0 _) ?_
  refine plan_assign _ rfl rfl ?_
  refine plan_nil (Held2.mk ?_)
  go_wp2
  go_ret
  exact ⟨_, rfl, ⟨extractF_le hok _ _, _, _, B, heap_alloc_new we _, fe.bs0.keep ((Chg.refl [] we).alloc _), hM.keep (Chg.alloc hy0 _)⟩, Chg.alloc hy0 _⟩
set_option maxRecDepth 100000 in
set_option maxHeartbeats 1000000 in
theorem sec_ZZEarlySecret (K : List UInt32) (κ : Kd) (w : World) (e : Nat) (x : Bs) (hs : SecAt K κ 93 w e x) :
    Calls Tryd.prog 62 #[.pointer (some ⟨e, 0, none⟩)] w fun en w' => ∃ v, en = .returned v ∧ BS [] w' v x ∧ Chg [] w w' := by
  obtain ⟨hxl, sv, F, B, hrow, hbs, hM⟩ := hs
  have c0 : w.cell? ⟨e, 0, none⟩ = some sv := blk_cell hrow 0
  go_enter Tryd.func62, Tryd.ntmps62
  go_wp2
  go_ret
  exact ⟨sv, rfl, hbs, Chg.refl _ _⟩
set_option maxRecDepth 100000 in
set_option maxHeartbeats 1000000 in
theorem sec_ZZHandshakeSecret (K : List UInt32) (κ : Kd) (w : World) (e : Nat) (x : Bs) (hs : SecAt K κ 95 w e x) :
    Calls Tryd.prog 63 #[.pointer (some ⟨e, 0, none⟩)] w fun en w' => ∃ v, en = .returned v ∧ BS [] w' v x ∧ Chg [] w w' := by
  obtain ⟨hxl, sv, F, B, hrow, hbs, hM⟩ := hs
  have c0 : w.cell? ⟨e, 0, none⟩ = some sv := blk_cell hrow 0
  go_enter Tryd.func63, Tryd.ntmps63
  go_wp2
  go_ret
  exact ⟨sv, rfl, hbs, Chg.refl _ _⟩
set_option maxRecDepth 100000 in
set_option maxHeartbeats 1000000 in
theorem sec_ZZMasterSecret (K : List UInt32) (κ : Kd) (w : World) (e : Nat) (x : Bs) (hs : SecAt K κ 97 w e x) :
    Calls Tryd.prog 64 #[.pointer (some ⟨e, 0, none⟩)] w fun en w' => ∃ v, en = .returned v ∧ BS [] w' v x ∧ Chg [] w w' := by
  obtain ⟨hxl, sv, F, B, hrow, hbs, hM⟩ := hs
  have c0 : w.cell? ⟨e, 0, none⟩ = some sv := blk_cell hrow 0
  go_enter Tryd.func64, Tryd.ntmps64
  go_wp2
  go_ret
  exact ⟨sv, rfl, hbs, Chg.refl _ _⟩
end Go.Proofs.YtknoomndofnnmaaDoor

namespace Go.Proofs.YtknoomndofnnmaaDoor
open Go Go.RowKit

set_option maxRecDepth 100000 in
set_option maxHeartbeats 1000000 in
theorem sec_Exporter (K : List UInt32) (κ : Kd) (w : World) (e : Nat) (x : Bs) (hs : SecAt K κ 100 w e x) (s : ByteArray) (hl : s.size ≤ 249) (cv : Value) (c : Bs) (hcl : c.length ≤ 65536) (hcv : BS [] w cv c) (n : Nat) (hn : n ≤ 255 * (hfK K κ).sz) :
    Calls Tryd.prog 61 #[.pointer (some ⟨e, 0, none⟩), .string s, cv, .int .i64 (n : Int)] w (Gives w (exportedF (hfK K κ) x (sb s) c n)) := by
  obtain ⟨hxl, sv, F, B, hrow, hbs, hM⟩ := hs
  have hok := hfK_ok K hM.1
  have hs32 := hok.sz32
  obtain ⟨hk1, hK, hB0, hBl, fF, fst, cap, hF, hcf, hcalls⟩ := id hM
  subst hF
  have HM := Lib.hid hM
  have HCF := Lib.hid hcf
  have HCL := Lib.hid hcalls
  have HN := Lib.hid hn
  clear hM hcf hcalls hn
  have ldf : ∀ W, Chg [] w W → (Instr.loadAt 91 (.pointer (some ⟨e, 1, none⟩))).run Tryd.prog W = .ok (.func (.func fF) fst cap) W := fun W h => ld_fn (blk_cell (h.row hrow (by simp)) 1)
  have lds : ∀ W, Chg [] w W → (Instr.loadAt 24 (.pointer (some ⟨e, 0, none⟩))).run Tryd.prog W = .ok sv W := fun W h => ld_slice (blk_cell (h.row hrow (by simp)) 0)
  have hd0 : Chg [] w w.drew := (Chg.refl [] w).drew
  go_enter Tryd.func61, Tryd.ntmps61
  go_upto_region 1 with fail
  refine region_held (fun w' => Chg [] w w') [(0, true), (1, true), (2, true), (3, true), (4, true), (5, true), (6, true), (7, true), (8, true), (9, false), (10, true)] (by kernel_rfl) (by kernel_rfl) hd0 ?_
  change wpPlan _ _ _ _ [(_, true), (_, true), (_, true), (_, true), (_, true), (_, true), (_, true), (_, true), (_, true), (_, false), (_, true)] _ _
  refine plan_uniG (by kernel_rfl) rfl ?_
  go_wp2
  refine HeldU.mk ?_
  refine plan_uniG (by kernel_rfl) rfl ?_
  go_wp2
  refine HeldU.mk ?_
  refine plan_uniG (by kernel_rfl) rfl ?_
  go_wp2
  refine HeldU.mk ?_
  refine plan_loadG 91 _ ⟨e, 1, none⟩ _ rfl rfl rfl ldf ?_
  refine plan_uniG (by kernel_rfl) rfl ?_
  go_wp2
  refine HeldU.mk ?_
  refine plan_uniG (by kernel_rfl) rfl ?_
  go_wp2
  refine HeldU.mk ?_
  refine plan_uniG (by kernel_rfl) rfl ?_
  go_wp2
  refine HeldU.mk ?_
  refine plan_loadG 24 _ ⟨e, 0, none⟩ sv rfl rfl rfl lds ?_
  refine plan_uniG (by kernel_rfl) rfl ?_
  go_wp2
  refine HeldU.mk ?_
  refine plan_step ?_
  go_wp2_with (go_at_call 84; refine (dsecret_hash K κ _ _ B (HM.out.keep hd0) x sv s .nilIface [] (by omega) hl (by first | omega | simp) (hbs.keep hd0) (.inl ⟨rfl, rfl⟩)).mono ?_; rintro ed wd ⟨ud, rfl, fd⟩)
  have hx0 := Chg.trans hd0 fd.2.1
  refine HeldN.mk hx0 ?_
  refine plan_assign _ rfl rfl ?_
  refine plan_nil (Held2.mk ?_)
  have hrd := hx0.row hrow (by simp)
  have c1 : wd.cell? ⟨e, 1, none⟩ = some (.func (.func fF) fst cap) := blk_cell hrd 1
  have hbd : ∀ b ∈ B, wd.heap[b]? = w.heap[b]? := fun b hb => hx0.block b (hBl b hb) (by simp)
  have hdl := deriveF_le hok x (sb s) []
  clear hrd
  go_upto_region 3 with (refine call_value (.tmp 24) rfl #[] rfl rfl HCF.out (HCL.out _ hbd) ?_; rintro h w2 ⟨p, q, rfl, hp, hq, hh, hcx⟩)
  have hcx0 := hx0.trans hcx
  have hK2 := hK.chg hcx0 (by simp)
  have hds := hx0.size
  have hwr := h_write K κ w2 p q [] hK2 hh (by simp) cv c hcl (hcv.to hcx0 (by simp) (by intro k hk; simp at hk; omega))
  have HW := Lib.hid hwr
  clear hwr
  go_upto_region 4 with (refine inv_write κ p (u := cv) rfl (.tmp 26) (.tmp 27) rfl rfl rfl HW.out ?_; rintro w3 ⟨hh3, hc3⟩)
  rw [List.nil_append] at hh3
  have hwd : Chg [] wd w3 := hcx.and hc3 (by simp; omega)
  have hw3 : Chg [] w w3 := hx0.trans hwd
  have hd1 := Chg.drew hw3
  have hK3 := hK.chg hd1 (by simp)
  have hh4 : HAt K κ w3.drew p q c := hh3.chg (Chg.refl [] w3).drew (by simp) (by simp)
  have hdr : Chg [] wd w3.drew := hwd.drew
  refine region_held (fun w' => Chg [] w w') [(0, true), (1, true), (2, true), (3, true), (4, true), (5, true), (7, true), (6, false), (8, false), (9, true)] (by kernel_rfl) (by kernel_rfl) hd1 ?_
  change wpPlan _ _ _ _ [(_, true), (_, true), (_, true), (_, true), (_, true), (_, true), (_, true), (_, false), (_, false), (_, true)] _ _
  refine plan_uniG (by kernel_rfl) rfl ?_
  go_wp2
  refine HeldU.mk ?_
  refine plan_uniG (by kernel_rfl) rfl ?_
  go_wp2
  refine HeldU.mk ?_
  refine plan_uniG (by kernel_rfl) rfl ?_
  go_wp2
  refine HeldU.mk ?_
  refine plan_loadG 91 _ ⟨e, 1, none⟩ _ rfl rfl rfl ldf ?_
  refine plan_uniG (by kernel_rfl) rfl ?_
  go_wp2
  refine HeldU.mk ?_
  refine plan_uniG (by kernel_rfl) rfl ?_
  go_wp2
  refine HeldU.mk ?_
  refine plan_uniG (by kernel_rfl) rfl ?_
  go_wp2
  refine HeldU.mk ?_
  refine plan_step ?_
  go_wp2_with (refine inv_sum κ p (u := .slice none 0 0) rfl (.tmp 34) (.const (.slice none 0 0)) rfl rfl rfl (h_sum K κ _ p q c hK3 hh4 (by omega) (.slice none 0 0) (Own.nil _) (by simp [Value.ownBlock])) ?_; rintro v2 w4 ⟨ho2, hc2, hf2⟩)
  have hc2' : Chg [] w3.drew w4 := hc2.mono (by simp [Value.ownBlock])
  have hy0 := Chg.trans hd1 hc2'
  refine HeldN.mk hy0 ?_
  refine plan_step ?_
  go_wp2_with (go_at_call 90; refine (xlabel_hash K κ _ _ B (HM.out.keep hy0) (deriveF (hfK K κ) x (sb s) []) ud lblX ((hfK K κ).sum c) v2 (by omega) lblX_size (by rw [hok.len]; omega) n HN.out (fd.bs0.keep (hdr.trans hc2')) (ho2.bs (by simp))).mono ?_; rintro ee w5 ⟨u, rfl, fu⟩)
  have hy1 := Chg.trans hy0 fu.2.1
  refine HeldN.mk hy1 ?_
  refine plan_assign _ rfl rfl ?_
  refine plan_nil (Held2.mk ?_)
  go_wp2
  go_ret
  exact ⟨_, rfl, fu.from hy0⟩
set_option maxRecDepth 100000 in
set_option maxHeartbeats 1000000 in
theorem nes1_digest (K : List UInt32) (B : List Nat) (w0 : World) (F : Value) (hM : Maker K none B w0 F mkP) (b : Nat) (W : World) (hb : W.heap[b]? = some (.cells #[F] 44 (0, 0))) (hB : ∀ i ∈ B, W.heap[i]? = w0.heap[i]?) :
    Calls Tryd.prog 103 #[.pointer (some ⟨b, 0, none⟩)] W fun e w' => ∃ y, e = .returned y ∧ FreshR K none (mkI none) W y w' := by
  obtain ⟨hk1, hK, hB0, hBl, fF, fst, cap, hF, hcf, hcalls⟩ := id hM
  subst hF
  have HC := Lib.hid (hcalls W hB)
  have HCF := Lib.hid hcf
  have c0 : W.cell? ⟨b, 0, none⟩ = some (.func (.func fF) fst cap) := blk_cell hb 0
  clear hM hcalls hcf
  go_enter Tryd.func103, Tryd.ntmps103
  go_wp2_with (refine call_value (.tmp 2) rfl #[] rfl rfl HCF.out HC.out ?_; rintro h w2 ⟨p, q, rfl, hp, hq, hh, hcx⟩)
  go_ret
  exact ⟨_, rfl, p, q, rfl, hp, hq, hh, hcx⟩
set_option maxRecDepth 100000 in
set_option maxHeartbeats 1000000 in
theorem nes_digest (K : List UInt32) (w : World) (F : Value) (B : List Nat) (hM : Maker K none B w F mkP) (psk : Bs) (pv : Value) (hp : psk.length ≤ 65536) (hpv : BS [] w pv psk) (hnil : pv = .slice none 0 0 ↔ psk = []) :
    Calls Tryd.prog 82 #[F, pv] w (GivesSec K none 93 w (extractF (hfK K none) (orZeros (hfK K none) psk) [])) := by
  have hok := hfK_ok K hM.1
  obtain ⟨hk1, hK, hB0, hBl, fF, fst, cap, hF, hcf, hcalls⟩ := id hM
  subst hF
  have hc0 : Chg [] w (w.alloc (.cells #[.func (.func fF) fst cap] 44)) := (Chg.refl [] w).alloc _
  have hcall := textract_digest K (w.alloc (.cells #[.func (.func fF) fst cap] 44)) (.func (.func fF) fst cap) B (hM.keep hc0) psk [] pv (.slice none 0 0) hp (by simp) (hpv.keep hc0) (BS.nil _ _) hnil
  have HC := Lib.hid hcall
  have HM := Lib.hid hM
  have HN := Lib.hid hnil
  clear hcall hM hcf hcalls hnil
  go_enter Tryd.func82, Tryd.ntmps82
  go_wp2_with (go_at_call 91; refine HC.out.mono ?_; rintro e w2 ⟨u, rfl, fu⟩; obtain ⟨ua, uc, eu⟩ := fu.bs0.form; subst eu)
  go_ret
  have hc2 := hc0.trans fu.2.1
  have hr2 : w2.heap[w.heap.size]? = some (.cells #[.func (.func fF) fst cap] 44 (0, 0)) := fu.2.1.row (heap_alloc_new w _) (by simp)
  refine ⟨_, rfl, ⟨extractF_le hok _ _, _, _, w.heap.size :: B, heap_alloc_new w2 _, fu.bs0.keep ((Chg.refl [] w2).alloc _), ?_⟩, hc2.alloc _⟩
  have hc3 := hc2.alloc (.cells #[.slice ua (extractF (hfK K none) (orZeros (hfK K none) psk) []).length uc, .func (.func 103) #[] #[.pointer (some ⟨w.heap.size, 0, none⟩)]] 93)
  have hs2 := hc0.size
  have hr3 := ((Chg.refl [] w2).alloc (.cells #[.slice ua (extractF (hfK K none) (orZeros (hfK K none) psk) []).length uc, .func (.func 103) #[] #[.pointer (some ⟨w.heap.size, 0, none⟩)]] 93)).row hr2 (by simp)
  refine ⟨hk1, hK.chg hc3 (by simp), by simp [hB0], fun b hb => ?_, _, _, _, rfl, fun vs W => by kernel_rfl, fun W hW => ?_⟩
  · rcases List.mem_cons.1 hb with rfl | hb
    · exact blk_lt hr3
    · exact Nat.lt_of_lt_of_le (hBl b hb) hc3.size
  · refine nes1_digest K B w _ HM.out w.heap.size W ((hW _ (by simp)).trans hr3) fun i hi => ?_
    rw [hW i (by simp [hi])]
    exact hc3.block i (hBl i hi) (by simp)
set_option maxRecDepth 100000 in
set_option maxHeartbeats 1000000 in
theorem nes1_own (K : List UInt32) (x : Nat × Nat) (B : List Nat) (w0 : World) (F : Value) (hM : Maker K (some x) B w0 F mkP) (b : Nat) (W : World) (hb : W.heap[b]? = some (.cells #[F] 51 (0, 0))) (hB : ∀ i ∈ B, W.heap[i]? = w0.heap[i]?) :
    Calls Tryd.prog 104 #[.pointer (some ⟨b, 0, none⟩)] W fun e w' => ∃ y, e = .returned y ∧ FreshR K (some x) (mkI (some x)) W y w' := by
  obtain ⟨hk1, hK, hB0, hBl, fF, fst, cap, hF, hcf, hcalls⟩ := id hM
  subst hF
  have HC := Lib.hid (hcalls W hB)
  have HCF := Lib.hid hcf
  have c0 : W.cell? ⟨b, 0, none⟩ = some (.func (.func fF) fst cap) := blk_cell hb 0
  clear hM hcalls hcf
  go_enter Tryd.func104, Tryd.ntmps104
  go_wp2_with (refine call_value (.tmp 2) rfl #[] rfl rfl HCF.out HC.out ?_; rintro h w2 ⟨p, q, rfl, hp, hq, hh, hcx⟩)
  go_ret
  exact ⟨_, rfl, p, q, rfl, hp, hq, hh, hcx⟩
set_option maxRecDepth 100000 in
set_option maxHeartbeats 1000000 in
theorem nes_own (K : List UInt32) (x : Nat × Nat) (w : World) (F : Value) (B : List Nat) (hM : Maker K (some x) B w F mkP) (psk : Bs) (pv : Value) (hp : psk.length ≤ 65536) (hpv : BS [] w pv psk) (hnil : pv = .slice none 0 0 ↔ psk = []) :
    Calls Tryd.prog 83 #[F, pv] w (GivesSec K (some x) 93 w (extractF (hfK K (some x)) (orZeros (hfK K (some x)) psk) [])) := by
  have hok := hfK_ok K hM.1
  obtain ⟨hk1, hK, hB0, hBl, fF, fst, cap, hF, hcf, hcalls⟩ := id hM
  subst hF
  have hc0 : Chg [] w (w.alloc (.cells #[.func (.func fF) fst cap] 51)) := (Chg.refl [] w).alloc _
  have hcall := textract_own K x (w.alloc (.cells #[.func (.func fF) fst cap] 51)) (.func (.func fF) fst cap) B (hM.keep hc0) psk [] pv (.slice none 0 0) hp (by simp) (hpv.keep hc0) (BS.nil _ _) hnil
  have HC := Lib.hid hcall
  have HM := Lib.hid hM
  have HN := Lib.hid hnil
  clear hcall hM hcf hcalls hnil
  go_enter Tryd.func83, Tryd.ntmps83
  go_wp2_with (go_at_call 92; refine HC.out.mono ?_; rintro e w2 ⟨u, rfl, fu⟩; obtain ⟨ua, uc, eu⟩ := fu.bs0.form; subst eu)
  go_ret
  have hc2 := hc0.trans fu.2.1
  have hr2 : w2.heap[w.heap.size]? = some (.cells #[.func (.func fF) fst cap] 51 (0, 0)) := fu.2.1.row (heap_alloc_new w _) (by simp)
  refine ⟨_, rfl, ⟨extractF_le hok _ _, _, _, w.heap.size :: B, heap_alloc_new w2 _, fu.bs0.keep ((Chg.refl [] w2).alloc _), ?_⟩, hc2.alloc _⟩
  have hc3 := hc2.alloc (.cells #[.slice ua (extractF (hfK K (some x)) (orZeros (hfK K (some x)) psk) []).length uc, .func (.func 104) #[] #[.pointer (some ⟨w.heap.size, 0, none⟩)]] 93)
  have hs2 := hc0.size
  have hr3 := ((Chg.refl [] w2).alloc (.cells #[.slice ua (extractF (hfK K (some x)) (orZeros (hfK K (some x)) psk) []).length uc, .func (.func 104) #[] #[.pointer (some ⟨w.heap.size, 0, none⟩)]] 93)).row hr2 (by simp)
  refine ⟨hk1, hK.chg hc3 (by simp), by simp [hB0], fun b hb => ?_, _, _, _, rfl, fun vs W => by kernel_rfl, fun W hW => ?_⟩
  · rcases List.mem_cons.1 hb with rfl | hb
    · exact blk_lt hr3
    · exact Nat.lt_of_lt_of_le (hBl b hb) hc3.size
  · refine nes1_own K x B w _ HM.out w.heap.size W ((hW _ (by simp)).trans hr3) fun i hi => ?_
    rw [hW i (by simp [hi])]
    exact hc3.block i (hBl i hi) (by simp)
end Go.Proofs.YtknoomndofnnmaaDoor
