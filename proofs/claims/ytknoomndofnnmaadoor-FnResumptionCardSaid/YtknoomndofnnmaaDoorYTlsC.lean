/- TLS 1.3: the doors; the thin package's hash that has taken messages in. -/
import Derived.Test.YtknoomndofnnmaaDoorYTlsB
import Derived.Test.YtknoomndofnnmaaDoorYMakers
namespace Go.Proofs.YtknoomndofnnmaaDoor
open Go Go.RowKit

set_option maxRecDepth 100000 in
theorem zzderive_digest (K : List UInt32) (w : World) (F : Value) (B : List Nat) (hM : Maker K none B w F mkP) (key : Bs) (kv : Value) (s : ByteArray) (tv : Value) (msgs : Bs) (hk : key.length ≤ 65536) (hl : s.size ≤ 249) (hml : msgs.length ≤ 500000) (hkv : BS [] w kv key)
    (hT : (tv = .nilIface ∧ msgs = []) ∨ ∃ p q, tv = .iface (kTy none) (.pointer (some ⟨p, 0, none⟩)) ∧ HAt K none w p q msgs) :
    Calls Tryd.prog 67 #[F, kv, .string s, tv] w (Gives w (deriveF (hfK K none) key (sb s) msgs)) := by
  have hcall := dsecret_digest K w F B hM key kv s tv msgs hk hl hml hkv hT
  have HC := Lib.hid hcall
  clear hcall hT
  go_enter Tryd.func67, Tryd.ntmps67
  go_wp2_with (go_at_call 93; refine HC.out.mono ?_; rintro e w2 ⟨u, rfl, f⟩)
  go_ret
  exact ⟨_, rfl, f⟩
set_option maxRecDepth 100000 in
theorem zzextract_digest (K : List UInt32) (w : World) (F : Value) (B : List Nat) (hM : Maker K none B w F mkP) (secret salt : Bs) (sv tv : Value) (hs : secret.length ≤ 65536) (ht : salt.length ≤ 65536) (hsv : BS [] w sv secret) (htv : BS [] w tv salt) (hnil : sv = .slice none 0 0 ↔ secret = []) :
    Calls Tryd.prog 65 #[F, sv, tv] w (Gives w (extractF (hfK K none) (orZeros (hfK K none) secret) salt)) := by
  have hcall := textract_digest K w F B hM secret salt sv tv hs ht hsv htv hnil
  have HC := Lib.hid hcall
  clear hcall hnil
  go_enter Tryd.func65, Tryd.ntmps65
  go_wp2_with (go_at_call 91; refine HC.out.mono ?_; rintro e w2 ⟨u, rfl, f⟩)
  go_ret
  exact ⟨_, rfl, f⟩
set_option maxRecDepth 100000 in
theorem zzderive_own (K : List UInt32) (x : Nat × Nat) (w : World) (F : Value) (B : List Nat) (hM : Maker K (some x) B w F mkP) (key : Bs) (kv : Value) (s : ByteArray) (tv : Value) (msgs : Bs) (hk : key.length ≤ 65536) (hl : s.size ≤ 249) (hml : msgs.length ≤ 500000) (hkv : BS [] w kv key)
    (hT : (tv = .nilIface ∧ msgs = []) ∨ ∃ p q, tv = .iface (kTy (some x)) (.pointer (some ⟨p, 0, none⟩)) ∧ HAt K (some x) w p q msgs) :
    Calls Tryd.prog 68 #[F, kv, .string s, tv] w (Gives w (deriveF (hfK K (some x)) key (sb s) msgs)) := by
  have hcall := dsecret_own K x w F B hM key kv s tv msgs hk hl hml hkv hT
  have HC := Lib.hid hcall
  clear hcall hT
  go_enter Tryd.func68, Tryd.ntmps68
  go_wp2_with (go_at_call 94; refine HC.out.mono ?_; rintro e w2 ⟨u, rfl, f⟩)
  go_ret
  exact ⟨_, rfl, f⟩
set_option maxRecDepth 100000 in
theorem zzextract_own (K : List UInt32) (x : Nat × Nat) (w : World) (F : Value) (B : List Nat) (hM : Maker K (some x) B w F mkP) (secret salt : Bs) (sv tv : Value) (hs : secret.length ≤ 65536) (ht : salt.length ≤ 65536) (hsv : BS [] w sv secret) (htv : BS [] w tv salt) (hnil : sv = .slice none 0 0 ↔ secret = []) :
    Calls Tryd.prog 66 #[F, sv, tv] w (Gives w (extractF (hfK K (some x)) (orZeros (hfK K (some x)) secret) salt)) := by
  have hcall := textract_own K x w F B hM secret salt sv tv hs ht hsv htv hnil
  have HC := Lib.hid hcall
  clear hcall hnil
  go_enter Tryd.func66, Tryd.ntmps66
  go_wp2_with (go_at_call 92; refine HC.out.mono ?_; rintro e w2 ⟨u, rfl, f⟩)
  go_ret
  exact ⟨_, rfl, f⟩
/-- The call ends with a hash that has taken messages in. -/
def GivesH (K : List UInt32) (κ : Kd) (w : World) (d : Bs) (e : Ending) (w' : World) : Prop := ∃ p q, e = .returned (.iface (kTy κ) (.pointer (some ⟨p, 0, none⟩))) ∧ HAt K κ w' p q d ∧ Chg [] w w'
set_option maxRecDepth 100000 in
set_option maxHeartbeats 1000000 in
theorem impl_said (K : List UInt32) (w : World) (hK : KAt K w) (kd sz bk : Int) (v : Value) (d : Bs) (hd : d.length ≤ 20000) (hv : BS [] w v d) :
    Calls Tryd.prog 53 #[hV kd sz bk, v] w (GivesH K (kdOf kd sz bk) w d) := by
  have hp : 0 < w.heap.size := blk_lt hK.2
  have hc0 : Chg [] w (w.alloc (hObj kd sz bk)) := (Chg.refl [] w).alloc _
  by_cases hk : kd = 1
  · have e : kdOf kd sz bk = none := if_pos hk
    rw [e]
    subst hk
    go_enter Tryd.func53, Tryd.ntmps53
    go_upto_region 3 with (go_at_call 42; refine (dig_new K _ (by simp)).mono ?_; rintro e w1 ⟨p, rfl, hp1, hd1, hc1⟩)
    have hw1 : Chg [] w w1 := hc0.trans hc1
    have hpw : w.heap.size < p := by simp at hp1; omega
    have hv1 := hv.keep hw1
    have hK1 := hK.chg hw1 (by simp)
    have hpl : p < w1.heap.size := by obtain ⟨_, _, _, _, _, _, h⟩ := hd1.raw; exact blk_lt h
    clear hc0 hc1 hp1
    go_wp2_with (first | (go_at_call 44; refine (impl_copied _ v d (by omega) hv1).mono ?_; rintro e w2 ⟨x, rfl, hx, hxn⟩) | (go_at_call 43; refine (dig_write K _ p [] (hK1.chg hx.2.1 (by simp)) (hd1.chg hx.2.1 (by simp)) (by simp) x d (by omega) (hx.bs (by simp; exact hpl))).mono ?_; rintro e w3 ⟨rfl, hd3, hc3⟩))
    go_ret
    rw [List.nil_append] at hd3
    exact ⟨p, p, rfl, ⟨by omega, by omega, rfl, hd3⟩, (hw1.trans hx.2.1).and hc3 (by simp; omega)⟩
  · have e : kdOf kd sz bk = some (ownSz sz bk, ownBk sz bk) := if_neg hk
    rw [e]
    go_enter Tryd.func53, Tryd.ntmps53
    go_upto_region 6 with (go_at_call 46; refine (own_fresh _ kd sz bk).mono ?_; rintro e w1 ⟨o, s, rfl, ho1, hs1, hd1, hc1⟩)
    have hw1 : Chg [] w w1 := hc0.trans hc1
    have how : w.heap.size < o := by simp at ho1; omega
    have hsw : w.heap.size < s := by simp at hs1; omega
    have hv1 := hv.keep hw1
    have hol : o < w1.heap.size := blk_lt hd1.2.2.2.2.1
    have hsl : s < w1.heap.size := blk_lt hd1.2.2.2.2.2
    obtain ⟨n, hn⟩ : ∃ n, n = ownSz sz bk := ⟨_, rfl⟩
    obtain ⟨k, hkk⟩ : ∃ k, k = ownBk sz bk := ⟨_, rfl⟩
    rw [← hn, ← hkk] at hd1
    have Hn := Lib.hid hn
    have Hk := Lib.hid hkk
    clear hn hkk hc0 hc1 ho1 hs1 e
    go_wp2_with (first | (go_at_call 44; refine (impl_copied _ v d (by omega) hv1).mono ?_; rintro e w2 ⟨x, rfl, hx, hxn⟩) | (go_at_call 47; refine (own_write _ o s n k [] (by simp) (OwnAt.chg hd1 hx.2.1 (by simp) (by simp)) x d (by omega) (hx.bs (by simp; exact ⟨hol, hsl⟩))).mono ?_; rintro e w3 ⟨rfl, hd3, hc3⟩))
    go_ret
    rw [List.nil_append] at hd3
    rw [Hn.out, Hk.out] at hd3
    exact ⟨o, s, rfl, ⟨by omega, by omega, hd3⟩, (hw1.trans hx.2.1).and hc3 (by simp; omega)⟩
end Go.Proofs.YtknoomndofnnmaaDoor
