/- TLS 1.3: HKDF-Expand-Label. -/
import Derived.Test.YtknoomndofnnmaaDoorYHkdf
import Derived.Test.YtknoomndofnnmaaDoorYBytes
namespace Go.Proofs.YtknoomndofnnmaaDoor
open Go Go.RowKit

theorem row2 (y : Nat) : #[Value.int .u8 ((y : Int) / (256 : Int) % (256 : Int)), .int .u8 ((y : Int) % (256 : Int))] = (brow [UInt8.ofNat (y / 256), UInt8.ofNat y]).toArray := by
  have h1 := byte_ofNat y 256
  have h2 : ((y : Int)) % (256 : Int) = ((UInt8.ofNat y).toNat : Int) := by rw [UInt8.toNat_ofNat']; omega
  rw [show ((256 : Nat) : Int) = 256 from rfl] at h1
  rw [h1, h2]
  rfl
set_option maxRecDepth 100000 in
theorem be_append16 (w : World) (v : Value) (xs : Bs) (hv : Own w v xs) (hb : xs.length ≤ 1000000) (y : Nat) :
    Calls Tryd.prog 95 #[v, .int .u16 (y : Int)] w fun e w' => ∃ v', e = .returned v' ∧ Own w' v' (xs ++ [UInt8.ofNat (y / 256), UInt8.ofNat y]) ∧ Chg v.ownBlock.toList w w' ∧ ∀ g, v'.ownBlock = some g → v.ownBlock = some g ∨ w.heap.size ≤ g := by
  go_enter Tryd.func95, Tryd.ntmps95
  go_wp2_with (at_builtin; refine append_bytes (v := v) (xs := xs) (ys := [UInt8.ofNat (y / 256), UInt8.ofNat y]) (u := .slice (some ⟨w.heap.size, 0, none⟩) 2 2) rfl _ _ rfl rfl (hv.chg ((Chg.refl [] w).alloc _) (by simp)) rfl (lit_src w [UInt8.ofNat (y / 256), UInt8.ofNat y] _ (row2 y) (by simp)) (by simp; omega) ?_; intro v' w1 hown1 hchg1 hsame1 _)
  go_ret
  exact ⟨_, rfl, hown1, ((Chg.refl _ w).alloc _).trans hchg1, fun g hg => (hsame1 g hg).imp id fun h => by simp at h; omega⟩
def tlsS : ByteArray := { data := #[116, 108, 115, 49, 51, 32] }
theorem src_str (w : World) (s : ByteArray) : Src Tryd.prog 1 9 (.string s) (sb s).length (brow (sb s)) w := strSrc w s
theorem sb_mk (xs : Bs) : sb ⟨xs.toArray⟩ = xs := by simp [sb]
theorem size_mk (xs : Bs) : (⟨xs.toArray⟩ : ByteArray).size = xs.length := by rw [← sb_length, sb_mk]
theorem labelInfo_eq (l c : Bs) (n : Nat) : ((((([] ++ [UInt8.ofNat (n / 256), UInt8.ofNat n]) ++ [UInt8.ofNat (6 + l.length)]) ++ tls13) ++ l) ++ [UInt8.ofNat c.length]) ++ c = labelInfo l c n := by
  simp [labelInfo]
set_option maxRecDepth 100000 in
set_option maxHeartbeats 2000000 in
theorem xlabel_digest (K : List UInt32) (w : World) (F : Value) (B : List Nat) (hM : Maker K none B w F mkP) (key : Bs) (kv : Value) (s : ByteArray) (cx : Bs) (cv : Value) (hk : key.length ≤ 65536) (hl : s.size ≤ 249) (hc : cx.length ≤ 255) (n : Nat) (hn : n ≤ 255 * (hfK K none).sz) (hkv : BS [] w kv key) (hcv : BS [] w cv cx) :
    Calls Tryd.prog 72 #[F, kv, .string s, cv, .int .i64 (n : Int)] w (Gives w (expandLabelF (hfK K none) key (sb s) cx n)) := by
  have hok := hfK_ok K hM.1
  have hs32 := hok.sz32
  have hn2 : n ≤ 8160 := by omega
  obtain ⟨ca, cc, hcf⟩ := hcv.form
  subst hcf
  have hmk := mk0_bytes (9 + s.size + 1 + cx.length) (by omega)
  push_cast at hmk
  have t1 : ¬ (255 : Int) < 6 + (s.size : Int) := by omega
  have t2 : ¬ (255 : Int) < (cx.length : Int) := by omega
  go_enter Tryd.func72, Tryd.ntmps72
  go_upto_region 4 with fail
  refine gen_wp (fun w' => Fr w [] w' (.slice (some ⟨w.heap.size, 0, none⟩) 0 (9 + s.size + 1 + cx.length))) ⟨own_mk0 w _ (by omega), (Chg.refl [] w).alloc _, fun g hg => by simp [Value.ownBlock] at hg; omega⟩ (fun w1 f1 => ?_)
  clear hmk t1 t2
  go_upto_region 5 with (go_at_call 95; refine (be_append16 w1 _ [] f1.1 (by simp) n).mono ?_; rintro e w2 ⟨v2, rfl, ho2, hc2, hf2⟩)
  have f2 : Fr w ([] ++ [UInt8.ofNat (n / 256), UInt8.ofNat n]) w2 v2 := f1.app (Chg.refl [] w1) ho2 hc2 hf2
  clear f1 ho2 hc2 hf2
  go_upto_region 6 with (at_builtin; refine append_bytes (v := v2) (xs := [] ++ [UInt8.ofNat (n / 256), UInt8.ofNat n]) (ys := [UInt8.ofNat (6 + s.size)]) (u := .slice (some ⟨w2.heap.size, 0, none⟩) 1 1) rfl _ _ rfl rfl (f2.1.chg ((Chg.refl [] w2).alloc _) (by simp)) rfl (one_src w2 (UInt8.ofNat (6 + s.size)) _ (by rw [UInt8.toNat_ofNat']; omega)) (by simp) ?_; intro v3 w3 ho3 hc3 hf3 _)
  have f3 := f2.app ((Chg.refl [] w2).alloc _) ho3 hc3 hf3
  clear f2 ho3 hc3 hf3
  obtain ⟨X3, hX3⟩ : ∃ X3, X3 = [] ++ [UInt8.ofNat (n / 256), UInt8.ofNat n] ++ [UInt8.ofNat (6 + s.size)] := ⟨_, rfl⟩
  have l3 : X3.length = 3 := by rw [hX3]; rfl
  rw [← hX3] at f3
  have H3 := Lib.hid hX3
  clear hX3
  go_upto_region 7 with (at_builtin; refine append_bytes (v := v3) (xs := X3) (ys := tls13) (u := .string tlsS) rfl _ _ rfl rfl f3.1 rfl (src_str w3 tlsS) (by rw [l3]; simp [tls13]) ?_; intro v4 w4 ho4 hc4 hf4 _)
  have f4 := f3.app (Chg.refl [] w3) ho4 hc4 hf4
  clear f3 ho4 hc4 hf4
  have hsl := sb_length s
  go_upto_region 8 with (at_builtin; refine append_bytes (v := v4) (xs := X3 ++ tls13) (ys := sb s) (u := .string s) rfl _ _ rfl rfl f4.1 rfl (src_str w4 s) (by rw [List.length_append, l3, hsl]; simp [tls13]; omega) ?_; intro v5 w5 ho5 hc5 hf5 _)
  have f5 := f4.app (Chg.refl [] w4) ho5 hc5 hf5
  clear f4 ho5 hc5 hf5
  obtain ⟨X5, hX5⟩ : ∃ X5, X5 = X3 ++ tls13 ++ sb s := ⟨_, rfl⟩
  have l5 : X5.length ≤ 260 := by rw [hX5, List.length_append, List.length_append, l3, hsl]; simp [tls13]; omega
  rw [← hX5] at f5
  have H5 := Lib.hid hX5
  clear hX5 l3
  go_upto_region 9 with (at_builtin; refine append_bytes (v := v5) (xs := X5) (ys := [UInt8.ofNat cx.length]) (u := .slice (some ⟨w5.heap.size, 0, none⟩) 1 1) rfl _ _ rfl rfl (f5.1.chg ((Chg.refl [] w5).alloc _) (by simp)) rfl (one_src w5 (UInt8.ofNat cx.length) _ (by rw [UInt8.toNat_ofNat']; omega)) (by simp; omega) ?_; intro v6 w6 ho6 hc6 hf6 _)
  have f6 := f5.app ((Chg.refl [] w5).alloc _) ho6 hc6 hf6
  clear f5 ho6 hc6 hf6
  have hcv6 := hcv.keep f6.2.1
  go_upto_region 10 with (at_builtin; refine append_bytes (v := v6) (xs := X5 ++ [UInt8.ofNat cx.length]) (ys := cx) (u := .slice ca cx.length cc) rfl _ _ rfl rfl f6.1 rfl hcv6.src (by rw [List.length_append]; simp; omega) ?_; intro v7 w7 ho7 hc7 hf7 _)
  have f7 := f6.app (Chg.refl [] w6) ho7 hc7 hf7
  clear f6 ho7 hc7 hf7 hcv6
  have hinfo : X5 ++ [UInt8.ofNat cx.length] ++ cx = labelInfo (sb s) cx n := by rw [H5.out, H3.out, ← hsl, labelInfo_eq]
  rw [hinfo] at f7
  have hil : (labelInfo (sb s) cx n).length ≤ 600 := by rw [← hinfo, List.length_append, List.length_append]; simp; omega
  have hstr := f7.bs0.str
  have hcall := hexpand_digest K w7 F B (hM.keep f7.2.1) key kv ⟨(labelInfo (sb s) cx n).toArray⟩ hk (by rw [size_mk]; omega) n hn (hkv.keep f7.2.1)
  rw [sb_mk] at hcall
  have HC := Lib.hid hcall
  clear hcall hinfo hil l5 hsl
  go_wp2_with (go_at_call 96; refine HC.out.mono ?_; rintro e w8 ⟨u, rfl, f8⟩)
  go_ret
  exact ⟨_, rfl, f8.from f7.2.1⟩
set_option maxRecDepth 100000 in
set_option maxHeartbeats 2000000 in
theorem xlabel_own (K : List UInt32) (x : Nat × Nat) (w : World) (F : Value) (B : List Nat) (hM : Maker K (some x) B w F mkP) (key : Bs) (kv : Value) (s : ByteArray) (cx : Bs) (cv : Value) (hk : key.length ≤ 65536) (hl : s.size ≤ 249) (hc : cx.length ≤ 255) (n : Nat) (hn : n ≤ 255 * (hfK K (some x)).sz) (hkv : BS [] w kv key) (hcv : BS [] w cv cx) :
    Calls Tryd.prog 73 #[F, kv, .string s, cv, .int .i64 (n : Int)] w (Gives w (expandLabelF (hfK K (some x)) key (sb s) cx n)) := by
  have hok := hfK_ok K hM.1
  have hs32 := hok.sz32
  have hn2 : n ≤ 8160 := by omega
  obtain ⟨ca, cc, hcf⟩ := hcv.form
  subst hcf
  have hmk := mk0_bytes (9 + s.size + 1 + cx.length) (by omega)
  push_cast at hmk
  have t1 : ¬ (255 : Int) < 6 + (s.size : Int) := by omega
  have t2 : ¬ (255 : Int) < (cx.length : Int) := by omega
  go_enter Tryd.func73, Tryd.ntmps73
  go_upto_region 4 with fail
  refine gen_wp (fun w' => Fr w [] w' (.slice (some ⟨w.heap.size, 0, none⟩) 0 (9 + s.size + 1 + cx.length))) ⟨own_mk0 w _ (by omega), (Chg.refl [] w).alloc _, fun g hg => by simp [Value.ownBlock] at hg; omega⟩ (fun w1 f1 => ?_)
  clear hmk t1 t2
  go_upto_region 5 with (go_at_call 95; refine (be_append16 w1 _ [] f1.1 (by simp) n).mono ?_; rintro e w2 ⟨v2, rfl, ho2, hc2, hf2⟩)
  have f2 : Fr w ([] ++ [UInt8.ofNat (n / 256), UInt8.ofNat n]) w2 v2 := f1.app (Chg.refl [] w1) ho2 hc2 hf2
  clear f1 ho2 hc2 hf2
  go_upto_region 6 with (at_builtin; refine append_bytes (v := v2) (xs := [] ++ [UInt8.ofNat (n / 256), UInt8.ofNat n]) (ys := [UInt8.ofNat (6 + s.size)]) (u := .slice (some ⟨w2.heap.size, 0, none⟩) 1 1) rfl _ _ rfl rfl (f2.1.chg ((Chg.refl [] w2).alloc _) (by simp)) rfl (one_src w2 (UInt8.ofNat (6 + s.size)) _ (by rw [UInt8.toNat_ofNat']; omega)) (by simp) ?_; intro v3 w3 ho3 hc3 hf3 _)
  have f3 := f2.app ((Chg.refl [] w2).alloc _) ho3 hc3 hf3
  clear f2 ho3 hc3 hf3
  obtain ⟨X3, hX3⟩ : ∃ X3, X3 = [] ++ [UInt8.ofNat (n / 256), UInt8.ofNat n] ++ [UInt8.ofNat (6 + s.size)] := ⟨_, rfl⟩
  have l3 : X3.length = 3 := by rw [hX3]; rfl
  rw [← hX3] at f3
  have H3 := Lib.hid hX3
  clear hX3
  go_upto_region 7 with (at_builtin; refine append_bytes (v := v3) (xs := X3) (ys := tls13) (u := .string tlsS) rfl _ _ rfl rfl f3.1 rfl (src_str w3 tlsS) (by rw [l3]; simp [tls13]) ?_; intro v4 w4 ho4 hc4 hf4 _)
  have f4 := f3.app (Chg.refl [] w3) ho4 hc4 hf4
  clear f3 ho4 hc4 hf4
  have hsl := sb_length s
  go_upto_region 8 with (at_builtin; refine append_bytes (v := v4) (xs := X3 ++ tls13) (ys := sb s) (u := .string s) rfl _ _ rfl rfl f4.1 rfl (src_str w4 s) (by rw [List.length_append, l3, hsl]; simp [tls13]; omega) ?_; intro v5 w5 ho5 hc5 hf5 _)
  have f5 := f4.app (Chg.refl [] w4) ho5 hc5 hf5
  clear f4 ho5 hc5 hf5
  obtain ⟨X5, hX5⟩ : ∃ X5, X5 = X3 ++ tls13 ++ sb s := ⟨_, rfl⟩
  have l5 : X5.length ≤ 260 := by rw [hX5, List.length_append, List.length_append, l3, hsl]; simp [tls13]; omega
  rw [← hX5] at f5
  have H5 := Lib.hid hX5
  clear hX5 l3
  go_upto_region 9 with (at_builtin; refine append_bytes (v := v5) (xs := X5) (ys := [UInt8.ofNat cx.length]) (u := .slice (some ⟨w5.heap.size, 0, none⟩) 1 1) rfl _ _ rfl rfl (f5.1.chg ((Chg.refl [] w5).alloc _) (by simp)) rfl (one_src w5 (UInt8.ofNat cx.length) _ (by rw [UInt8.toNat_ofNat']; omega)) (by simp; omega) ?_; intro v6 w6 ho6 hc6 hf6 _)
  have f6 := f5.app ((Chg.refl [] w5).alloc _) ho6 hc6 hf6
  clear f5 ho6 hc6 hf6
  have hcv6 := hcv.keep f6.2.1
  go_upto_region 10 with (at_builtin; refine append_bytes (v := v6) (xs := X5 ++ [UInt8.ofNat cx.length]) (ys := cx) (u := .slice ca cx.length cc) rfl _ _ rfl rfl f6.1 rfl hcv6.src (by rw [List.length_append]; simp; omega) ?_; intro v7 w7 ho7 hc7 hf7 _)
  have f7 := f6.app (Chg.refl [] w6) ho7 hc7 hf7
  clear f6 ho7 hc7 hf7 hcv6
  have hinfo : X5 ++ [UInt8.ofNat cx.length] ++ cx = labelInfo (sb s) cx n := by rw [H5.out, H3.out, ← hsl, labelInfo_eq]
  rw [hinfo] at f7
  have hil : (labelInfo (sb s) cx n).length ≤ 600 := by rw [← hinfo, List.length_append, List.length_append]; simp; omega
  have hstr := f7.bs0.str
  have hcall := hexpand_own K x w7 F B (hM.keep f7.2.1) key kv ⟨(labelInfo (sb s) cx n).toArray⟩ hk (by rw [size_mk]; omega) n hn (hkv.keep f7.2.1)
  rw [sb_mk] at hcall
  have HC := Lib.hid hcall
  clear hcall hinfo hil l5 hsl
  go_wp2_with (go_at_call 97; refine HC.out.mono ?_; rintro e w8 ⟨u, rfl, f8⟩)
  go_ret
  exact ⟨_, rfl, f8.from f7.2.1⟩
set_option maxRecDepth 100000 in
set_option maxHeartbeats 2000000 in
theorem xlabel_hash (K : List UInt32) (κ : Kd) (w : World) (F : Value) (B : List Nat) (hM : Maker K κ B w F (mkI κ)) (key : Bs) (kv : Value) (s : ByteArray) (cx : Bs) (cv : Value) (hk : key.length ≤ 65536) (hl : s.size ≤ 249) (hc : cx.length ≤ 255) (n : Nat) (hn : n ≤ 255 * (hfK K κ).sz) (hkv : BS [] w kv key) (hcv : BS [] w cv cx) :
    Calls Tryd.prog 90 #[F, kv, .string s, cv, .int .i64 (n : Int)] w (Gives w (expandLabelF (hfK K κ) key (sb s) cx n)) := by
  have hok := hfK_ok K hM.1
  have hs32 := hok.sz32
  have hn2 : n ≤ 8160 := by omega
  obtain ⟨ca, cc, hcf⟩ := hcv.form
  subst hcf
  have hmk := mk0_bytes (9 + s.size + 1 + cx.length) (by omega)
  push_cast at hmk
  have t1 : ¬ (255 : Int) < 6 + (s.size : Int) := by omega
  have t2 : ¬ (255 : Int) < (cx.length : Int) := by omega
  go_enter Tryd.func90, Tryd.ntmps90
  go_upto_region 4 with fail
  refine gen_wp (fun w' => Fr w [] w' (.slice (some ⟨w.heap.size, 0, none⟩) 0 (9 + s.size + 1 + cx.length))) ⟨own_mk0 w _ (by omega), (Chg.refl [] w).alloc _, fun g hg => by simp [Value.ownBlock] at hg; omega⟩ (fun w1 f1 => ?_)
  clear hmk t1 t2
  go_upto_region 5 with (go_at_call 95; refine (be_append16 w1 _ [] f1.1 (by simp) n).mono ?_; rintro e w2 ⟨v2, rfl, ho2, hc2, hf2⟩)
  have f2 : Fr w ([] ++ [UInt8.ofNat (n / 256), UInt8.ofNat n]) w2 v2 := f1.app (Chg.refl [] w1) ho2 hc2 hf2
  clear f1 ho2 hc2 hf2
  go_upto_region 6 with (at_builtin; refine append_bytes (v := v2) (xs := [] ++ [UInt8.ofNat (n / 256), UInt8.ofNat n]) (ys := [UInt8.ofNat (6 + s.size)]) (u := .slice (some ⟨w2.heap.size, 0, none⟩) 1 1) rfl _ _ rfl rfl (f2.1.chg ((Chg.refl [] w2).alloc _) (by simp)) rfl (one_src w2 (UInt8.ofNat (6 + s.size)) _ (by rw [UInt8.toNat_ofNat']; omega)) (by simp) ?_; intro v3 w3 ho3 hc3 hf3 _)
  have f3 := f2.app ((Chg.refl [] w2).alloc _) ho3 hc3 hf3
  clear f2 ho3 hc3 hf3
  obtain ⟨X3, hX3⟩ : ∃ X3, X3 = [] ++ [UInt8.ofNat (n / 256), UInt8.ofNat n] ++ [UInt8.ofNat (6 + s.size)] := ⟨_, rfl⟩
  have l3 : X3.length = 3 := by rw [hX3]; rfl
  rw [← hX3] at f3
  have H3 := Lib.hid hX3
  clear hX3
  go_upto_region 7 with (at_builtin; refine append_bytes (v := v3) (xs := X3) (ys := tls13) (u := .string tlsS) rfl _ _ rfl rfl f3.1 rfl (src_str w3 tlsS) (by rw [l3]; simp [tls13]) ?_; intro v4 w4 ho4 hc4 hf4 _)
  have f4 := f3.app (Chg.refl [] w3) ho4 hc4 hf4
  clear f3 ho4 hc4 hf4
  have hsl := sb_length s
  go_upto_region 8 with (at_builtin; refine append_bytes (v := v4) (xs := X3 ++ tls13) (ys := sb s) (u := .string s) rfl _ _ rfl rfl f4.1 rfl (src_str w4 s) (by rw [List.length_append, l3, hsl]; simp [tls13]; omega) ?_; intro v5 w5 ho5 hc5 hf5 _)
  have f5 := f4.app (Chg.refl [] w4) ho5 hc5 hf5
  clear f4 ho5 hc5 hf5
  obtain ⟨X5, hX5⟩ : ∃ X5, X5 = X3 ++ tls13 ++ sb s := ⟨_, rfl⟩
  have l5 : X5.length ≤ 260 := by rw [hX5, List.length_append, List.length_append, l3, hsl]; simp [tls13]; omega
  rw [← hX5] at f5
  have H5 := Lib.hid hX5
  clear hX5 l3
  go_upto_region 9 with (at_builtin; refine append_bytes (v := v5) (xs := X5) (ys := [UInt8.ofNat cx.length]) (u := .slice (some ⟨w5.heap.size, 0, none⟩) 1 1) rfl _ _ rfl rfl (f5.1.chg ((Chg.refl [] w5).alloc _) (by simp)) rfl (one_src w5 (UInt8.ofNat cx.length) _ (by rw [UInt8.toNat_ofNat']; omega)) (by simp; omega) ?_; intro v6 w6 ho6 hc6 hf6 _)
  have f6 := f5.app ((Chg.refl [] w5).alloc _) ho6 hc6 hf6
  clear f5 ho6 hc6 hf6
  have hcv6 := hcv.keep f6.2.1
  go_upto_region 10 with (at_builtin; refine append_bytes (v := v6) (xs := X5 ++ [UInt8.ofNat cx.length]) (ys := cx) (u := .slice ca cx.length cc) rfl _ _ rfl rfl f6.1 rfl hcv6.src (by rw [List.length_append]; simp; omega) ?_; intro v7 w7 ho7 hc7 hf7 _)
  have f7 := f6.app (Chg.refl [] w6) ho7 hc7 hf7
  clear f6 ho7 hc7 hf7 hcv6
  have hinfo : X5 ++ [UInt8.ofNat cx.length] ++ cx = labelInfo (sb s) cx n := by rw [H5.out, H3.out, ← hsl, labelInfo_eq]
  rw [hinfo] at f7
  have hil : (labelInfo (sb s) cx n).length ≤ 600 := by rw [← hinfo, List.length_append, List.length_append]; simp; omega
  have hstr := f7.bs0.str
  have hcall := hexpand_hash K κ w7 F B (hM.keep f7.2.1) key kv ⟨(labelInfo (sb s) cx n).toArray⟩ hk (by rw [size_mk]; omega) n hn (hkv.keep f7.2.1)
  rw [sb_mk] at hcall
  have HC := Lib.hid hcall
  clear hcall hinfo hil l5 hsl
  go_wp2_with (go_at_call 107; refine HC.out.mono ?_; rintro e w8 ⟨u, rfl, f8⟩)
  go_ret
  exact ⟨_, rfl, f8.from f7.2.1⟩
end Go.Proofs.YtknoomndofnnmaaDoor
