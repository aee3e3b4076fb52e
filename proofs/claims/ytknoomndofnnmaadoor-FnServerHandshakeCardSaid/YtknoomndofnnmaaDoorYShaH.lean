/- SHA-256: Digest.UnmarshalBinary. -/
import Derived.Test.YtknoomndofnnmaaDoorYShaG
import Derived.Test.YtknoomndofnnmaaDoorYBytes
namespace Go.Proofs.YtknoomndofnnmaaDoor
open Go Go.RowKit

theorem con32 (w : World) (b off len cap : Nat) (ys : Bs) (h4 : 4 ≤ len) (hl : len ≤ ys.length) (hcap : 4 < cap) (hc : ∀ j, j < ys.length → w.cell? ⟨b, off + j, none⟩ = some (.int .u8 ((gt ys j).toNat : Int))) (x : UInt32) (hx : ys.take 4 = be4 x) (o2 l2 c2 : Nat) (ho : off + 4 = o2) (hl2 : len - 4 = l2) (hc2 : cap - 4 = c2) :
    Calls Tryd.prog 147 #[.slice (some ⟨b, off, none⟩) len cap] w fun e w' => e = .returned (.tuple #[.slice (some ⟨b, o2, none⟩) l2 c2, .int .u32 (x.toNat : Int)]) ∧ ∃ n, w' = w.drewN n := by
  subst ho hl2 hc2
  have hg := fun n => get32 (w.drewN n) b off len cap ys h4 hl (fun j hj => hc j hj) x hx
  have HG := Lib.hid hg
  have hne : ¬ cap = 4 := by omega
  clear hg hc hx
  go_enter Tryd.func147, Tryd.ntmps147
  go_wp2
  go_quiet ((go_at_call 151; exact Calls.quiet_of (HG.out _)))
  go_wp2
  go_ret2
  exact ⟨rfl, _, rfl⟩
theorem con64 (w : World) (b off len cap : Nat) (ys : Bs) (h4 : 8 ≤ len) (hl : len ≤ ys.length) (hc : ∀ j, j < ys.length → w.cell? ⟨b, off + j, none⟩ = some (.int .u8 ((gt ys j).toNat : Int))) (x : Nat) (hx64 : x ≤ 1000000) (hx : ys.take 8 = be64 x) :
    Calls Tryd.prog 148 #[.slice (some ⟨b, off, none⟩) len cap] w fun e w' => e = .returned (.tuple #[.slice (cutO (some ⟨b, off, none⟩) cap 8) (len - 8) (cap - 8), .int .u64 (x : Int)]) ∧ ∃ n, w' = w.drewN n := by
  have hg := fun n => get64 (w.drewN n) b off len cap ys h4 hl (fun j hj => hc j hj) x hx64 hx
  have HG := Lib.hid hg
  have hcut : ∀ W, (Instr.slice 24 (.slice (some ⟨b, off, none⟩) len cap) (some (.int .i64 8)) none none).run Tryd.prog W = .ok (.slice (cutO (some ⟨b, off, none⟩) cap 8) (len - 8) (cap - 8)) W := fun W => run_cut (some ⟨b, off, none⟩) len cap 8 h4 W
  clear hg hc hx
  go_enter Tryd.func148, Tryd.ntmps148
  go_wp2
  go_quiet ((go_at_call 152; exact Calls.quiet_of (HG.out _)))
  go_wp2
  go_ret2
  exact ⟨rfl, _, rfl⟩

theorem marsh_length (s : S8) (n : Nat) : (marsh s n).length = 108 := by simp [marsh, magic, be4, be64_length, z64_length]
theorem dig_words_at (s : S8) (n : Nat) : (marsh s n).take 4 = magic ∧ ((marsh s n).drop 4).take 4 = be4 s.a ∧ ((marsh s n).drop 8).take 4 = be4 s.b ∧ ((marsh s n).drop 12).take 4 = be4 s.c ∧ ((marsh s n).drop 16).take 4 = be4 s.d ∧ ((marsh s n).drop 20).take 4 = be4 s.e ∧
    ((marsh s n).drop 24).take 4 = be4 s.f ∧ ((marsh s n).drop 28).take 4 = be4 s.g ∧ ((marsh s n).drop 32).take 4 = be4 s.h ∧ ((marsh s n).drop 36).take 64 = z64 ∧ ((marsh s n).drop 100).take 8 = be64 n := by
  refine ⟨rfl, rfl, rfl, rfl, rfl, rfl, rfl, rfl, rfl, ?_, ?_⟩
  · have e : (marsh s n).drop 36 = z64 ++ be64 n := rfl
    rw [e, ← z64_length]
    exact List.take_left
  · have e : (marsh s n).drop 100 = be64 n := rfl
    rw [e, List.take_of_length_le (by rw [be64_length]; exact Nat.le_refl _)]

set_option maxRecDepth 100000 in
set_option maxHeartbeats 8000000 in
theorem dig_unmarshal (K : List UInt32) (w : World) (d : Nat) (data : Bs) (hr : DigRaw w d) (h64 : data.length % 64 = 0) (hdl : data.length ≤ 500000) (v : Value) (hv : BS [d] w v (marsh (shaAll K shaInit data) data.length)) :
    Calls Tryd.prog 144 #[.pointer (some ⟨d, 0, none⟩), v] w fun e w' => e = .returned .nilIface ∧ DigAt K w' d data ∧ Chg [d] w w' := by
  obtain ⟨h0, t0, X, nx, ln, hX, hd⟩ := hr
  obtain ⟨s, hs⟩ : ∃ s, s = shaAll K shaInit data := ⟨_, rfl⟩
  obtain ⟨n, hn⟩ : ∃ n, n = data.length := ⟨_, rfl⟩
  rw [← hs, ← hn] at hv
  have hn' : n ≤ 500000 := by omega
  have hvv := id hv
  obtain ⟨a, c, rfl, hc1, hc2, hc3, hcell⟩ := hvv
  rcases hcell with hcell | ⟨b, off, rfl, hb, hcell⟩
  · have := marsh_length s n; rw [hcell] at this; simp at this
  rw [marsh_length] at hc1 hcell
  have hm4 := hv.head 4 (by rw [marsh_length]; omega)
  obtain ⟨q0, q1, q2, q3, q4, q5, q6, q7, q8, q9, q10⟩ := dig_words_at s n
  rw [q0] at hm4
  have hconv := hm4.str
  have hml : (marsh s n).length = 108 := marsh_length s n
  rw [hml]
  have c74 := (blk_cell hd 74).trans (dc_224 _ X _ _ hX)
  have key : ∀ (W : World) (m : Nat), Chg [d] w W → m ≤ 108 → ∀ j, j < ((marsh s n).drop m).length → W.cell? ⟨b, off + m + j, none⟩ = some (.int .u8 ((gt ((marsh s n).drop m) j).toNat : Int)) := by
    intro W m hc hm j hj
    rw [List.length_drop, hml] at hj
    rw [gt_drop, Nat.add_assoc]
    exact hc.cell (hcell (m + j) (by omega)) hb
  have KEY := Lib.hid key
  have Q := Lib.hid (And.intro q1 (And.intro q2 (And.intro q3 (And.intro q4 (And.intro q5 (And.intro q6 (And.intro q7 (And.intro q8 (And.intro q9 q10)))))))))
  have HX := Lib.hid hX
  have HV := Lib.hid hv
  have HML := Lib.hid hml
  have H64 := Lib.hid h64
  have HS := Lib.hid hs
  have HN := Lib.hid hn
  clear hm4 q0 hc3 hcell hv q1 q2 q3 q4 q5 q6 q7 q8 q9 q10 hs hn hml hX key h64 hdl
  go_enter Tryd.func144, Tryd.ntmps144
  go_upto_region 6 with fail
  clear hconv c74
  refine gen_wp (fun w' => w'.heap[d]? = some (.cells (dcells t0 X nx ln).toArray 79 (0, 0)) ∧ Chg [d] w w') ⟨hd, Chg.refl _ _⟩ (fun w0 h0' => ?_)
  refine region_plan2 [0, 1, 7, 8, 2, 3, 4, 5, 6, 9, 10] (by kernel_rfl) (by kernel_rfl) ?_
  change wpList _ _ _ [_, _, _, _, _, _, _, _, _, _, _] _ _
  have fd : ∀ j, w0.frozen? ⟨d, j, none⟩ = false := fun j => blk_frozen h0'.1 j
  have cd : w0.cell? ⟨d, 0, none⟩ = some (.int .u32 (t0.a.toNat : Int)) := blk_cell h0'.1 0
  go_wp2_with (go_at_call 147; refine (con32 _ b (off + 4) 104 (c - 4) ((marsh s n).drop 4) (by omega) (by rw [List.length_drop, HML.out]; omega) (by omega) (KEY.out w0.drew 4 h0'.2.drew (by omega)) s.a Q.out.1 (off + 8) 100 (c - 8) (by omega) (by omega) (by omega)).mono ?_; rintro e w' ⟨rfl, nq, rfl⟩)
  refine Held2.mk ?_
  go_wp2
  refine gen_wp (fun w' => w'.heap[d]? = some (.cells (dcells { t0 with a := s.a } X nx ln).toArray 79 (0, 0)) ∧ Chg [d] w w') ?_ (fun w1 h1 => ?_)
  · exact ⟨blk_dset (w := w0.drewN _) (L := dcells t0 X nx ln) h0'.1 0 _, (h0'.2.drewN _).setCell (.inl (by simp)) _⟩
  clear fd cd
  refine region_plan2 [0, 1, 7, 8, 2, 3, 4, 5, 6, 9, 10] (by kernel_rfl) (by kernel_rfl) ?_
  change wpList _ _ _ [_, _, _, _, _, _, _, _, _, _, _] _ _
  have fd : ∀ j, w1.frozen? ⟨d, j, none⟩ = false := fun j => blk_frozen h1.1 j
  have cd : w1.cell? ⟨d, 1, none⟩ = some (.int .u32 (t0.b.toNat : Int)) := blk_cell h1.1 1
  go_wp2_with (go_at_call 147; refine (con32 _ b (off + 8) 100 (c - 8) ((marsh s n).drop 8) (by omega) (by rw [List.length_drop, HML.out]; omega) (by omega) (KEY.out w1.drew 8 h1.2.drew (by omega)) s.b Q.out.2.1 (off + 12) 96 (c - 12) (by omega) (by omega) (by omega)).mono ?_; rintro e w' ⟨rfl, nq, rfl⟩)
  refine Held2.mk ?_
  go_wp2
  refine gen_wp (fun w' => w'.heap[d]? = some (.cells (dcells { t0 with a := s.a, b := s.b } X nx ln).toArray 79 (0, 0)) ∧ Chg [d] w w') ?_ (fun w2 h2 => ?_)
  · exact ⟨blk_dset (w := w1.drewN _) (L := dcells { t0 with a := s.a } X nx ln) h1.1 1 _, (h1.2.drewN _).setCell (.inl (by simp)) _⟩
  clear fd cd
  refine region_plan2 [0, 1, 7, 8, 2, 3, 4, 5, 6, 9, 10] (by kernel_rfl) (by kernel_rfl) ?_
  change wpList _ _ _ [_, _, _, _, _, _, _, _, _, _, _] _ _
  have fd : ∀ j, w2.frozen? ⟨d, j, none⟩ = false := fun j => blk_frozen h2.1 j
  have cd : w2.cell? ⟨d, 2, none⟩ = some (.int .u32 (t0.c.toNat : Int)) := blk_cell h2.1 2
  go_wp2_with (go_at_call 147; refine (con32 _ b (off + 12) 96 (c - 12) ((marsh s n).drop 12) (by omega) (by rw [List.length_drop, HML.out]; omega) (by omega) (KEY.out w2.drew 12 h2.2.drew (by omega)) s.c Q.out.2.2.1 (off + 16) 92 (c - 16) (by omega) (by omega) (by omega)).mono ?_; rintro e w' ⟨rfl, nq, rfl⟩)
  refine Held2.mk ?_
  go_wp2
  refine gen_wp (fun w' => w'.heap[d]? = some (.cells (dcells { t0 with a := s.a, b := s.b, c := s.c } X nx ln).toArray 79 (0, 0)) ∧ Chg [d] w w') ?_ (fun w3 h3 => ?_)
  · exact ⟨blk_dset (w := w2.drewN _) (L := dcells { t0 with a := s.a, b := s.b } X nx ln) h2.1 2 _, (h2.2.drewN _).setCell (.inl (by simp)) _⟩
  clear fd cd
  refine region_plan2 [0, 1, 7, 8, 2, 3, 4, 5, 6, 9, 10] (by kernel_rfl) (by kernel_rfl) ?_
  change wpList _ _ _ [_, _, _, _, _, _, _, _, _, _, _] _ _
  have fd : ∀ j, w3.frozen? ⟨d, j, none⟩ = false := fun j => blk_frozen h3.1 j
  have cd : w3.cell? ⟨d, 3, none⟩ = some (.int .u32 (t0.d.toNat : Int)) := blk_cell h3.1 3
  go_wp2_with (go_at_call 147; refine (con32 _ b (off + 16) 92 (c - 16) ((marsh s n).drop 16) (by omega) (by rw [List.length_drop, HML.out]; omega) (by omega) (KEY.out w3.drew 16 h3.2.drew (by omega)) s.d Q.out.2.2.2.1 (off + 20) 88 (c - 20) (by omega) (by omega) (by omega)).mono ?_; rintro e w' ⟨rfl, nq, rfl⟩)
  refine Held2.mk ?_
  go_wp2
  refine gen_wp (fun w' => w'.heap[d]? = some (.cells (dcells { t0 with a := s.a, b := s.b, c := s.c, d := s.d } X nx ln).toArray 79 (0, 0)) ∧ Chg [d] w w') ?_ (fun w4 h4 => ?_)
  · exact ⟨blk_dset (w := w3.drewN _) (L := dcells { t0 with a := s.a, b := s.b, c := s.c } X nx ln) h3.1 3 _, (h3.2.drewN _).setCell (.inl (by simp)) _⟩
  clear fd cd
  refine region_plan2 [0, 1, 7, 8, 2, 3, 4, 5, 6, 9, 10] (by kernel_rfl) (by kernel_rfl) ?_
  change wpList _ _ _ [_, _, _, _, _, _, _, _, _, _, _] _ _
  have fd : ∀ j, w4.frozen? ⟨d, j, none⟩ = false := fun j => blk_frozen h4.1 j
  have cd : w4.cell? ⟨d, 4, none⟩ = some (.int .u32 (t0.e.toNat : Int)) := blk_cell h4.1 4
  go_wp2_with (go_at_call 147; refine (con32 _ b (off + 20) 88 (c - 20) ((marsh s n).drop 20) (by omega) (by rw [List.length_drop, HML.out]; omega) (by omega) (KEY.out w4.drew 20 h4.2.drew (by omega)) s.e Q.out.2.2.2.2.1 (off + 24) 84 (c - 24) (by omega) (by omega) (by omega)).mono ?_; rintro e w' ⟨rfl, nq, rfl⟩)
  refine Held2.mk ?_
  go_wp2
  refine gen_wp (fun w' => w'.heap[d]? = some (.cells (dcells { t0 with a := s.a, b := s.b, c := s.c, d := s.d, e := s.e } X nx ln).toArray 79 (0, 0)) ∧ Chg [d] w w') ?_ (fun w5 h5 => ?_)
  · exact ⟨blk_dset (w := w4.drewN _) (L := dcells { t0 with a := s.a, b := s.b, c := s.c, d := s.d } X nx ln) h4.1 4 _, (h4.2.drewN _).setCell (.inl (by simp)) _⟩
  clear fd cd
  refine region_plan2 [0, 1, 7, 8, 2, 3, 4, 5, 6, 9, 10] (by kernel_rfl) (by kernel_rfl) ?_
  change wpList _ _ _ [_, _, _, _, _, _, _, _, _, _, _] _ _
  have fd : ∀ j, w5.frozen? ⟨d, j, none⟩ = false := fun j => blk_frozen h5.1 j
  have cd : w5.cell? ⟨d, 5, none⟩ = some (.int .u32 (t0.f.toNat : Int)) := blk_cell h5.1 5
  go_wp2_with (go_at_call 147; refine (con32 _ b (off + 24) 84 (c - 24) ((marsh s n).drop 24) (by omega) (by rw [List.length_drop, HML.out]; omega) (by omega) (KEY.out w5.drew 24 h5.2.drew (by omega)) s.f Q.out.2.2.2.2.2.1 (off + 28) 80 (c - 28) (by omega) (by omega) (by omega)).mono ?_; rintro e w' ⟨rfl, nq, rfl⟩)
  refine Held2.mk ?_
  go_wp2
  refine gen_wp (fun w' => w'.heap[d]? = some (.cells (dcells { t0 with a := s.a, b := s.b, c := s.c, d := s.d, e := s.e, f := s.f } X nx ln).toArray 79 (0, 0)) ∧ Chg [d] w w') ?_ (fun w6 h6 => ?_)
  · exact ⟨blk_dset (w := w5.drewN _) (L := dcells { t0 with a := s.a, b := s.b, c := s.c, d := s.d, e := s.e } X nx ln) h5.1 5 _, (h5.2.drewN _).setCell (.inl (by simp)) _⟩
  clear fd cd
  refine region_plan2 [0, 1, 7, 8, 2, 3, 4, 5, 6, 9, 10] (by kernel_rfl) (by kernel_rfl) ?_
  change wpList _ _ _ [_, _, _, _, _, _, _, _, _, _, _] _ _
  have fd : ∀ j, w6.frozen? ⟨d, j, none⟩ = false := fun j => blk_frozen h6.1 j
  have cd : w6.cell? ⟨d, 6, none⟩ = some (.int .u32 (t0.g.toNat : Int)) := blk_cell h6.1 6
  go_wp2_with (go_at_call 147; refine (con32 _ b (off + 28) 80 (c - 28) ((marsh s n).drop 28) (by omega) (by rw [List.length_drop, HML.out]; omega) (by omega) (KEY.out w6.drew 28 h6.2.drew (by omega)) s.g Q.out.2.2.2.2.2.2.1 (off + 32) 76 (c - 32) (by omega) (by omega) (by omega)).mono ?_; rintro e w' ⟨rfl, nq, rfl⟩)
  refine Held2.mk ?_
  go_wp2
  refine gen_wp (fun w' => w'.heap[d]? = some (.cells (dcells { t0 with a := s.a, b := s.b, c := s.c, d := s.d, e := s.e, f := s.f, g := s.g } X nx ln).toArray 79 (0, 0)) ∧ Chg [d] w w') ?_ (fun w7 h7 => ?_)
  · exact ⟨blk_dset (w := w6.drewN _) (L := dcells { t0 with a := s.a, b := s.b, c := s.c, d := s.d, e := s.e, f := s.f } X nx ln) h6.1 6 _, (h6.2.drewN _).setCell (.inl (by simp)) _⟩
  clear fd cd
  refine region_plan2 [0, 1, 7, 8, 2, 3, 4, 5, 6, 9, 10] (by kernel_rfl) (by kernel_rfl) ?_
  change wpList _ _ _ [_, _, _, _, _, _, _, _, _, _, _] _ _
  have fd : ∀ j, w7.frozen? ⟨d, j, none⟩ = false := fun j => blk_frozen h7.1 j
  have cd : w7.cell? ⟨d, 7, none⟩ = some (.int .u32 (t0.h.toNat : Int)) := blk_cell h7.1 7
  go_wp2_with (go_at_call 147; refine (con32 _ b (off + 32) 76 (c - 32) ((marsh s n).drop 32) (by omega) (by rw [List.length_drop, HML.out]; omega) (by omega) (KEY.out w7.drew 32 h7.2.drew (by omega)) s.h Q.out.2.2.2.2.2.2.2.1 (off + 36) 72 (c - 36) (by omega) (by omega) (by omega)).mono ?_; rintro e w' ⟨rfl, nq, rfl⟩)
  refine Held2.mk ?_
  go_upto_region 14 with fail
  refine gen_wp (fun w' => w'.heap[d]? = some (.cells (dcells s X nx ln).toArray 79 (0, 0)) ∧ Chg [d] w w') ?_ (fun w8 h8 => ?_)
  · exact ⟨blk_dset (w := w7.drewN _) (L := dcells { t0 with a := s.a, b := s.b, c := s.c, d := s.d, e := s.e, f := s.f, g := s.g } X nx ln) h7.1 7 _, (h7.2.drewN _).setCell (.inl (by simp)) _⟩
  clear fd cd
  obtain ⟨w9, hr, hw9, hchg9⟩ := run_copy_bytes (w := w8) (ty := 3) (g := d) (off := 8) (dLen := 64) (dCap := 64) (u := .slice (some ⟨b, off + 36, none⟩) 72 (c - 36)) (ys := (marsh s n).drop 36) (S := [d]) h8.1 (by rw [dc_length _ _ _ _ HX.out]; omega) (by
    have := (HV.out.chg h8.2 (by simp)).cut 36 (by rw [HML.out]; omega)
    rw [HML.out, show cutO (some ⟨b, off, none⟩) c 36 = some ⟨b, off + 36, none⟩ from by unfold cutO; rw [if_neg (by omega)]; rfl] at this
    exact this)
  rw [List.length_drop, HML.out, show min (108 - 36) 64 = 64 from rfl, Q.out.2.2.2.2.2.2.2.2.1] at hw9
  rw [List.length_drop, HML.out, show ((min (108 - 36) 64 : Nat) : Int) = 64 from rfl] at hr
  have eX : X.take 0 ++ z64 ++ X.drop (0 + z64.length) = z64 := by rw [List.drop_of_length_le (by rw [HX.out, z64_length]; omega)]; simp
  have e9 := dc_splice s X nx ln 0 z64 (by rw [HX.out, z64_length]; omega)
  rw [eX, z64_length] at e9
  have hw9' : w9.heap[d]? = some (.cells (dcells s z64 nx ln).toArray 79 (0, 0)) := by rw [← e9]; exact hw9
  clear hw9 e9 eX
  have hw9 := hw9'
  clear hw9'
  have hw9c := h8.2.trans hchg9
  have fd : ∀ j, w9.frozen? ⟨d, j, none⟩ = false := fun j => blk_frozen hw9 j
  have hcd := con64 w9 b (off + 100) 8 (c - 100) ((marsh s n).drop 100) (by omega) (by rw [List.length_drop, HML.out]; omega) (KEY.out w9 100 hw9c (by omega)) n (by omega) Q.out.2.2.2.2.2.2.2.2.2
  have HCD := Lib.hid hcd
  have c73 := (blk_cell hw9 73).trans (dc_ln s z64 nx ln z64_length)
  have c72 := (blk_cell hw9 72).trans (dc_nx s z64 nx ln z64_length)
  clear hcd hchg9
  go_wp2_with (go_at_call 148; refine HCD.out.mono ?_; rintro e w' ⟨rfl, nq, rfl⟩)
  go_ret
  have hn := HN.out
  have h1 := blk_dset (w := w9.drewN nq) hw9 73 (.int .u64 (n : Int))
  rw [show (dcells s z64 nx ln).set 73 (.int .u64 (n : Int)) = dcells s z64 nx (UInt64.ofNat n) from by rw [← u64_nat n (by omega)]; exact dc_set_ln s z64 nx _ _ z64_length] at h1
  have h2 := blk_dset h1 72 (.int .i64 ((n : Int) % 64))
  rw [show (dcells s z64 nx (UInt64.ofNat n)).set 72 (.int .i64 ((n : Int) % 64)) = dcells s z64 (n % 64) (UInt64.ofNat n) from dc_set_nx s z64 nx (n % 64) _ z64_length] at h2
  refine ⟨rfl, ⟨h0, z64, z64_length, by rw [H64.out, rest_nil data H64.out]; rfl, ?_⟩, (((hw9c.drewN _).setCell (.inl (by simp)) _).setCell (.inl (by simp)) _)⟩
  rw [← HS.out, ← hn]
  exact h2
end Go.Proofs.YtknoomndofnnmaaDoor
