/- HMAC: its laws over one list of blocks. -/
import Derived.Test.YtknoomndofnnmaaDoorYNewDigest
import Derived.Test.YtknoomndofnnmaaDoorYNewown
import Derived.Test.YtknoomndofnnmaaDoorYNewHash
namespace Go.Proofs.YtknoomndofnnmaaDoor
open Go Go.RowKit

/-- A MAC at h; its blocks are F. -/
def MacO (K : List UInt32) (κ : Kd) (w : World) (F : List Nat) (h : Nat) (key d : Bs) : Prop :=
  ∃ p s q t bo bi m, F = [h, p, s, q, t, bo, bi] ∧ MacAt K κ w h p s q t bo bi key d m
theorem MacO.chg {K : List UInt32} {κ : Kd} {w w' : World} {F S : List Nat} {h : Nat} {key d : Bs} (hm : MacO K κ w F h key d) (hc : Chg S w w') (hS : Apart F S) : MacO K κ w' F h key d := by
  obtain ⟨p, s, q, t, bo, bi, m, rfl, hm⟩ := hm
  exact ⟨p, s, q, t, bo, bi, m, rfl, hm.chg hc hS⟩
theorem MacO.lt {K : List UInt32} {κ : Kd} {w : World} {F : List Nat} {h : Nat} {key d : Bs} (hm : MacO K κ w F h key d) : ∀ x ∈ F, x < w.heap.size := by
  obtain ⟨p, s, q, t, bo, bi, m, rfl, h1, h2, h3, h4, h5, h6, h7, ov, iv, fh, kl, h8, h9⟩ := hm
  have l1 := h6.raw.lt
  have l2 := h7.lt
  have l3 := blk_lt h8
  have pl : ∀ {b : Nat} {v : Value} {xs : Bs}, Pad b w v xs → xs.length ≠ 0 → b < w.heap.size := by
    rintro b v xs ⟨off, c, rfl, hc, hm, hcell⟩ hn
    exact World.block_lt_of_cell? w _ (hcell 0 (by omega))
  have hok := hfK_ok K h1
  have e : ∀ x, (padX (hfK K κ) key x).length ≠ 0 := fun x => by rw [padX_length hok]; have := hok.pos; have := hok.le; omega
  have l4 : bo < w.heap.size ∧ bi < w.heap.size := by
    cases m with
    | true => exact ⟨pl h9.2.1 (by rw [marsh_length]; omega), pl h9.2.2 (by rw [marsh_length]; omega)⟩
    | false => exact ⟨pl h9.1 (e _), pl h9.2 (e _)⟩
  intro x hx
  simp only [List.mem_cons, List.not_mem_nil, or_false] at hx
  rcases hx with rfl | rfl | rfl | rfl | rfl | rfl | rfl <;> omega
theorem MacO.ok {K : List UInt32} {κ : Kd} {w : World} {F : List Nat} {h : Nat} {key d : Bs} (hm : MacO K κ w F h key d) : κ.ok := by
  obtain ⟨p, s, q, t, bo, bi, m, rfl, hm⟩ := hm
  exact hm.ok
theorem MacO.no0 {K : List UInt32} {κ : Kd} {w : World} {F : List Nat} {h : Nat} {key d : Bs} (hm : MacO K κ w F h key d) : 0 ∉ F := by
  obtain ⟨p, s, q, t, bo, bi, m, rfl, hm⟩ := hm
  exact hm.a4 0 (by simp)
theorem MacO.memh {K : List UInt32} {κ : Kd} {w : World} {F : List Nat} {h : Nat} {key d : Bs} (hm : MacO K κ w F h key d) : h ∈ F := by
  obtain ⟨p, s, q, t, bo, bi, m, rfl, hm⟩ := hm
  simp

theorem maco_write (K : List UInt32) (κ : Kd) (w : World) (F : List Nat) (h : Nat) (key d : Bs) (hK : KAt K w) (hm : MacO K κ w F h key d) (hd : d.length ≤ 400000) (v : Value) (xs : Bs) (hx : xs.length ≤ 65536) (hv : BS F w v xs) :
    Calls Tryd.prog 112 #[.pointer (some ⟨h, 0, none⟩), v] w fun e w' => e = .returned (.tuple #[.int .i64 xs.length, .nilIface]) ∧ MacO K κ w' F h key (d ++ xs) ∧ Chg F w w' := by
  obtain ⟨p, s, q, t, bo, bi, m, rfl, hm⟩ := hm
  refine (mac_write K κ w h p s q t bo bi key d m hK hm hd v xs hx (hv.old (fun k hk => .inl (by simp at hk ⊢; rcases hk with rfl | rfl <;> simp)))).mono ?_
  rintro e w' ⟨he, hm', hc⟩
  exact ⟨he, ⟨p, s, q, t, bo, bi, m, rfl, hm'⟩, hc.mono (fun k hk _ => by simp at hk ⊢; rcases hk with rfl | rfl <;> simp)⟩
theorem maco_sum (K : List UInt32) (κ : Kd) (w : World) (F : List Nat) (h : Nat) (key d : Bs) (hK : KAt K w) (hm : MacO K κ w F h key d) (hd : d.length ≤ 400000) (vin : Value) (hv : Own w vin []) (hvo : ∀ g, vin.ownBlock = some g → g ∉ F ∧ g ≠ 0) :
    Calls Tryd.prog 113 #[.pointer (some ⟨h, 0, none⟩), vin] w fun e w' => ∃ v', e = .returned v' ∧ Own w' v' (mac (hfK K κ) key d) ∧ MacO K κ w' F h key d ∧ Chg (F ++ vin.ownBlock.toList) w w' ∧ ∀ g, v'.ownBlock = some g → vin.ownBlock = some g ∨ w.heap.size ≤ g := by
  obtain ⟨p, s, q, t, bo, bi, m, rfl, hm⟩ := hm
  refine (mac_sum K κ w h p s q t bo bi key d m hK hm hd vin hv (fun g hg => ?_)).mono ?_
  · have := hvo g hg
    intro hg0
    rcases List.mem_cons.1 hg0 with h | h
    · exact this.2 h
    · exact this.1 h
  · rintro e w' ⟨v', he, ho, hm', hc, hf⟩
    refine ⟨v', he, ho, ⟨p, s, q, t, bo, bi, m, rfl, hm'⟩, hc.mono (fun k hk _ => ?_), hf⟩
    simp only [List.mem_cons] at hk
    rcases hk with rfl | rfl | hk
    · simp
    · simp
    · exact List.mem_append_right _ hk
theorem maco_reset (K : List UInt32) (κ : Kd) (w : World) (F : List Nat) (h : Nat) (key d : Bs) (hK : KAt K w) (hm : MacO K κ w F h key d) :
    Calls Tryd.prog 111 #[.pointer (some ⟨h, 0, none⟩)] w fun e w' => e = .returned (.tuple #[]) ∧ ∃ F', MacO K κ w' F' h key [] ∧ Chg F w w' ∧ ∀ x ∈ F', x ∈ F ∨ w.heap.size ≤ x := by
  obtain ⟨p, s, q, t, bo, bi, m, rfl, hm⟩ := hm
  refine (mac_reset K κ w h p s q t bo bi key d m hK hm).mono ?_
  rintro e w' ⟨he, bo', bi', m', hm', hc, h1, h2⟩
  refine ⟨he, [h, p, s, q, t, bo', bi'], ⟨p, s, q, t, bo', bi', m', rfl, hm'⟩, hc.mono (fun k hk _ => by simp at hk ⊢; rcases hk with rfl | rfl | rfl | rfl | rfl <;> simp), fun x hx => ?_⟩
  simp only [List.mem_cons, List.not_mem_nil, or_false] at hx
  rcases hx with rfl | rfl | rfl | rfl | rfl | rfl | rfl
  · simp
  · simp
  · simp
  · simp
  · simp
  · rcases h1 with rfl | h1
    · simp
    · exact .inr h1
  · rcases h2 with rfl | h2
    · simp
    · exact .inr h2
/-- What New says. -/
def NewO (K : List UInt32) (κ : Kd) (w : World) (key : Bs) (e : Ending) (w' : World) : Prop :=
  ∃ h F, e = .returned (.pointer (some ⟨h, 0, none⟩)) ∧ MacO K κ w' F h key [] ∧ Chg [] w w' ∧ ∀ x ∈ F, w.heap.size ≤ x
theorem NewSaid.o {K : List UInt32} {κ : Kd} {w : World} {key : Bs} {e : Ending} {w' : World} (h : NewSaid K κ w key e w') : NewO K κ w key e w' := by
  obtain ⟨h, p, s, q, t, bo, bi, he, hm, hc, hl⟩ := h
  exact ⟨h, _, he, ⟨p, s, q, t, bo, bi, false, rfl, hm⟩, hc, hl⟩
theorem newo_digest (K : List UInt32) (w : World) (F : Value) (B : List Nat) (hM : Maker K none B w F mkP) (key : Bs) (v : Value) (hkl : key.length ≤ 65536) (hv : BS [] w v key) :
    Calls Tryd.prog 110 #[F, v] w (NewO K none w key) := (new_digest K w F B hM key v hkl hv).mono fun _ _ h => h.o
theorem newo_own (K : List UInt32) (x : Nat × Nat) (w : World) (F : Value) (B : List Nat) (hM : Maker K (some x) B w F mkP) (key : Bs) (v : Value) (hkl : key.length ≤ 65536) (hv : BS [] w v key) :
    Calls Tryd.prog 114 #[F, v] w (NewO K (some x) w key) := (new_own K x w F B hM key v hkl hv).mono fun _ _ h => h.o
theorem newo_hash (K : List UInt32) (κ : Kd) (w : World) (F : Value) (B : List Nat) (hM : Maker K κ B w F (mkI κ)) (key : Bs) (v : Value) (hkl : key.length ≤ 65536) (hv : BS [] w v key) :
    Calls Tryd.prog 116 #[F, v] w (NewO K κ w key) := (new_hash K κ w F B hM key v hkl hv).mono fun _ _ h => h.o
end Go.Proofs.YtknoomndofnnmaaDoor
