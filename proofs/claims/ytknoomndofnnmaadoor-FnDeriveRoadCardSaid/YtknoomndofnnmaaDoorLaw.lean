/- The laws' helpers (long, same) and the thin package's copy of bytes. -/
import Derived.Test.YtknoomndofnnmaaDoorKit
import Derived.Test.YtknoomndofnnmaaDoorConv
namespace Go.Proofs.YtknoomndofnnmaaDoor
open Go Go.RowKit

/-- A copy, nil if there are no bytes. -/
def GivesN (w : World) (X : Bs) (e : Ending) (w' : World) : Prop := ∃ v, e = .returned v ∧ Fr w X w' v ∧ (v = .slice none 0 0 ↔ X = [])
theorem impl_copied (w : World) (v : Value) (d : Bs) (hd : d.length ≤ 1000000) (hv : BS [] w v d) : Calls Tryd.prog 44 #[v] w (GivesN w d) := by
  go_enter Tryd.func44, Tryd.ntmps44
  go_wp2_with (at_builtin; refine append_bytes (v := .slice none 0 0) (xs := []) (ys := d) (u := v) rfl _ _ rfl rfl (Own.nil w) rfl hv.src (by simp; omega) ?_; intro v1 w1 hown1 hchg1 hsame1 hnil1)
  go_ret
  exact ⟨_, rfl, (Fr.nil w).app (Chg.refl [] w) hown1 hchg1 hsame1, by simpa using hnil1⟩
theorem laws_same (w : World) (v u : Value) (xs : Bs) (hv : BS [] w v xs) (hu : BS [] w u xs) : Calls Tryd.prog 17 #[v, u] w fun e w' => e = .returned (.bool true) ∧ Chg [] w w' := by
  have e1 := fun (S : List Nat) (W : World) (h : BS S W v xs) => h.str
  have h1 := hv.str
  have h2 := hu.str
  go_enter Tryd.func17, Tryd.ntmps17
  go_wp2
  go_ret
  exact ⟨rfl, Chg.refl [] w⟩
/-- The lengths' sum. -/
def lenSum (l : List (Value × Bs)) : Nat := (l.map (·.2.length)).sum
theorem lenSum_take (l : List (Value × Bs)) (k : Nat) (h : k < l.length) : lenSum (l.take (k + 1)) = lenSum (l.take k) + l[k].2.length := by
  unfold lenSum
  rw [List.take_succ_eq_append_getElem h, List.map_append, List.sum_append]
  rfl
set_option maxRecDepth 100000 in
theorem laws_long (w : World) (g n : Nat) (l : List (Value × Bs)) (t : TypeId) (hn : n = l.length) (hl : n ≤ 1000) (hg : w.heap[g]? = some (.cells (l.map (·.1)).toArray t (0, 0))) (hs : ∀ p ∈ l, ∃ a c, p.1 = .slice a p.2.length c) :
    Calls Tryd.prog 16 #[.slice (some ⟨g, 0, none⟩) n n] w fun e w' => ∃ b, e = .returned (.bool b) ∧ (b = false → lenSum l ≤ 16384) ∧ Chg [] w w' := by
  go_enter Tryd.func16, Tryd.ntmps16
  go_wp2
  go_loopw [3, 8] (fun x i wr => ∃ k : Nat, k ≤ n ∧ i = .int .i64 k ∧ x = .int .i64 (lenSum (l.take k) : Nat) ∧ lenSum (l.take k) ≤ 16384 ∧ wr = w) (fun _ i _ => n - (intOf i).toNat)
  case atStart => exact ⟨0, by omega, rfl, rfl, by simp [lenSum], rfl⟩
  case round =>
    obtain ⟨k, hk, rfl, rfl, hsum, hw⟩ := hrel
    subst hw
    by_cases hlt : k < n
    · obtain ⟨a, c, he⟩ := hs l[k] (List.getElem_mem _)
      have ck : wr.cell? ⟨g, k, none⟩ = some (.slice a l[k].2.length c) := by
        rw [blk_cell hg, ← he]; simp [List.getElem?_eq_getElem (show k < l.length by omega)]
      have hdd : decide ((k : Int) < (n : Int)) = true := by simpa using hlt
      have hst := lenSum_take l k (by omega)
      obtain ⟨m, hm⟩ : ∃ m, m = l[k].2.length := ⟨_, rfl⟩
      rw [← hm] at ck hst
      by_cases hbig : (16384 : Int) - (lenSum (l.take k) : Nat) < (m : Int)
      · go_wp2
        go_ret
        exact ⟨true, rfl, by simp, Chg.refl [] _⟩
      · go_wp2
        go_roundw
        case rel => exact ⟨k + 1, by omega, by go_num, by rw [hst]; go_num, by omega, by first | rfl | trivial⟩
        case measure => simp [intOf]; omega
    · obtain rfl : k = n := by omega
      go_wp2
      go_ret
      exact ⟨false, rfl, fun _ => by rw [hn, List.take_length] at hsum; exact hsum, Chg.refl [] _⟩
theorem laws_long1 {W : World} {g : Nat} {t : TypeId} {a1 : Option Addr} {c1 : Nat} (x1 : Bs) (h : W.heap[g]? = some (.cells #[.slice a1 x1.length c1] t (0, 0))) :
    Calls Tryd.prog 16 #[.slice (some ⟨g, 0, none⟩) 1 1] W fun e w' => ∃ b, e = .returned (.bool b) ∧ (b = false → x1.length ≤ 16384) ∧ Chg [] W w' := by
  refine (laws_long W g 1 [(.slice a1 x1.length c1, x1)] t rfl (by omega) h ?_).mono ?_
  · intro p hp
    simp only [List.mem_cons, List.not_mem_nil, or_false] at hp
    rcases hp with rfl <;> exact ⟨_, _, rfl⟩
  · rintro e w' ⟨b, he, hb, hc⟩
    refine ⟨b, he, fun h => ?_, hc⟩
    have := hb h
    simp [lenSum] at this
    omega
theorem laws_long2 {W : World} {g : Nat} {t : TypeId} {a1 : Option Addr} {c1 : Nat} {a2 : Option Addr} {c2 : Nat} (x1 x2 : Bs) (h : W.heap[g]? = some (.cells #[.slice a1 x1.length c1, .slice a2 x2.length c2] t (0, 0))) :
    Calls Tryd.prog 16 #[.slice (some ⟨g, 0, none⟩) 2 2] W fun e w' => ∃ b, e = .returned (.bool b) ∧ (b = false → x1.length + x2.length ≤ 16384) ∧ Chg [] W w' := by
  refine (laws_long W g 2 [(.slice a1 x1.length c1, x1), (.slice a2 x2.length c2, x2)] t rfl (by omega) h ?_).mono ?_
  · intro p hp
    simp only [List.mem_cons, List.not_mem_nil, or_false] at hp
    rcases hp with rfl | rfl <;> exact ⟨_, _, rfl⟩
  · rintro e w' ⟨b, he, hb, hc⟩
    refine ⟨b, he, fun h => ?_, hc⟩
    have := hb h
    simp [lenSum] at this
    omega
theorem laws_long3 {W : World} {g : Nat} {t : TypeId} {a1 : Option Addr} {c1 : Nat} {a2 : Option Addr} {c2 : Nat} {a3 : Option Addr} {c3 : Nat} (x1 x2 x3 : Bs) (h : W.heap[g]? = some (.cells #[.slice a1 x1.length c1, .slice a2 x2.length c2, .slice a3 x3.length c3] t (0, 0))) :
    Calls Tryd.prog 16 #[.slice (some ⟨g, 0, none⟩) 3 3] W fun e w' => ∃ b, e = .returned (.bool b) ∧ (b = false → x1.length + x2.length + x3.length ≤ 16384) ∧ Chg [] W w' := by
  refine (laws_long W g 3 [(.slice a1 x1.length c1, x1), (.slice a2 x2.length c2, x2), (.slice a3 x3.length c3, x3)] t rfl (by omega) h ?_).mono ?_
  · intro p hp
    simp only [List.mem_cons, List.not_mem_nil, or_false] at hp
    rcases hp with rfl | rfl | rfl <;> exact ⟨_, _, rfl⟩
  · rintro e w' ⟨b, he, hb, hc⟩
    refine ⟨b, he, fun h => ?_, hc⟩
    have := hb h
    simp [lenSum] at this
    omega
theorem laws_long4 {W : World} {g : Nat} {t : TypeId} {a1 : Option Addr} {c1 : Nat} {a2 : Option Addr} {c2 : Nat} {a3 : Option Addr} {c3 : Nat} {a4 : Option Addr} {c4 : Nat} (x1 x2 x3 x4 : Bs) (h : W.heap[g]? = some (.cells #[.slice a1 x1.length c1, .slice a2 x2.length c2, .slice a3 x3.length c3, .slice a4 x4.length c4] t (0, 0))) :
    Calls Tryd.prog 16 #[.slice (some ⟨g, 0, none⟩) 4 4] W fun e w' => ∃ b, e = .returned (.bool b) ∧ (b = false → x1.length + x2.length + x3.length + x4.length ≤ 16384) ∧ Chg [] W w' := by
  refine (laws_long W g 4 [(.slice a1 x1.length c1, x1), (.slice a2 x2.length c2, x2), (.slice a3 x3.length c3, x3), (.slice a4 x4.length c4, x4)] t rfl (by omega) h ?_).mono ?_
  · intro p hp
    simp only [List.mem_cons, List.not_mem_nil, or_false] at hp
    rcases hp with rfl | rfl | rfl | rfl <;> exact ⟨_, _, rfl⟩
  · rintro e w' ⟨b, he, hb, hc⟩
    refine ⟨b, he, fun h => ?_, hc⟩
    have := hb h
    simp [lenSum] at this
    omega
end Go.Proofs.YtknoomndofnnmaaDoor
