/- The law's helper labelled; words for the laws on Derive-Secret. -/
import Derived.Test.YtknoomndofnnmaaDoorImplB
import Derived.Test.YtknoomndofnnmaaDoorImplSum
import Derived.Test.YtknoomndofnnmaaDoorSpecD
import Derived.Test.YtknoomndofnnmaaDoorLong
namespace Go.Proofs.YtknoomndofnnmaaDoor
open Go Go.RowKit

theorem kSz_eq (K : List UInt32) (kd sz bk : Int) : (hfK K (kdOf kd sz bk)).sz = kSz kd sz bk := by
  unfold kdOf kSz
  split <;> rfl
theorem kSz_le (kd sz bk : Int) : 1 ≤ kSz kd sz bk ∧ kSz kd sz bk ≤ 32 := by
  have := own_range sz bk
  unfold kSz
  split <;> omega
/-- What labelled says. -/
def Labelled (w : World) (z : Nat) (s : ByteArray) (x : Bs) (n : Int) (e : Ending) (w' : World) : Prop := ∃ b, e = .returned (.bool b) ∧ (b = true → 1 ≤ s.size ∧ s.size ≤ 249 ∧ x.length ≤ 255 ∧ 0 ≤ n ∧ n ≤ 255 * (z : Int)) ∧ Chg [] w w'
set_option maxRecDepth 100000 in
set_option maxHeartbeats 1000000 in
theorem laws_labelled (w : World) (kd sz bk : Int) (s : ByteArray) (v : Value) (x : Bs) (hb : BS [] w v x) (n : Int) :
    Calls Tryd.prog 23 #[hV kd sz bk, .string s, v, .int .i64 n] w (Labelled w (kSz kd sz bk) s x n) := by
  obtain ⟨a, c, hf⟩ := hb.form
  subst hf
  have hc0 : Chg [] w (w.alloc (hObj kd sz bk)) := (Chg.refl [] w).alloc _
  have hk := kSz_le kd sz bk
  have hcases : s.size = 0 ∨ (0 < s.size ∧ 249 < s.size) ∨ (0 < s.size ∧ s.size ≤ 249 ∧ 255 < x.length) ∨ (0 < s.size ∧ s.size ≤ 249 ∧ x.length ≤ 255 ∧ n < 0) ∨ (0 < s.size ∧ s.size ≤ 249 ∧ x.length ≤ 255 ∧ 0 ≤ n) := by omega
  rcases hcases with h1 | ⟨h1, h2⟩ | ⟨h1, h2, h3⟩ | ⟨h1, h2, h3, h4⟩ | ⟨h1, h2, h3, h4⟩
  · have f1 : ¬ (0 : Int) < (s.size : Int) := by omega
    have H1 := Lib.hid h1
    clear h1
    go_enter Tryd.func23, Tryd.ntmps23
    go_wp2
    go_ret
    exact ⟨false, rfl, by simp, hc0⟩
  · have f1 : (0 : Int) < (s.size : Int) := by omega
    have f2 : ¬ (s.size : Int) ≤ 249 := by omega
    go_enter Tryd.func23, Tryd.ntmps23
    go_wp2
    go_ret
    exact ⟨false, rfl, by simp, hc0⟩
  · have f1 : (0 : Int) < (s.size : Int) := by omega
    have f2 : (s.size : Int) ≤ 249 := by omega
    have f3 : ¬ (x.length : Int) ≤ 255 := by omega
    go_enter Tryd.func23, Tryd.ntmps23
    go_wp2
    go_ret
    exact ⟨false, rfl, by simp, hc0⟩
  · have f1 : (0 : Int) < (s.size : Int) := by omega
    have f2 : (s.size : Int) ≤ 249 := by omega
    have f3 : (x.length : Int) ≤ 255 := by omega
    have f4 : ¬ (0 : Int) ≤ n := by omega
    go_enter Tryd.func23, Tryd.ntmps23
    go_wp2
    go_ret
    exact ⟨false, rfl, by simp, hc0⟩
  · have f1 : (0 : Int) < (s.size : Int) := by omega
    have f2 : (s.size : Int) ≤ 249 := by omega
    have f3 : (x.length : Int) ≤ 255 := by omega
    obtain ⟨z, hz⟩ : ∃ z, z = kSz kd sz bk := ⟨_, rfl⟩
    rw [← hz] at hk ⊢
    have hsz := spec_size (w.alloc (hObj kd sz bk)) kd sz bk
    rw [← hz] at hsz
    have HS := Lib.hid hsz
    clear hsz hz
    go_enter Tryd.func23, Tryd.ntmps23
    go_wp2_with (go_at_call 20; refine HS.out.mono ?_; rintro e w2 ⟨rfl, hc2⟩)
    go_ret
    exact ⟨_, rfl, fun h => ⟨h1, h2, h3, h4, of_decide_eq_true h⟩, hc0.trans hc2⟩
end Go.Proofs.YtknoomndofnnmaaDoor
