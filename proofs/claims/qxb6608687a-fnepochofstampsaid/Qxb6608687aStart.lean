import Derived.Test.Qxb6608687aRows
import Derived.WalkKit
import Derived.WalkSpells
namespace Go.Proofs.Qxb6608687a
open Go.RowKit

/-- The first stamp of epoch n, for n up to 65520. -/
def st (n : Int) : Int := if n = 0 then 0 else 4503599627370496 + (n - 1) * 281474976710656

theorem start_pos (n : Int) (w : World) (h0 : 1 ≤ n) (h1 : n ≤ 65520) :
    Calls Try.prog 6 #[.int .u64 n] w fun e w' => e = .returned (.int .u64 (4503599627370496 + (n - 1) * 281474976710656)) ∧ w' = w := by
  have hn : (n == 0) = false := by simp; omega
  go_enter Try.func6, Try.ntmps6
  go_wp2
  go_ret
  exact ⟨rfl, rfl⟩

theorem start_zero (w : World) : Calls Try.prog 6 #[.int .u64 0] w fun e w' => e = .returned (.int .u64 0) ∧ w' = w := by
  go_enter Try.func6, Try.ntmps6
  go_wp2
  go_ret
  exact ⟨rfl, rfl⟩

theorem start_any (n : Int) (w : World) (h0 : 0 ≤ n) (h1 : n ≤ 65520) :
    Calls Try.prog 6 #[.int .u64 n] w fun e w' => ∃ s, e = .returned (.int .u64 s) ∧ Hid (s = st n) ∧ w' = w := by
  by_cases h : n = 0
  · subst h
    exact (start_zero w).mono fun _ _ ⟨he, hw⟩ => ⟨0, he, rfl, hw⟩
  · exact (start_pos n w (by omega) h1).mono fun _ _ ⟨he, hw⟩ => ⟨_, he, (if_neg h).symm, hw⟩

theorem zzStart_any (n : Int) (w : World) (h0 : 0 ≤ n) (h1 : n ≤ 65520) :
    Calls Try.prog 5 #[.int .u64 n] w fun e w' => ∃ s, e = .returned (.int .u64 s) ∧ Hid (s = st n) ∧ w' = w := by
  go_enter Try.func5, Try.ntmps5
  go_wp2_with fail
  refine (start_any n _ h0 h1).mono ?_
  rintro e w' ⟨s, rfl, hs, rfl⟩
  go_wp2
  go_ret
  exact ⟨_, rfl, hs, rfl⟩

/-! ### The plain facts -/
theorem st_bounds (n : Int) (h0 : 0 ≤ n) (h1 : n ≤ 65520) : 0 ≤ st n ∧ st n ≤ 18446462598732840960 := by
  unfold st; split <;> omega
theorem st_zero : st 1 - st 0 = 4503599627370496 := by decide
theorem st_step (n : Int) (h0 : 1 ≤ n) : st (n + 1) - st n = 281474976710656 := by
  unfold st
  rw [if_neg (by omega), if_neg (by omega)]
  omega
/-- A stamp lies in epoch 0's window just if it is below 2^52. -/
theorem in_zero (s : Int) (h : 0 ≤ s) : (st 0 ≤ s ∧ s < st 1) ↔ s < 4503599627370496 := by
  rw [show st 0 = 0 from rfl, show st 1 = 4503599627370496 from rfl]; omega
theorem in_pos (n s : Int) (h0 : 1 ≤ n) (hs : 0 ≤ s) : (st n ≤ s ∧ s < st (n + 1)) ↔ (4503599627370496 ≤ s ∧ n = 1 + (s - 4503599627370496) / 281474976710656) := by
  unfold st
  rw [if_neg (by omega), if_neg (by omega)]
  omega
theorem key_low (n s : Int) (h0 : 0 ≤ n) (s0 : 0 ≤ s) (s1 : s < 4503599627370496) : (decide (st n ≤ s) && decide (s < st (n + 1))) = (n == 0) := by
  rw [← Bool.decide_and, Bool.eq_iff_iff]
  simp only [decide_eq_true_eq, beq_iff_eq]
  by_cases h : n = 0
  · subst h
    exact iff_of_true ((in_zero s s0).2 s1) rfl
  · have := in_pos n s (by omega) s0
    omega
theorem key_high (n s : Int) (h0 : 0 ≤ n) (s1 : 4503599627370496 ≤ s) : (decide (st n ≤ s) && decide (s < st (n + 1))) = (n == 1 + (s - 4503599627370496) / 281474976710656) := by
  rw [← Bool.decide_and, Bool.eq_iff_iff]
  simp only [decide_eq_true_eq, beq_iff_eq]
  by_cases h : n = 0
  · subst h
    exact iff_of_false (fun h => by have := (in_zero s (by omega)).1 h; omega) (by omega)
  · have := in_pos n s (by omega) (by omega)
    omega
/-- The two ways of the window's test, with the last comparison behind it. -/
theorem way_in {lo hi s : Int} {b : Bool} (hk : (decide (lo ≤ s) && decide (s < hi)) = b) (h : lo ≤ s) : (decide (s < hi) == b) = true := by
  rw [← hk]; simp [h]
theorem way_out {lo hi s : Int} {b : Bool} (hk : (decide (lo ≤ s) && decide (s < hi)) = b) (h : s < lo) : (!b) = true := by
  rw [← hk]; simp; omega
theorem ret_bool {b : Bool} (h : b = true) : Ending.returned (.bool b) = .returned (.bool true) := by rw [h]
end Go.Proofs.Qxb6608687a
