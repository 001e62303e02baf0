import Derived.Test.Qxb6605867aRows
import Derived.WalkKit
import Derived.WalkSpells
import Derived.Laws.BitsAllLaws
import Derived.Laws.ShiftsVarLaws
namespace Go.Proofs.Qxb6605867a
open Go.RowKit

/-- The set of the one kind k, as a byte. -/
def kset (k : Int) : Int := 2 ^ min k.toNat 8 % 256

theorem kindSetOf_any (k : Int) (w : World) (h0 : 0 ≤ k) :
    Calls Try.prog 15 #[.int .u8 k] w fun e w' => e = .returned (.int .u8 (kset k)) ∧ w' = w := by
  go_enter Try.func15, Try.ntmps15
  go_wp2
  go_ret
  exact ⟨rfl, rfl⟩

theorem zzKindSetOf_any (k : Int) (w : World) (h0 : 0 ≤ k) :
    Calls Try.prog 6 #[.int .u8 k] w fun e w' => e = .returned (.int .u8 (kset k)) ∧ w' = w := by
  go_enter Try.func6, Try.ntmps6
  go_wp2_with (go_at_call 15; refine (kindSetOf_any k _ h0).mono ?_; rintro e w' ⟨rfl, rfl⟩)
  go_ret
  exact ⟨rfl, rfl⟩

/-- How many of the lowest k bits of x are set. -/
def pcs (x : Nat) : Nat → Nat
  | 0 => 0
  | k + 1 => pcs x k + x / 2 ^ k % 2
theorem pcs_succ (x k : Nat) : pcs x (k + 1) = pcs x k + x / 2 ^ k % 2 := rfl
theorem pcs_le (x : Nat) : ∀ k, pcs x k ≤ k
  | 0 => Nat.le_refl _
  | k + 1 => by have := pcs_le x k; rw [pcs_succ]; omega
def ones (x : Int) : Int := pcs x.toNat 8

theorem ones8_nat (X : Nat) (w : World) (hX : X < 256) :
    Calls Try.prog 7 #[.int .u8 X] w fun e w' => e = .returned (.int .i64 (pcs X 8)) ∧ w' = w := by
  go_enter Try.func7, Try.ntmps7
  go_wp2
  go_loop [0, 3, 4] (fun x n i => ∃ k y c : Nat, k ≤ 8 ∧ Hid (y = X / 2 ^ k) ∧ Hid (c = pcs X k) ∧ y < 256 ∧ c ≤ k ∧ i = .int .i64 k ∧ x = .int .u8 y ∧ n = .int .i64 c) (fun _ _ i => 8 - (intOf i).toNat)
  case atStart => exact ⟨0, X, 0, by omega, by simp [Hid], rfl, hX, Nat.le_refl _, rfl, rfl, rfl⟩
  case round =>
    obtain ⟨k, y, c, hk, hy, hc, hy2, hck, rfl, rfl, rfl⟩ := hrel
    have hb : bits .and .u8 (y : Int) 1 = ((y % 2 : Nat) : Int) := by
      rw [show (1 : Int) = ((1 : Nat) : Int) from rfl, u8_and_nat y 1 hy2 (by omega), nat_mask1]
    have hy' : Hid (y / 2 = X / 2 ^ (k + 1)) := by rw [show y = X / 2 ^ k from hy, Nat.div_div_eq_div_mul, ← Nat.pow_succ]; rfl
    have hc' : Hid (c + y % 2 = pcs X (k + 1)) := by rw [show c = pcs X k from hc, show y = X / 2 ^ k from hy]; exact rfl
    by_cases hlt : k < 8
    · go_wp2
      · have h1 : (((y : Int) % 2) == 1) = true := by assumption
        have h2 : y % 2 = 1 := by simp at h1; omega
        go_round
        case rel => exact ⟨k + 1, y / 2, c + 1, by omega, hy', by rw [h2] at hc'; exact hc', by omega, by omega, by go_num, by go_num, by go_num⟩
        case measure => simp [intOf]; omega
      · have h1 : (((y : Int) % 2) == 1) = false := by assumption
        have h2 : y % 2 = 0 := by simp at h1; omega
        go_round
        case rel => exact ⟨k + 1, y / 2, c, by omega, hy', by rw [h2] at hc'; exact hc', by omega, by omega, by go_num, by go_num, by go_num⟩
        case measure => simp [intOf]; omega
    · obtain rfl : k = 8 := by omega
      have hcc : c = pcs X 8 := hc
      clear hc hc' hy hy'
      subst hcc
      go_wp2
      go_ret
      exact ⟨rfl, rfl⟩

theorem ones8_any (x : Int) (w : World) (h0 : 0 ≤ x) (h1 : x < 256) :
    Calls Try.prog 7 #[.int .u8 x] w fun e w' => e = .returned (.int .i64 (ones x)) ∧ w' = w := by
  obtain ⟨X, rfl⟩ := Int.eq_ofNat_of_zero_le h0
  exact ones8_nat X w (by omega)

/-! ### The plain facts, no Go in sight -/
theorem kset_big (k : Int) (h : 8 ≤ k) : kset k = 0 := by
  unfold kset
  rw [show min k.toNat 8 = 8 from by omega]; rfl
theorem kset_lt (k : Int) : 0 ≤ kset k ∧ kset k < 256 := by unfold kset; omega
theorem ones_zero : ones 0 = 0 := by decide
theorem bits_zero_left (x : Int) (h0 : 0 ≤ x) (h1 : x < 256) : bits .and .u8 0 x = 0 := by
  rw [u8_and 0 x (by omega) (by omega) h0 h1]; simp
theorem and_lt (x y : Int) (h0 : 0 ≤ x) (h1 : x < 256) (h2 : 0 ≤ y) (h3 : y < 256) : 0 ≤ bits .and .u8 x y ∧ bits .and .u8 x y < 256 := by
  rw [u8_and x y h0 h1 h2 h3]
  have : x.toNat &&& y.toNat < 2 ^ 8 := Nat.and_lt_two_pow _ (by omega)
  omega
theorem or_lt (x y : Int) (h0 : 0 ≤ x) (h1 : x < 256) (h2 : 0 ≤ y) (h3 : y < 256) : 0 ≤ bits .or .u8 x y ∧ bits .or .u8 x y < 256 := by
  rw [u8_or x y h0 h1 h2 h3]
  have : x.toNat ||| y.toNat < 2 ^ 8 := Nat.or_lt_two_pow (by omega) (by omega)
  omega
theorem ones_kset_nat : ∀ j : Fin 8, ones (kset (j.val : Int)) = 1 := by decide
theorem kset_pos_nat : ∀ j : Fin 8, kset (j.val : Int) ≠ 0 := by decide
theorem meet_nat : ∀ j k : Fin 8, j ≠ k → bits .and .u8 (kset (j.val : Int)) (kset (k.val : Int)) = 0 := by decide +kernel
theorem meet_same_nat : ∀ j : Fin 8, bits .and .u8 (kset (j.val : Int)) (kset (j.val : Int)) = kset (j.val : Int) := by decide +kernel
theorem join_nat : ∀ j k : Fin 8, j ≠ k → ones (bits .or .u8 (kset (j.val : Int)) (kset (k.val : Int))) = 2 := by decide +kernel
theorem join_same_nat : ∀ j : Fin 8, ones (bits .or .u8 (kset (j.val : Int)) (kset (j.val : Int))) = 1 := by decide +kernel
theorem join_right_nat : ∀ j : Fin 8, ones (bits .or .u8 (kset (j.val : Int)) 0) = 1 := by decide +kernel
theorem join_left_nat : ∀ j : Fin 8, ones (bits .or .u8 0 (kset (j.val : Int))) = 1 := by decide +kernel
theorem meet_right_nat : ∀ j : Fin 8, bits .and .u8 (kset (j.val : Int)) 0 = 0 := by decide +kernel
theorem meet_left_nat : ∀ j : Fin 8, bits .and .u8 0 (kset (j.val : Int)) = 0 := by decide +kernel
theorem rise_nat : ∀ j k : Fin 8, j < k → kset (j.val : Int) < kset (k.val : Int) := by decide +kernel
/-- A number below 8, as one of eight. -/
theorem as_fin (j : Int) (h0 : 0 ≤ j) (h : j < 8) : ∃ i : Fin 8, (i.val : Int) = j := ⟨⟨j.toNat, by omega⟩, by simp; omega⟩
end Go.Proofs.Qxb6605867a
