import Derived.Test.Qxb6605867aBits
namespace Go.Proofs.Qxb6605867a
open Go.RowKit

/-! ### The callees -/
/-- The call hands back a bool, whichever. -/
def SomeBool (e : Ending) : Prop := ∃ b, e = .returned (.bool b)
theorem bytes_any (a0 : ByteArray) (a1 : Int) (a2 : Bool) (a3 : ByteArray) (a4 : ByteArray) (a5 : Bool) (a6 : ByteArray) (a7 : ByteArray) (a8 : Int) (w : World) (w0 : a0.size ≤ maxLen) (w3 : a3.size ≤ maxLen) (w4 : a4.size ≤ maxLen) (w6 : a6.size ≤ maxLen) (w7 : a7.size ≤ maxLen) :
    Calls Try.prog 8 #[.string a0, .int .u8 a1, .bool a2, .string a3, .string a4, .bool a5, .string a6, .string a7, .int .u8 a8] w fun e w' => SomeBool e ∧ w' = w := by
  unfold maxLen at *
  go_enter Try.func8, Try.ntmps8
  go_wp2
  all_goals (go_ret; exact ⟨⟨_, rfl⟩, rfl⟩)

theorem tooBig_any (a0 a1 a2 a3 a4 : ByteArray) (w : World) (w0 : a0.size ≤ maxLen) (w1 : a1.size ≤ maxLen) (w2 : a2.size ≤ maxLen) (w3 : a3.size ≤ maxLen) (w4 : a4.size ≤ maxLen) :
    Calls Try.prog 9 #[.string a0, .string a1, .string a2, .string a3, .string a4] w fun e w' => SomeBool e ∧ w' = w := by
  unfold maxLen at *
  go_enter Try.func9, Try.ntmps9
  go_wp2
  all_goals (go_ret; exact ⟨⟨_, rfl⟩, rfl⟩)

/-- What a parameter of type t admits. -/
def pset (t : Int) : Int := if t = 0 then 255 else kset t
/-- (Parameter).kinds: the receiver lies in a new block. -/
theorem kinds_any (c0 c2 c3 c4 c5 c6 c7 c8 c9 c10 c11 : Value) (t : Int) (w : World) (t0 : 0 ≤ t) :
    Calls Try.prog 16 #[.agg #[c0, .int .u8 t, c2, c3, c4, c5, c6, c7, c8, c9, c10, c11]] w fun e w' => e = .returned (.int .u8 (pset t)) ∧ w' = w.alloc (.cells #[c0, .int .u8 t, c2, c3, c4, c5, c6, c7, c8, c9, c10, c11] 36) := by
  by_cases h : t = 0
  · subst h
    rw [show pset 0 = 255 from rfl]
    go_enter Try.func16, Try.ntmps16
    go_wp2
    go_ret
    exact ⟨rfl, rfl⟩
  · have h' : (t == 0) = false := by simpa using h
    rw [show pset t = kset t from if_neg h]
    clear h
    go_enter Try.func16, Try.ntmps16
    go_wp2_with (go_at_call 15; refine (kindSetOf_any _ _ t0).mono ?_; rintro e w' ⟨rfl, rfl⟩)
    go_ret
    exact ⟨rfl, rfl⟩

/-- ZZparameterKinds. -/
theorem zzKinds_any (c0 c2 c3 c4 c5 c6 c7 c8 c9 c10 c11 : Value) (t : Int) (w : World) (t0 : 0 ≤ t) :
    Calls Try.prog 10 #[.agg #[c0, .int .u8 t, c2, c3, c4, c5, c6, c7, c8, c9, c10, c11]] w fun e w' => e = .returned (.int .u8 (pset t)) ∧ ∃ x y : Array Value, w' = (w.alloc (.cells x 36)).alloc (.cells y 36) := by
  go_enter Try.func10, Try.ntmps10
  go_wp2_with fail
  refine (kinds_any _ _ _ _ _ _ _ _ _ _ _ t _ t0).mono ?_
  rintro e w' ⟨rfl, rfl⟩
  go_wp2
  go_ret
  exact ⟨rfl, _, _, rfl⟩

/-! ### The plain facts -/
theorem kbit_nat : ∀ i j : Fin 8, (bits .and .u8 (kset (i.val : Int) / 2 ^ ((j.val : Int)).toNat) 1 == 1) = ((i.val : Int) == (j.val : Int)) := by decide +kernel
theorem kbit (t j : Int) (t0 : 0 ≤ t) (j0 : 0 ≤ j) (j1 : j < 8) : (bits .and .u8 (kset t / 2 ^ j.toNat) 1 == 1) = (t == j) := by
  obtain ⟨k, rfl⟩ := as_fin j j0 j1
  by_cases h : t < 8
  · obtain ⟨i, rfl⟩ := as_fin t t0 h
    exact kbit_nat i k
  · rw [kset_big t (by omega), Int.zero_ediv, show (t == (k.val : Int)) = false from by simp; omega]
    decide +kernel
theorem kbit_all_nat : ∀ j : Fin 8, (bits .and .u8 (255 / 2 ^ ((j.val : Int)).toNat) 1 == 1) = true := by decide +kernel
theorem kbit_all (j : Int) (j0 : 0 ≤ j) (j1 : j < 8) : (bits .and .u8 (255 / 2 ^ j.toNat) 1 == 1) = true := by
  obtain ⟨k, rfl⟩ := as_fin j j0 j1
  exact kbit_all_nat k
end Go.Proofs.Qxb6605867a
