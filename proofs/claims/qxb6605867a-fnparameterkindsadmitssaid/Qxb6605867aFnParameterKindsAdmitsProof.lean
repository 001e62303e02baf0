/-
  A proof of 'Rows.FnParameterKindsAdmitsSaid'. The frame (the row's step) is the guide's, at this function's number and types; the walk is mine.
-/
import Derived.Test.Qxb6605867aParams
import Derived.WalkKit
import Derived.ProofKit
import Derived.OpenShut
import Derived.ShutString
namespace Go.Proofs.Qxb6605867a.fnParameterKindsAdmits
open Go.ChangeShapes Go.WideShapes Go.ChangeAt Go.RowKit
open Go.ChangeMaps (open_string shut_string)
set_option linter.unusedVariables false      -- a walk need not use every 'w<i>' (that an integer argument fits its kind)

theorem own : ownKnob Try.prog.godebug = none := by kernel_rfl

/-! ### STEP 1: THE WALK: five cases, each a theorem of its own; each callee by its contract. -/
set_option maxHeartbeats 800000 in
set_option maxRecDepth 100000 in
theorem walk_unset_low (a0 : ByteArray) (a2 : Bool) (a3 : ByteArray) (a4 : ByteArray) (a5 : Bool) (a6 : ByteArray) (a7 : ByteArray) (a8 : Int) (w0 : a0.size ≤ maxLen) (w3 : a3.size ≤ maxLen) (w4 : a4.size ≤ maxLen) (w6 : a6.size ≤ maxLen) (w7 : a7.size ≤ maxLen) (w : World) (t0 : (0 : Int) ≤ 0) (hp : pset 0 = 255) (hj : a8 < 8) (hb : (bits .and .u8 (255 / 2 ^ a8.toNat) 1 == 1) = true) (j0 : 0 ≤ a8) :
    Calls Try.prog 4 #[.string a0, .int .u8 0, .bool a2, .string a3, .string a4, .bool a5, .string a6, .string a7, .int .u8 a8] w fun e w' => e = .returned (.bool true) ∧ Grown w w' := by
  go_enter Try.func4, Try.ntmps4
  go_wp2_with fail
  refine (bytes_any _ _ _ _ _ _ _ _ _ _ w0 w3 w4 w6 w7).mono ?_
  rintro e w' ⟨⟨b, rfl⟩, rfl⟩
  cases b
  · go_wp2
    go_ret
    exact ⟨rfl, Grown.refl _⟩
  go_wp2_with fail
  refine (tooBig_any _ _ _ _ _ _ w0 w3 w4 w6 w7).mono ?_
  rintro e w' ⟨⟨b, rfl⟩, rfl⟩
  cases b
  · cases a5
    · skip
      go_wp2_with fail
      refine (zzKinds_any _ _ _ _ _ _ _ _ _ _ _ _ _ t0).mono ?_
      rintro e w' ⟨rfl, x, y, rfl⟩
      go_wp2
      go_ret
      exact ⟨rfl, by repeat (first | exact Grown.refl _ | apply Grown.drew | apply Grown.alloc)⟩
    · skip
      go_wp2_with fail
      refine (zzKinds_any _ _ _ _ _ _ _ _ _ _ _ _ _ t0).mono ?_
      rintro e w' ⟨rfl, x, y, rfl⟩
      go_wp2
      go_ret
      exact ⟨rfl, by repeat (first | exact Grown.refl _ | apply Grown.drew | apply Grown.alloc)⟩
  · go_wp2
    go_ret
    exact ⟨rfl, Grown.refl _⟩

set_option maxHeartbeats 800000 in
set_option maxRecDepth 100000 in
theorem walk_unset_high (a0 : ByteArray) (a2 : Bool) (a3 : ByteArray) (a4 : ByteArray) (a5 : Bool) (a6 : ByteArray) (a7 : ByteArray) (a8 : Int) (w0 : a0.size ≤ maxLen) (w3 : a3.size ≤ maxLen) (w4 : a4.size ≤ maxLen) (w6 : a6.size ≤ maxLen) (w7 : a7.size ≤ maxLen) (w : World) (t0 : (0 : Int) ≤ 0) (hp : pset 0 = 255) (hj : ¬ a8 < 8) (j0 : 0 ≤ a8) :
    Calls Try.prog 4 #[.string a0, .int .u8 0, .bool a2, .string a3, .string a4, .bool a5, .string a6, .string a7, .int .u8 a8] w fun e w' => e = .returned (.bool true) ∧ Grown w w' := by
  go_enter Try.func4, Try.ntmps4
  go_wp2_with fail
  refine (bytes_any _ _ _ _ _ _ _ _ _ _ w0 w3 w4 w6 w7).mono ?_
  rintro e w' ⟨⟨b, rfl⟩, rfl⟩
  cases b
  · go_wp2
    go_ret
    exact ⟨rfl, Grown.refl _⟩
  go_wp2_with fail
  refine (tooBig_any _ _ _ _ _ _ w0 w3 w4 w6 w7).mono ?_
  rintro e w' ⟨⟨b, rfl⟩, rfl⟩
  cases b
  · cases a5
    · skip
      go_wp2_with fail
      refine (zzKinds_any _ _ _ _ _ _ _ _ _ _ _ _ _ t0).mono ?_
      rintro e w' ⟨rfl, x, y, rfl⟩
      go_wp2
      go_ret
      exact ⟨rfl, by repeat (first | exact Grown.refl _ | apply Grown.drew | apply Grown.alloc)⟩
    · skip
      go_wp2_with fail
      refine (zzKinds_any _ _ _ _ _ _ _ _ _ _ _ _ _ t0).mono ?_
      rintro e w' ⟨rfl, x, y, rfl⟩
      go_wp2
      go_ret
      exact ⟨rfl, by repeat (first | exact Grown.refl _ | apply Grown.drew | apply Grown.alloc)⟩
  · go_wp2
    go_ret
    exact ⟨rfl, Grown.refl _⟩

set_option maxHeartbeats 800000 in
set_option maxRecDepth 100000 in
theorem walk_same_low (a0 : ByteArray) (a2 : Bool) (a3 : ByteArray) (a4 : ByteArray) (a5 : Bool) (a6 : ByteArray) (a7 : ByteArray) (a8 : Int) (w0 : a0.size ≤ maxLen) (w3 : a3.size ≤ maxLen) (w4 : a4.size ≤ maxLen) (w6 : a6.size ≤ maxLen) (w7 : a7.size ≤ maxLen) (w : World) (t0 : 0 ≤ a8) (hp : pset a8 = kset a8) (hj : a8 < 8) (hz : (a8 == 0) = false) (hz2 : (a8 != 0) = true) (hb : (bits .and .u8 (kset a8 / 2 ^ a8.toNat) 1 == 1) = true) :
    Calls Try.prog 4 #[.string a0, .int .u8 a8, .bool a2, .string a3, .string a4, .bool a5, .string a6, .string a7, .int .u8 a8] w fun e w' => e = .returned (.bool true) ∧ Grown w w' := by
  go_enter Try.func4, Try.ntmps4
  go_wp2_with fail
  refine (bytes_any _ _ _ _ _ _ _ _ _ _ w0 w3 w4 w6 w7).mono ?_
  rintro e w' ⟨⟨b, rfl⟩, rfl⟩
  cases b
  · go_wp2
    go_ret
    exact ⟨rfl, Grown.refl _⟩
  go_wp2_with fail
  refine (tooBig_any _ _ _ _ _ _ w0 w3 w4 w6 w7).mono ?_
  rintro e w' ⟨⟨b, rfl⟩, rfl⟩
  cases b
  · cases a5
    · skip
      go_wp2_with fail
      refine (zzKinds_any _ _ _ _ _ _ _ _ _ _ _ _ _ t0).mono ?_
      rintro e w' ⟨rfl, x, y, rfl⟩
      go_wp2_with fail
      refine (zzKindSetOf_any _ _ t0).mono ?_
      rintro e w' ⟨rfl, rfl⟩
      go_wp2
      go_ret
      exact ⟨rfl, by repeat (first | exact Grown.refl _ | apply Grown.drew | apply Grown.alloc)⟩
    · skip
      go_wp2_with fail
      refine (zzKinds_any _ _ _ _ _ _ _ _ _ _ _ _ _ t0).mono ?_
      rintro e w' ⟨rfl, x, y, rfl⟩
      go_wp2_with fail
      refine (zzKindSetOf_any _ _ t0).mono ?_
      rintro e w' ⟨rfl, rfl⟩
      go_wp2
      go_ret
      exact ⟨rfl, by repeat (first | exact Grown.refl _ | apply Grown.drew | apply Grown.alloc)⟩
  · go_wp2
    go_ret
    exact ⟨rfl, Grown.refl _⟩

set_option maxHeartbeats 800000 in
set_option maxRecDepth 100000 in
theorem walk_other_low (a0 : ByteArray) (a1 : Int) (a2 : Bool) (a3 : ByteArray) (a4 : ByteArray) (a5 : Bool) (a6 : ByteArray) (a7 : ByteArray) (a8 : Int) (w0 : a0.size ≤ maxLen) (w3 : a3.size ≤ maxLen) (w4 : a4.size ≤ maxLen) (w6 : a6.size ≤ maxLen) (w7 : a7.size ≤ maxLen) (w : World) (t0 : 0 ≤ a1) (j0 : 0 ≤ a8) (hp : pset a1 = kset a1) (hj : a8 < 8) (hz : (a1 == 0) = false) (hz2 : (a1 != 0) = true) (hn : (a1 == a8) = false) (hb : (bits .and .u8 (kset a1 / 2 ^ a8.toNat) 1 == 1) = false) :
    Calls Try.prog 4 #[.string a0, .int .u8 a1, .bool a2, .string a3, .string a4, .bool a5, .string a6, .string a7, .int .u8 a8] w fun e w' => e = .returned (.bool true) ∧ Grown w w' := by
  go_enter Try.func4, Try.ntmps4
  go_wp2_with fail
  refine (bytes_any _ _ _ _ _ _ _ _ _ _ w0 w3 w4 w6 w7).mono ?_
  rintro e w' ⟨⟨b, rfl⟩, rfl⟩
  cases b
  · go_wp2
    go_ret
    exact ⟨rfl, Grown.refl _⟩
  go_wp2_with fail
  refine (tooBig_any _ _ _ _ _ _ w0 w3 w4 w6 w7).mono ?_
  rintro e w' ⟨⟨b, rfl⟩, rfl⟩
  cases b
  · cases a5
    · skip
      go_wp2_with fail
      refine (zzKinds_any _ _ _ _ _ _ _ _ _ _ _ _ _ t0).mono ?_
      rintro e w' ⟨rfl, x, y, rfl⟩
      go_wp2_with fail
      refine (zzKindSetOf_any _ _ t0).mono ?_
      rintro e w' ⟨rfl, rfl⟩
      go_wp2
      go_ret
      exact ⟨rfl, by repeat (first | exact Grown.refl _ | apply Grown.drew | apply Grown.alloc)⟩
    · skip
      go_wp2_with fail
      refine (zzKinds_any _ _ _ _ _ _ _ _ _ _ _ _ _ t0).mono ?_
      rintro e w' ⟨rfl, x, y, rfl⟩
      go_wp2_with fail
      refine (zzKindSetOf_any _ _ t0).mono ?_
      rintro e w' ⟨rfl, rfl⟩
      go_wp2
      go_ret
      exact ⟨rfl, by repeat (first | exact Grown.refl _ | apply Grown.drew | apply Grown.alloc)⟩
  · go_wp2
    go_ret
    exact ⟨rfl, Grown.refl _⟩

set_option maxHeartbeats 800000 in
set_option maxRecDepth 100000 in
theorem walk_high (a0 : ByteArray) (a1 : Int) (a2 : Bool) (a3 : ByteArray) (a4 : ByteArray) (a5 : Bool) (a6 : ByteArray) (a7 : ByteArray) (a8 : Int) (w0 : a0.size ≤ maxLen) (w3 : a3.size ≤ maxLen) (w4 : a4.size ≤ maxLen) (w6 : a6.size ≤ maxLen) (w7 : a7.size ≤ maxLen) (w : World) (t0 : 0 ≤ a1) (j0 : 0 ≤ a8) (hp : pset a1 = kset a1) (hj : ¬ a8 < 8) (hz : (a1 == 0) = false) (hz2 : (a1 != 0) = true) :
    Calls Try.prog 4 #[.string a0, .int .u8 a1, .bool a2, .string a3, .string a4, .bool a5, .string a6, .string a7, .int .u8 a8] w fun e w' => e = .returned (.bool true) ∧ Grown w w' := by
  go_enter Try.func4, Try.ntmps4
  go_wp2_with fail
  refine (bytes_any _ _ _ _ _ _ _ _ _ _ w0 w3 w4 w6 w7).mono ?_
  rintro e w' ⟨⟨b, rfl⟩, rfl⟩
  cases b
  · go_wp2
    go_ret
    exact ⟨rfl, Grown.refl _⟩
  go_wp2_with fail
  refine (tooBig_any _ _ _ _ _ _ w0 w3 w4 w6 w7).mono ?_
  rintro e w' ⟨⟨b, rfl⟩, rfl⟩
  cases b
  · cases a5
    · skip
      go_wp2_with fail
      refine (zzKinds_any _ _ _ _ _ _ _ _ _ _ _ _ _ t0).mono ?_
      rintro e w' ⟨rfl, x, y, rfl⟩
      go_wp2_with fail
      refine (zzKindSetOf_any _ _ t0).mono ?_
      rintro e w' ⟨rfl, rfl⟩
      go_wp2
      go_ret
      exact ⟨rfl, by repeat (first | exact Grown.refl _ | apply Grown.drew | apply Grown.alloc)⟩
    · skip
      go_wp2_with fail
      refine (zzKinds_any _ _ _ _ _ _ _ _ _ _ _ _ _ t0).mono ?_
      rintro e w' ⟨rfl, x, y, rfl⟩
      go_wp2_with fail
      refine (zzKindSetOf_any _ _ t0).mono ?_
      rintro e w' ⟨rfl, rfl⟩
      go_wp2
      go_ret
      exact ⟨rfl, by repeat (first | exact Grown.refl _ | apply Grown.drew | apply Grown.alloc)⟩
  · go_wp2
    go_ret
    exact ⟨rfl, Grown.refl _⟩

theorem walk (a0 : ByteArray) (a1 : Int) (a2 : Bool) (a3 : ByteArray) (a4 : ByteArray) (a5 : Bool) (a6 : ByteArray) (a7 : ByteArray) (a8 : Int) (w0 : a0.size ≤ maxLen) (w1 : (Lit.int .u8 a1).wf = true) (w3 : a3.size ≤ maxLen) (w4 : a4.size ≤ maxLen) (w6 : a6.size ≤ maxLen) (w7 : a7.size ≤ maxLen) (w8 : (Lit.int .u8 a8).wf = true) (w : World) :
    Calls Try.prog 4 #[.string a0, .int .u8 a1, .bool a2, .string a3, .string a4, .bool a5, .string a6, .string a7, .int .u8 a8] w fun e w' => e = .returned (.bool true) ∧ Grown w w' := by
  simp [Lit.wf, IntKind.min, IntKind.max, IntKind.signed, IntKind.bits] at w1 w8
  obtain ⟨t0, t1⟩ := w1
  obtain ⟨j0, j1⟩ := w8
  by_cases hz : a1 = 0
  · subst hz
    by_cases hj : a8 < 8
    · exact walk_unset_low a0 a2 a3 a4 a5 a6 a7 a8 w0 w3 w4 w6 w7 w (by omega) rfl hj (kbit_all a8 j0 hj) j0
    · exact walk_unset_high a0 a2 a3 a4 a5 a6 a7 a8 w0 w3 w4 w6 w7 w (by omega) rfl hj j0
  · have hp : pset a1 = kset a1 := if_neg hz
    have z1 : (a1 == 0) = false := by simpa using hz
    have z2 : (a1 != 0) = true := by simpa using hz
    by_cases hj : a8 < 8
    · have hb := kbit a1 a8 t0 j0 hj
      by_cases he : a1 = a8
      · subst he
        exact walk_same_low a0 a2 a3 a4 a5 a6 a7 a1 w0 w3 w4 w6 w7 w t0 hp hj z1 z2 (by rw [hb]; simp)
      · have hn : (a1 == a8) = false := by simpa using he
        exact walk_other_low a0 a1 a2 a3 a4 a5 a6 a7 a8 w0 w3 w4 w6 w7 w t0 j0 hp hj z1 z2 hn (by rw [hb]; exact hn)
    · exact walk_high a0 a1 a2 a3 a4 a5 a6 a7 a8 w0 w3 w4 w6 w7 w t0 j0 hp hj z1 z2

/-! ### THE ROW's STEP: WRITTEN OUT: LEAVE IT -/
set_option maxRecDepth 100000 in
theorem lifted (os : Os) (started : os.Started) (H : Type) (enc : TypeId × Value → H) :
    ReturnsInHanded {} Try.checked os 4 .any (Rows.fnParameterKindsAdmitsSpec.pre6 enc Try.prog Try.f4 Rows.fnParameterKindsAdmitsRow.domain false) (Rows.fnParameterKindsAdmitsSpec.post enc Try.prog Try.f4 false true false false) := by
  refine returnsInHanded_of_change (C := Try.checked) own started (by kernel_rfl) Try.func4
    (ChangeSpec.witness6 (enc := enc) (C := Try.checked) false ⟨#[], #[.string ByteArray.empty, .int .u8 0, .bool false, .string ByteArray.empty, .string ByteArray.empty, .bool false, .string ByteArray.empty, .string ByteArray.empty, .int .u8 0], []⟩ 8 (by kernel_rfl) (by kernel_rfl) (by kernel_rfl) (by kernel_rfl)) ?_
  intro W base args ds gs before hval0 hW hcnd _
  have hval : ∀ (j : Nat) t v, Try.f4.params[j]? = some t → args[j]? = some v → Value.okWide Try.prog W .any base t v := hval0
  have hW' := hW
  obtain ⟨p, q, hA0, hV, rfl, hfz, hnd⟩ := hW
  have hA : DataW.TrodAll enc Try.prog W 0 (fun _ => true) true Try.f4.params.toList args.toList ds p := hA0
  rw [Try.params4] at hA hval
  obtain ⟨v0, vs0, d0, ds0, p0, q0, hargs, rfl, rfl, h0, r0⟩ := trodAll_cons hA
  obtain ⟨v1, vs1, d1, ds1, p1, q1, rfl, rfl, rfl, h1, r1⟩ := trodAll_cons r0
  obtain ⟨v2, vs2, d2, ds2, p2, q2, rfl, rfl, rfl, h2, r2⟩ := trodAll_cons r1
  obtain ⟨v3, vs3, d3, ds3, p3, q3, rfl, rfl, rfl, h3, r3⟩ := trodAll_cons r2
  obtain ⟨v4, vs4, d4, ds4, p4, q4, rfl, rfl, rfl, h4, r4⟩ := trodAll_cons r3
  obtain ⟨v5, vs5, d5, ds5, p5, q5, rfl, rfl, rfl, h5, r5⟩ := trodAll_cons r4
  obtain ⟨v6, vs6, d6, ds6, p6, q6, rfl, rfl, rfl, h6, r6⟩ := trodAll_cons r5
  obtain ⟨v7, vs7, d7, ds7, p7, q7, rfl, rfl, rfl, h7, r7⟩ := trodAll_cons r6
  obtain ⟨v8, vs8, d8, ds8, p8, q8, rfl, rfl, rfl, h8, r8⟩ := trodAll_cons r7
  obtain ⟨rfl, rfl, rfl⟩ := trodAll_nil r8
  obtain rfl : args = #[v0, v1, v2, v3, v4, v5, v6, v7, v8] := by cases args; simp_all
  obtain ⟨rfl, rfl⟩ := trodVars_none hV
  obtain ⟨a0, rfl, rfl, rfl, w0⟩ := open_string Try.underlying9 (hval 0 9 v0 rfl rfl) h0
  obtain ⟨a1, rfl, rfl, rfl, w1⟩ := open_int Try.underlying5 (hval 1 5 v1 rfl rfl) h1
  obtain ⟨a2, rfl, rfl, rfl⟩ := open_bool Try.underlying4 (hval 2 4 v2 rfl rfl) h2
  obtain ⟨a3, rfl, rfl, rfl, w3⟩ := open_string Try.underlying9 (hval 3 9 v3 rfl rfl) h3
  obtain ⟨a4, rfl, rfl, rfl, w4⟩ := open_string Try.underlying9 (hval 4 9 v4 rfl rfl) h4
  obtain ⟨a5, rfl, rfl, rfl⟩ := open_bool Try.underlying4 (hval 5 4 v5 rfl rfl) h5
  obtain ⟨a6, rfl, rfl, rfl, w6⟩ := open_string Try.underlying9 (hval 6 9 v6 rfl rfl) h6
  obtain ⟨a7, rfl, rfl, rfl, w7⟩ := open_string Try.underlying9 (hval 7 9 v7 rfl rfl) h7
  obtain ⟨a8, rfl, rfl, rfl, w8⟩ := open_int Try.underlying5 (hval 8 5 v8 rfl rfl) h8
  clear hA0 hval0
  simp only [List.append_nil] at hW'
  refine (walk a0 a1 a2 a3 a4 a5 a6 a7 a8 w0 w1 w3 w4 w6 w7 w8 W).mono fun e W' ⟨he, hg⟩ => ?_
  subst he
  exact ⟨_, rfl, post_of_same (pa := []) (pv := []) hW' (fun _ _ _ => (trodAll_cons_mk (shut_bool Try.underlying4 _) trodAll_mk0)) (fun sp _ => (trodAll_cons_mk (shut_string Try.underlying9 w0) (trodAll_cons_mk (shut_int Try.underlying5 w1) (trodAll_cons_mk (shut_bool Try.underlying4 _) (trodAll_cons_mk (shut_string Try.underlying9 w3) (trodAll_cons_mk (shut_string Try.underlying9 w4) (trodAll_cons_mk (shut_bool Try.underlying4 _) (trodAll_cons_mk (shut_string Try.underlying9 w6) (trodAll_cons_mk (shut_string Try.underlying9 w7) (trodAll_cons_mk (shut_int Try.underlying5 w8) trodAll_mk0)))))))))) (fun _ _ => rfl) rfl
    (hg.frame _) hg.2.1 (ok_one (by kernel_rfl) rfl (okWide_bool_mk Try.underlying4 _))⟩

theorem over : Rows.fnParameterKindsAdmitsRow.holds Try.pinned (OpenSpec.ofChange Rows.fnParameterKindsAdmitsSpec) :=
  OpenClaim.holds_of_wide 4 Try.f4 rfl rfl rfl rfl rfl rfl rfl ⟨rfl, rfl, rfl, rfl, rfl⟩ rfl rfl rfl rfl rfl (by kernel_rfl) Try.func4 (by kernel_rfl)
    (of_decide_eq_true (by kernel_rfl)) (by unfold Func.isWrapper; first | (rw [if_pos (by decide +kernel)]; kernel_rfl) | (rw [if_neg (by decide +kernel)]; exact ⟨rfl, rfl⟩))
    (fun os started H enc _ => lifted os started H enc)

/-- ████ THE STATEMENT ████ -/
theorem proved : Rows.FnParameterKindsAdmitsSaid :=
  over
end Go.Proofs.Qxb6605867a.fnParameterKindsAdmits

namespace Go.Proofs.Qxb6605867a
theorem fnParameterKindsAdmits_holds : Rows.FnParameterKindsAdmitsSaid := fnParameterKindsAdmits.proved
end Go.Proofs.Qxb6605867a
