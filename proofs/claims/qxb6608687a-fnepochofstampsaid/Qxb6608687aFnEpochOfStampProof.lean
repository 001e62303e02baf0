/-
  A proof of 'Rows.FnEpochOfStampSaid'. The frame (the row's step) is the guide's, at this function's number and types; the walk is mine.
-/
import Derived.Test.Qxb6608687aStart
import Derived.WalkKit
import Derived.ProofKit
import Derived.OpenShut
import Derived.ShutString
namespace Go.Proofs.Qxb6608687a.fnEpochOfStamp
open Go.ChangeShapes Go.WideShapes Go.ChangeAt Go.RowKit
open Go.ChangeMaps (open_string shut_string)
set_option linter.unusedVariables false      -- a walk need not use every 'w<i>' (that an integer argument fits its kind)

theorem own : ownKnob Try.prog.godebug = none := by kernel_rfl

/-! ### STEP 1: THE WALK: the two starts behind letters. -/
set_option maxHeartbeats 800000 in
theorem walk_low (s n : Int) (w : World) (s0 : 0 ≤ s) (s1 : s < 4503599627370496) (n0 : 0 ≤ n) (n1 : n ≤ 65519) (key : Hid ((decide (st n ≤ s) && decide (s < st (n + 1))) = (n == 0))) :
    Calls Try.prog 4 #[.int .u64 s, .int .u64 n] w fun e w' => e = .returned (.bool true) ∧ Grown w w' := by
  go_enter Try.func4, Try.ntmps4
  go_wp2_with fail
  refine (zzStart_any n _ (by omega) (by omega)).mono ?_
  rintro e w' ⟨lo, rfl, hlo, rfl⟩
  go_wp2_with fail
  refine (zzStart_any (n + 1) _ (by omega) (by omega)).mono ?_
  rintro e w' ⟨hi, rfl, hhi, rfl⟩
  have hk : Hid ((decide (lo ≤ s) && decide (s < hi)) = (n == 0)) := by rw [hlo.out, hhi.out]; exact key
  clear key hlo hhi
  go_wp2
  · go_ret
    exact ⟨ret_bool (way_in hk.out (by assumption)), Grown.refl _⟩
  · go_ret
    exact ⟨ret_bool (way_out hk.out (by assumption)), Grown.refl _⟩

set_option maxHeartbeats 800000 in
theorem walk_high (s n : Int) (w : World) (s0 : 0 ≤ s) (s1 : 4503599627370496 ≤ s) (s2 : s < 18446462598732840960) (n0 : 0 ≤ n) (n1 : n ≤ 65519) (key : Hid ((decide (st n ≤ s) && decide (s < st (n + 1))) = (n == 1 + (s - 4503599627370496) / 281474976710656))) :
    Calls Try.prog 4 #[.int .u64 s, .int .u64 n] w fun e w' => e = .returned (.bool true) ∧ Grown w w' := by
  go_enter Try.func4, Try.ntmps4
  go_wp2_with fail
  refine (zzStart_any n _ (by omega) (by omega)).mono ?_
  rintro e w' ⟨lo, rfl, hlo, rfl⟩
  go_wp2_with fail
  refine (zzStart_any (n + 1) _ (by omega) (by omega)).mono ?_
  rintro e w' ⟨hi, rfl, hhi, rfl⟩
  have hk : Hid ((decide (lo ≤ s) && decide (s < hi)) = (n == 1 + (s - 4503599627370496) / 281474976710656)) := by rw [hlo.out, hhi.out]; exact key
  clear key hlo hhi
  go_wp2
  · go_ret
    exact ⟨ret_bool (way_in hk.out (by assumption)), Grown.refl _⟩
  · go_ret
    exact ⟨ret_bool (way_out hk.out (by assumption)), Grown.refl _⟩

theorem walk_far (s n : Int) (w : World) (s2 : 18446462598732840960 ≤ s) (n1 : n ≤ 65519) :
    Calls Try.prog 4 #[.int .u64 s, .int .u64 n] w fun e w' => e = .returned (.bool true) ∧ Grown w w' := by
  go_enter Try.func4, Try.ntmps4
  go_wp2
  go_ret
  exact ⟨rfl, Grown.refl _⟩

theorem walk_great (s n : Int) (w : World) (n1 : 65519 < n) :
    Calls Try.prog 4 #[.int .u64 s, .int .u64 n] w fun e w' => e = .returned (.bool true) ∧ Grown w w' := by
  go_enter Try.func4, Try.ntmps4
  go_wp2
  go_ret
  exact ⟨rfl, Grown.refl _⟩

theorem walk (a0 : Int) (a1 : Int) (w0 : (Lit.int .u64 a0).wf = true) (w1 : (Lit.int .u64 a1).wf = true) (w : World) :
    Calls Try.prog 4 #[.int .u64 a0, .int .u64 a1] w fun e w' => e = .returned (.bool true) ∧ Grown w w' := by
  have p0 : 0 ≤ a0 := by simp [Lit.wf, IntKind.min, IntKind.max, IntKind.signed, IntKind.bits] at w0; omega
  have q0 : 0 ≤ a1 := by simp [Lit.wf, IntKind.min, IntKind.max, IntKind.signed, IntKind.bits] at w1; omega
  by_cases hn : 65519 < a1
  · exact walk_great a0 a1 w hn
  by_cases hf : 18446462598732840960 ≤ a0
  · exact walk_far a0 a1 w hf (by omega)
  by_cases hl : a0 < 4503599627370496
  · exact walk_low a0 a1 w p0 hl q0 (by omega) (key_low a1 a0 q0 p0 hl)
  · exact walk_high a0 a1 w p0 (by omega) (by omega) q0 (by omega) (key_high a1 a0 q0 (by omega))

/-! ### THE ROW's STEP: WRITTEN OUT: LEAVE IT -/
set_option maxRecDepth 100000 in
theorem lifted (os : Os) (started : os.Started) (H : Type) (enc : TypeId × Value → H) :
    ReturnsInHanded {} Try.checked os 4 .any (Rows.fnEpochOfStampSpec.pre6 enc Try.prog Try.f4 Rows.fnEpochOfStampRow.domain false) (Rows.fnEpochOfStampSpec.post enc Try.prog Try.f4 false true false false) := by
  refine returnsInHanded_of_change (C := Try.checked) own started (by kernel_rfl) Try.func4
    (ChangeSpec.witness6 (enc := enc) (C := Try.checked) false ⟨#[], #[.int .u64 0, .int .u64 0], []⟩ 8 (by kernel_rfl) (by kernel_rfl) (by kernel_rfl) (by kernel_rfl)) ?_
  intro W base args ds gs before hval0 hW hcnd _
  have hval : ∀ (j : Nat) t v, Try.f4.params[j]? = some t → args[j]? = some v → Value.okWide Try.prog W .any base t v := hval0
  have hW' := hW
  obtain ⟨p, q, hA0, hV, rfl, hfz, hnd⟩ := hW
  have hA : DataW.TrodAll enc Try.prog W 0 (fun _ => true) true Try.f4.params.toList args.toList ds p := hA0
  rw [Try.params4] at hA hval
  obtain ⟨v0, vs0, d0, ds0, p0, q0, hargs, rfl, rfl, h0, r0⟩ := trodAll_cons hA
  obtain ⟨v1, vs1, d1, ds1, p1, q1, rfl, rfl, rfl, h1, r1⟩ := trodAll_cons r0
  obtain ⟨rfl, rfl, rfl⟩ := trodAll_nil r1
  obtain rfl : args = #[v0, v1] := by cases args; simp_all
  obtain ⟨rfl, rfl⟩ := trodVars_none hV
  obtain ⟨a0, rfl, rfl, rfl, w0⟩ := open_int Try.underlying22 (hval 0 22 v0 rfl rfl) h0
  obtain ⟨a1, rfl, rfl, rfl, w1⟩ := open_int Try.underlying22 (hval 1 22 v1 rfl rfl) h1
  clear hA0 hval0
  simp only [List.append_nil] at hW'
  refine (walk a0 a1 w0 w1 W).mono fun e W' ⟨he, hg⟩ => ?_
  subst he
  exact ⟨_, rfl, post_of_same (pa := []) (pv := []) hW' (fun _ _ _ => (trodAll_cons_mk (shut_bool Try.underlying4 _) trodAll_mk0)) (fun sp _ => (trodAll_cons_mk (shut_int Try.underlying22 w0) (trodAll_cons_mk (shut_int Try.underlying22 w1) trodAll_mk0))) (fun _ _ => rfl) rfl
    (hg.frame _) hg.2.1 (ok_one (by kernel_rfl) rfl (okWide_bool_mk Try.underlying4 _))⟩

theorem over : Rows.fnEpochOfStampRow.holds Try.pinned (OpenSpec.ofChange Rows.fnEpochOfStampSpec) :=
  OpenClaim.holds_of_wide 4 Try.f4 rfl rfl rfl rfl rfl rfl rfl ⟨rfl, rfl, rfl, rfl, rfl⟩ rfl rfl rfl rfl rfl (by kernel_rfl) Try.func4 (by kernel_rfl)
    (of_decide_eq_true (by kernel_rfl)) (by unfold Func.isWrapper; first | (rw [if_pos (by decide +kernel)]; kernel_rfl) | (rw [if_neg (by decide +kernel)]; exact ⟨rfl, rfl⟩))
    (fun os started H enc _ => lifted os started H enc)

/-- ████ THE STATEMENT ████ -/
theorem proved : Rows.FnEpochOfStampSaid :=
  over
end Go.Proofs.Qxb6608687a.fnEpochOfStamp

namespace Go.Proofs.Qxb6608687a
theorem fnEpochOfStamp_holds : Rows.FnEpochOfStampSaid := fnEpochOfStamp.proved
end Go.Proofs.Qxb6608687a
