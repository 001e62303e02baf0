/-
  A proof of 'Rows.FnTagCubeCountIgnoresTagCountsSubsetsSaid'. The frame (the row's step) is the guide's, at this function's number and types; the walk is mine.
-/
import Derived.Test.Qxb6608546aOnes
import Derived.WalkKit
import Derived.ProofKit
import Derived.OpenShut
import Derived.ShutString
namespace Go.Proofs.Qxb6608546a.fnTagCubeCountIgnoresTagCountsSubsets
open Go.ChangeShapes Go.WideShapes Go.ChangeAt Go.RowKit
open Go.ChangeMaps (open_string shut_string)
set_option linter.unusedVariables false      -- a walk need not use every 'w<i>' (that an integer argument fits its kind)

theorem own : ownKnob Try.prog.godebug = none := by kernel_rfl

/-! ### STEP 1: THE WALK -/
open Plain
set_option maxHeartbeats 800000 in
set_option maxRecDepth 100000 in
theorem walk_in (A B F : Nat) (w : World) (hF : Hid (F < 65536))
    (b0 : bits .and .u16 (A : Int) (F : Int) = 0) (b1 : bits .and .u16 (B : Int) (F : Int) = 0) :
    Calls Try.prog 4 #[.int .u16 A, .int .u16 B, .int .u16 F] w fun e w' => e = .returned (.bool true) ∧ Grown w w' := by
  go_enter Try.func4, Try.ntmps4
  go_wp2_with fail
  refine (submasks_any F _ hF.out).mono ?_
  rintro e w' ⟨N, rfl, e2, hN, rfl⟩
  go_wp2_with fail
  refine (zzCount_any _ F _ hF.out).mono ?_
  rintro e w1 ⟨c, rfl, hc, g1⟩
  go_wp2_with fail
  refine (zzCount_any _ F _ hF.out).mono ?_
  rintro e w2 ⟨c1, rfl, hc1, g2⟩
  have t1 : (c == c1) = true := by rw [hc1.out, hc.out]; simp
  have t2 : (c == IntKind.u16.wrap (N : Int)) = true := by rw [IntKind.wrap_u16, ← e2.out, hc.out]; simp
  clear hc hc1 e2
  go_wp2
  go_ret
  exact ⟨rfl, grown_trans g1 g2⟩

set_option maxHeartbeats 800000 in
set_option maxRecDepth 100000 in
theorem walk_out (A B F Z : Nat) (w : World) (b0 : bits .and .u16 (A : Int) (F : Int) = (Z : Int)) (hz : ((Z : Int) != 0) = true) :
    Calls Try.prog 4 #[.int .u16 A, .int .u16 B, .int .u16 F] w fun e w' => e = .returned (.bool true) ∧ Grown w w' := by
  go_enter Try.func4, Try.ntmps4
  go_wp2
  go_ret
  exact ⟨rfl, Grown.refl _⟩

set_option maxHeartbeats 800000 in
set_option maxRecDepth 100000 in
theorem walk_out2 (A B F Z : Nat) (w : World) (b0 : bits .and .u16 (A : Int) (F : Int) = 0) (b1 : bits .and .u16 (B : Int) (F : Int) = (Z : Int)) (hz : ((Z : Int) != 0) = true) :
    Calls Try.prog 4 #[.int .u16 A, .int .u16 B, .int .u16 F] w fun e w' => e = .returned (.bool true) ∧ Grown w w' := by
  go_enter Try.func4, Try.ntmps4
  go_wp2
  go_ret
  exact ⟨rfl, Grown.refl _⟩

theorem walk (a0 : Int) (a1 : Int) (a2 : Int) (w0 : (Lit.int .u16 a0).wf = true) (w1 : (Lit.int .u16 a1).wf = true) (w2 : (Lit.int .u16 a2).wf = true) (w : World) :
    Calls Try.prog 4 #[.int .u16 a0, .int .u16 a1, .int .u16 a2] w fun e w' => e = .returned (.bool true) ∧ Grown w w' := by
  simp [Lit.wf, IntKind.min, IntKind.max, IntKind.signed, IntKind.bits] at w0 w1 w2
  obtain ⟨A, rfl⟩ := Int.eq_ofNat_of_zero_le w0.1
  obtain ⟨B, rfl⟩ := Int.eq_ofNat_of_zero_le w1.1
  obtain ⟨F, rfl⟩ := Int.eq_ofNat_of_zero_le w2.1
  have hA : A < 65536 := by omega
  have hB : B < 65536 := by omega
  have hF : F < 65536 := by omega
  have b0 := u16_and_nat A F hA hF
  have b1 := u16_and_nat B F hB hF
  by_cases hz : A &&& F = 0
  · rw [hz] at b0
    by_cases hy : B &&& F = 0
    · rw [hy] at b1
      exact walk_in A B F w hF b0 b1
    · exact walk_out2 A B F (B &&& F) w b0 b1 (by simp; omega)
  · exact walk_out A B F (A &&& F) w b0 (by simp; omega)

/-! ### THE ROW's STEP: WRITTEN OUT: LEAVE IT -/
set_option maxRecDepth 100000 in
theorem lifted (os : Os) (started : os.Started) (H : Type) (enc : TypeId × Value → H) :
    ReturnsInHanded {} Try.checked os 4 .any (Rows.fnTagCubeCountIgnoresTagCountsSubsetsSpec.pre6 enc Try.prog Try.f4 Rows.fnTagCubeCountIgnoresTagCountsSubsetsRow.domain false) (Rows.fnTagCubeCountIgnoresTagCountsSubsetsSpec.post enc Try.prog Try.f4 false true false false) := by
  refine returnsInHanded_of_change (C := Try.checked) own started (by kernel_rfl) Try.func4
    (ChangeSpec.witness6 (enc := enc) (C := Try.checked) false ⟨#[], #[.int .u16 0, .int .u16 0, .int .u16 0], []⟩ 8 (by kernel_rfl) (by kernel_rfl) (by kernel_rfl) (by kernel_rfl)) ?_
  intro W base args ds gs before hval0 hW hcnd _
  have hval : ∀ (j : Nat) t v, Try.f4.params[j]? = some t → args[j]? = some v → Value.okWide Try.prog W .any base t v := hval0
  have hW' := hW
  obtain ⟨p, q, hA0, hV, rfl, hfz, hnd⟩ := hW
  have hA : DataW.TrodAll enc Try.prog W 0 (fun _ => true) true Try.f4.params.toList args.toList ds p := hA0
  rw [Try.params4] at hA hval
  obtain ⟨v0, vs0, d0, ds0, p0, q0, hargs, rfl, rfl, h0, r0⟩ := trodAll_cons hA
  obtain ⟨v1, vs1, d1, ds1, p1, q1, rfl, rfl, rfl, h1, r1⟩ := trodAll_cons r0
  obtain ⟨v2, vs2, d2, ds2, p2, q2, rfl, rfl, rfl, h2, r2⟩ := trodAll_cons r1
  obtain ⟨rfl, rfl, rfl⟩ := trodAll_nil r2
  obtain rfl : args = #[v0, v1, v2] := by cases args; simp_all
  obtain ⟨rfl, rfl⟩ := trodVars_none hV
  obtain ⟨a0, rfl, rfl, rfl, w0⟩ := open_int Try.underlying22 (hval 0 22 v0 rfl rfl) h0
  obtain ⟨a1, rfl, rfl, rfl, w1⟩ := open_int Try.underlying22 (hval 1 22 v1 rfl rfl) h1
  obtain ⟨a2, rfl, rfl, rfl, w2⟩ := open_int Try.underlying22 (hval 2 22 v2 rfl rfl) h2
  clear hA0 hval0
  simp only [List.append_nil] at hW'
  refine (walk a0 a1 a2 w0 w1 w2 W).mono fun e W' ⟨he, hg⟩ => ?_
  subst he
  exact ⟨_, rfl, post_of_same (pa := []) (pv := []) hW' (fun _ _ _ => (trodAll_cons_mk (shut_bool Try.underlying4 _) trodAll_mk0)) (fun sp _ => (trodAll_cons_mk (shut_int Try.underlying22 w0) (trodAll_cons_mk (shut_int Try.underlying22 w1) (trodAll_cons_mk (shut_int Try.underlying22 w2) trodAll_mk0)))) (fun _ _ => rfl) rfl
    (hg.frame _) hg.2.1 (ok_one (by kernel_rfl) rfl (okWide_bool_mk Try.underlying4 _))⟩

theorem over : Rows.fnTagCubeCountIgnoresTagCountsSubsetsRow.holds Try.pinned (OpenSpec.ofChange Rows.fnTagCubeCountIgnoresTagCountsSubsetsSpec) :=
  OpenClaim.holds_of_wide 4 Try.f4 rfl rfl rfl rfl rfl rfl rfl ⟨rfl, rfl, rfl, rfl, rfl⟩ rfl rfl rfl rfl rfl (by kernel_rfl) Try.func4 (by kernel_rfl)
    (of_decide_eq_true (by kernel_rfl)) (by unfold Func.isWrapper; first | (rw [if_pos (by decide +kernel)]; kernel_rfl) | (rw [if_neg (by decide +kernel)]; exact ⟨rfl, rfl⟩))
    (fun os started H enc _ => lifted os started H enc)

/-- ████ THE STATEMENT ████ -/
theorem proved : Rows.FnTagCubeCountIgnoresTagCountsSubsetsSaid :=
  over
end Go.Proofs.Qxb6608546a.fnTagCubeCountIgnoresTagCountsSubsets

namespace Go.Proofs.Qxb6608546a
theorem fnTagCubeCountIgnoresTagCountsSubsets_holds : Rows.FnTagCubeCountIgnoresTagCountsSubsetsSaid := fnTagCubeCountIgnoresTagCountsSubsets.proved
end Go.Proofs.Qxb6608546a
