/-
  A proof of 'Rows.FnTagCubeCountMultipliesOverSplitSaid'. The frame (the row's step) is the guide's, at this function's number and types; the walk is mine.
-/
import Derived.Test.Qxb6608546aOnes
import Derived.WalkKit
import Derived.ProofKit
import Derived.OpenShut
import Derived.ShutString
namespace Go.Proofs.Qxb6608546a.fnTagCubeCountMultipliesOverSplit
open Go.ChangeShapes Go.WideShapes Go.ChangeAt Go.RowKit
open Go.ChangeMaps (open_string shut_string)
set_option linter.unusedVariables false      -- a walk need not use every 'w<i>' (that an integer argument fits its kind)

theorem own : ownKnob Try.prog.godebug = none := by kernel_rfl

/-! ### STEP 1: THE WALK -/
open Plain
set_option maxHeartbeats 800000 in
set_option maxRecDepth 100000 in
theorem walk_in (T F P F1 F2 : Nat) (w : World) (hT : Hid (T < 65536)) (hF : Hid (F < 65536)) (h1 : Hid (F1 < 65536)) (h2 : Hid (F2 < 65536))
    (b0 : bits .and .u16 (T : Int) (F : Int) = 0) (b1 : bits .and .u16 (F : Int) (P : Int) = (F1 : Int)) (b2 : bits .andNot .u16 (F : Int) (P : Int) = (F2 : Int))
    (e1 : Hid (cube F = (cube F1 * cube F2) % 65536)) :
    Calls Try.prog 3 #[.int .u16 T, .int .u16 F, .int .u16 P] w fun e w' => e = .returned (.bool true) ∧ Grown w w' := by
  go_enter Try.func3, Try.ntmps3
  go_wp2_with fail
  refine (members_any T F _ hT.out hF.out).mono ?_
  rintro e w' ⟨N, rfl, e2, hN, rfl⟩
  go_wp2_with fail
  refine (zzCount_any _ F _ hF.out).mono ?_
  rintro e w1 ⟨c, rfl, hc, g1⟩
  go_wp2_with fail
  refine (zzCount_any _ F1 _ h1.out).mono ?_
  rintro e w2 ⟨c1, rfl, hc1, g2⟩
  go_wp2_with fail
  refine (zzCount_any _ F2 _ h2.out).mono ?_
  rintro e w3 ⟨c2, rfl, hc2, g3⟩
  have t1 : (c == IntKind.u16.wrap (c1 * c2)) = true := by rw [IntKind.wrap_u16, hc1.out, hc2.out, ← e1.out, hc.out]; simp
  have t2 : (c == IntKind.u16.wrap (N : Int)) = true := by rw [IntKind.wrap_u16, ← e2.out, hc.out]; simp
  clear hc hc1 hc2 e1 e2
  go_wp2
  go_ret
  exact ⟨rfl, grown_trans g1 (grown_trans g2 g3)⟩

set_option maxHeartbeats 800000 in
set_option maxRecDepth 100000 in
theorem walk_out (T F P Z : Nat) (w : World) (b0 : bits .and .u16 (T : Int) (F : Int) = (Z : Int)) (hz : ((Z : Int) != 0) = true) :
    Calls Try.prog 3 #[.int .u16 T, .int .u16 F, .int .u16 P] w fun e w' => e = .returned (.bool true) ∧ Grown w w' := by
  go_enter Try.func3, Try.ntmps3
  go_wp2
  go_ret
  exact ⟨rfl, Grown.refl _⟩

theorem walk (a0 : Int) (a1 : Int) (a2 : Int) (w0 : (Lit.int .u16 a0).wf = true) (w1 : (Lit.int .u16 a1).wf = true) (w2 : (Lit.int .u16 a2).wf = true) (w : World) :
    Calls Try.prog 3 #[.int .u16 a0, .int .u16 a1, .int .u16 a2] w fun e w' => e = .returned (.bool true) ∧ Grown w w' := by
  simp [Lit.wf, IntKind.min, IntKind.max, IntKind.signed, IntKind.bits] at w0 w1 w2
  obtain ⟨T, rfl⟩ := Int.eq_ofNat_of_zero_le w0.1
  obtain ⟨F, rfl⟩ := Int.eq_ofNat_of_zero_le w1.1
  obtain ⟨P, rfl⟩ := Int.eq_ofNat_of_zero_le w2.1
  have hT : T < 65536 := by omega
  have hF : F < 65536 := by omega
  have hP : P < 65536 := by omega
  have b0 := u16_and_nat T F hT hF
  by_cases hz : T &&& F = 0
  · rw [hz] at b0
    exact walk_in T F P (F &&& P) (F &&& (65535 - P)) w hT hF (Nat.lt_of_le_of_lt Nat.and_le_left hF) (Nat.lt_of_le_of_lt Nat.and_le_left hF) b0
      (u16_and_nat F P hF hP) (u16_andNot_nat F P hF hP) (split_law F P hP)
  · exact walk_out T F P (T &&& F) w b0 (by simp; omega)

/-! ### THE ROW's STEP: WRITTEN OUT: LEAVE IT -/
set_option maxRecDepth 100000 in
theorem lifted (os : Os) (started : os.Started) (H : Type) (enc : TypeId × Value → H) :
    ReturnsInHanded {} Try.checked os 3 .any (Rows.fnTagCubeCountMultipliesOverSplitSpec.pre6 enc Try.prog Try.f3 Rows.fnTagCubeCountMultipliesOverSplitRow.domain false) (Rows.fnTagCubeCountMultipliesOverSplitSpec.post enc Try.prog Try.f3 false true false false) := by
  refine returnsInHanded_of_change (C := Try.checked) own started (by kernel_rfl) Try.func3
    (ChangeSpec.witness6 (enc := enc) (C := Try.checked) false ⟨#[], #[.int .u16 0, .int .u16 0, .int .u16 0], []⟩ 8 (by kernel_rfl) (by kernel_rfl) (by kernel_rfl) (by kernel_rfl)) ?_
  intro W base args ds gs before hval0 hW hcnd _
  have hval : ∀ (j : Nat) t v, Try.f3.params[j]? = some t → args[j]? = some v → Value.okWide Try.prog W .any base t v := hval0
  have hW' := hW
  obtain ⟨p, q, hA0, hV, rfl, hfz, hnd⟩ := hW
  have hA : DataW.TrodAll enc Try.prog W 0 (fun _ => true) true Try.f3.params.toList args.toList ds p := hA0
  rw [Try.params3] at hA hval
  obtain ⟨v0, vs0, d0, ds0, p0, q0, hargs, rfl, rfl, h0, r0⟩ := trodAll_cons hA
  obtain ⟨v1, vs1, d1, ds1, p1, q1, rfl, rfl, rfl, h1, r1⟩ := trodAll_cons r0
  obtain ⟨v2, vs2, d2, ds2, p2, q2, rfl, rfl, rfl, h2, r2⟩ := trodAll_cons r1
  obtain ⟨rfl, rfl, rfl⟩ := trodAll_nil r2
  obtain rfl : args = #[v0, v1, v2] := by cases args; simp_all
  obtain ⟨rfl, rfl⟩ := trodVars_none hV
  obtain ⟨a0, rfl, rfl, rfl, w0⟩ := open_int Try.underlying22 (hval 0 22 v0 rfl rfl) h0
  obtain ⟨a1, rfl, rfl, rfl, w1⟩ := open_int Try.underlying22 (hval 1 22 v1 rfl rfl) h1
  obtain ⟨a2, rfl, rfl, rfl, w2⟩ := open_int Try.underlying22 (hval 2 22 v2 rfl rfl) h2
  clear hA0 hval0
  simp only [List.append_nil] at hW'
  refine (walk a0 a1 a2 w0 w1 w2 W).mono fun e W' ⟨he, hg⟩ => ?_
  subst he
  exact ⟨_, rfl, post_of_same (pa := []) (pv := []) hW' (fun _ _ _ => (trodAll_cons_mk (shut_bool Try.underlying4 _) trodAll_mk0)) (fun sp _ => (trodAll_cons_mk (shut_int Try.underlying22 w0) (trodAll_cons_mk (shut_int Try.underlying22 w1) (trodAll_cons_mk (shut_int Try.underlying22 w2) trodAll_mk0)))) (fun _ _ => rfl) rfl
    (hg.frame _) hg.2.1 (ok_one (by kernel_rfl) rfl (okWide_bool_mk Try.underlying4 _))⟩

theorem over : Rows.fnTagCubeCountMultipliesOverSplitRow.holds Try.pinned (OpenSpec.ofChange Rows.fnTagCubeCountMultipliesOverSplitSpec) :=
  OpenClaim.holds_of_wide 3 Try.f3 rfl rfl rfl rfl rfl rfl rfl ⟨rfl, rfl, rfl, rfl, rfl⟩ rfl rfl rfl rfl rfl (by kernel_rfl) Try.func3 (by kernel_rfl)
    (of_decide_eq_true (by kernel_rfl)) (by unfold Func.isWrapper; first | (rw [if_pos (by decide +kernel)]; kernel_rfl) | (rw [if_neg (by decide +kernel)]; exact ⟨rfl, rfl⟩))
    (fun os started H enc _ => lifted os started H enc)

/-- ████ THE STATEMENT ████ -/
theorem proved : Rows.FnTagCubeCountMultipliesOverSplitSaid :=
  over
end Go.Proofs.Qxb6608546a.fnTagCubeCountMultipliesOverSplit

namespace Go.Proofs.Qxb6608546a
theorem fnTagCubeCountMultipliesOverSplit_holds : Rows.FnTagCubeCountMultipliesOverSplitSaid := fnTagCubeCountMultipliesOverSplit.proved
end Go.Proofs.Qxb6608546a
