/-
  A proof of 'Rows.FnKindSetOfMeetJoinSaid'. The frame (the row's step) is the guide's, at this function's number and types; the walk is mine.
-/
import Derived.Test.Qxb6605867aBits
import Derived.WalkKit
import Derived.ProofKit
import Derived.OpenShut
import Derived.ShutString
namespace Go.Proofs.Qxb6605867a.fnKindSetOfMeetJoin
open Go.ChangeShapes Go.WideShapes Go.ChangeAt Go.RowKit
open Go.ChangeMaps (open_string shut_string)
set_option linter.unusedVariables false      -- a walk need not use every 'w<i>' (that an integer argument fits its kind)

theorem own : ownKnob Try.prog.godebug = none := by kernel_rfl

/-! ### STEP 1: THE WALK: one walk a case; each callee by its contract. -/
set_option maxHeartbeats 1600000 in
set_option maxRecDepth 100000 in
theorem walk (a0 : Int) (a1 : Int) (w0 : (Lit.int .u8 a0).wf = true) (w1 : (Lit.int .u8 a1).wf = true) (w : World) :
    Calls Try.prog 3 #[.int .u8 a0, .int .u8 a1] w fun e w' => e = .returned (.bool true) ∧ Grown w w' := by
  simp [Lit.wf, IntKind.min, IntKind.max, IntKind.signed, IntKind.bits] at w0 w1
  obtain ⟨p0, p1⟩ := w0
  obtain ⟨q0, q1⟩ := w1
  obtain ⟨ka0, ka1⟩ := kset_lt a0
  obtain ⟨kb0, kb1⟩ := kset_lt a1
  by_cases hj : a0 < 8
  · by_cases hk : a1 < 8
    · by_cases he : a1 = a0
      · subst he
        obtain ⟨i, rfl⟩ := as_fin a1 p0 hj
        have e1 := ones_kset_nat i
        have e2 := meet_same_nat i
        have e3 := join_same_nat i
        have e4 : (kset (i.val : Int) != 0) = true := by simpa using kset_pos_nat i
        obtain ⟨o1, o2⟩ := or_lt _ _ ka0 ka1 ka0 ka1
        go_enter Try.func3, Try.ntmps3
        go_wp2_with fail
        refine (zzKindSetOf_any _ _ p0).mono ?_
        rintro e w' ⟨rfl, rfl⟩
        go_wp2_with fail
        refine (zzKindSetOf_any _ _ q0).mono ?_
        rintro e w' ⟨rfl, rfl⟩
        go_wp2_with fail
        refine (ones8_any _ _ (by omega) (by omega)).mono ?_
        rintro e w' ⟨rfl, rfl⟩
        go_wp2_with fail
        refine (ones8_any _ _ o1 o2).mono ?_
        rintro e w' ⟨rfl, rfl⟩
        go_wp2
        go_ret
        exact ⟨rfl, Grown.refl _⟩
      · obtain ⟨i, rfl⟩ := as_fin a0 p0 hj
        obtain ⟨k, rfl⟩ := as_fin a1 q0 hk
        have hne : i ≠ k := fun h => he (by rw [h])
        have e1 := ones_kset_nat i
        have e2 := meet_nat i k hne
        have e3 := join_nat i k hne
        have n1 : (((i.val : Nat) : Int) == ((k.val : Nat) : Int)) = false := by simpa using fun h => he h.symm
        have n2 : (((k.val : Nat) : Int) != ((i.val : Nat) : Int)) = true := by simpa using he
        obtain ⟨o1, o2⟩ := or_lt _ _ ka0 ka1 kb0 kb1
        by_cases hl : ((i.val : Nat) : Int) < ((k.val : Nat) : Int)
        · have e5 := rise_nat i k (by omega)
          clear he hne
          go_enter Try.func3, Try.ntmps3
          go_wp2_with fail
          refine (zzKindSetOf_any _ _ p0).mono ?_
          rintro e w' ⟨rfl, rfl⟩
          go_wp2_with fail
          refine (zzKindSetOf_any _ _ q0).mono ?_
          rintro e w' ⟨rfl, rfl⟩
          go_wp2_with fail
          refine (ones8_any _ _ (by omega) (by omega)).mono ?_
          rintro e w' ⟨rfl, rfl⟩
          go_wp2_with fail
          refine (ones8_any _ _ o1 o2).mono ?_
          rintro e w' ⟨rfl, rfl⟩
          go_wp2
          go_ret
          exact ⟨rfl, Grown.refl _⟩
        · clear he hne
          go_enter Try.func3, Try.ntmps3
          go_wp2_with fail
          refine (zzKindSetOf_any _ _ p0).mono ?_
          rintro e w' ⟨rfl, rfl⟩
          go_wp2_with fail
          refine (zzKindSetOf_any _ _ q0).mono ?_
          rintro e w' ⟨rfl, rfl⟩
          go_wp2_with fail
          refine (ones8_any _ _ (by omega) (by omega)).mono ?_
          rintro e w' ⟨rfl, rfl⟩
          go_wp2_with fail
          refine (ones8_any _ _ o1 o2).mono ?_
          rintro e w' ⟨rfl, rfl⟩
          go_wp2
          go_ret
          exact ⟨rfl, Grown.refl _⟩
    · obtain ⟨i, rfl⟩ := as_fin a0 p0 hj
      have e0 := kset_big a1 (by omega)
      have e1 := ones_kset_nat i
      have e2 := meet_right_nat i
      have e3 := join_right_nat i
      have n1 : (((i.val : Nat) : Int) == a1) = false := by simp; omega
      obtain ⟨o1, o2⟩ := or_lt (kset (i.val : Int)) 0 ka0 ka1 (by omega) (by omega)
      by_cases hl : ((i.val : Nat) : Int) < a1
      · skip
        go_enter Try.func3, Try.ntmps3
        go_wp2_with fail
        refine (zzKindSetOf_any _ _ p0).mono ?_
        rintro e w' ⟨rfl, rfl⟩
        go_wp2_with fail
        refine (zzKindSetOf_any _ _ q0).mono ?_
        rintro e w' ⟨rfl, rfl⟩
        go_wp2_with fail
        refine (ones8_any _ _ (by omega) (by omega)).mono ?_
        rintro e w' ⟨rfl, rfl⟩
        go_wp2_with fail
        refine (ones8_any _ _ o1 o2).mono ?_
        rintro e w' ⟨rfl, rfl⟩
        go_wp2
        go_ret
        exact ⟨rfl, Grown.refl _⟩
      · omega
  · have e0 := kset_big a0 (by omega)
    by_cases hk : a1 < 8
    · obtain ⟨k, rfl⟩ := as_fin a1 q0 hk
      have e1 := ones_zero
      have e2 := meet_left_nat k
      have e3 := join_left_nat k
      have n1 : (a0 == ((k.val : Nat) : Int)) = false := by simp; omega
      have n2 : (((k.val : Nat) : Int) != a0) = true := by simp; omega
      have hl : ¬ a0 < ((k.val : Nat) : Int) := by omega
      obtain ⟨o1, o2⟩ := or_lt 0 (kset (k.val : Int)) (by omega) (by omega) kb0 kb1
      go_enter Try.func3, Try.ntmps3
      go_wp2_with fail
      refine (zzKindSetOf_any _ _ p0).mono ?_
      rintro e w' ⟨rfl, rfl⟩
      go_wp2_with fail
      refine (zzKindSetOf_any _ _ q0).mono ?_
      rintro e w' ⟨rfl, rfl⟩
      go_wp2_with fail
      refine (ones8_any _ _ (by omega) (by omega)).mono ?_
      rintro e w' ⟨rfl, rfl⟩
      go_wp2_with fail
      refine (ones8_any _ _ o1 o2).mono ?_
      rintro e w' ⟨rfl, rfl⟩
      go_wp2
      go_ret
      exact ⟨rfl, Grown.refl _⟩
    · have e5 := kset_big a1 (by omega)
      have e1 := ones_zero
      have e2 : bits .and .u8 0 0 = 0 := by decide +kernel
      have e3 : bits .or .u8 0 0 = 0 := by decide +kernel
      have o1 : (0 : Int) ≤ 0 := by omega
      have o2 : (0 : Int) < 256 := by omega
      by_cases he : a0 = a1
      · subst he
        go_enter Try.func3, Try.ntmps3
        go_wp2_with fail
        refine (zzKindSetOf_any _ _ p0).mono ?_
        rintro e w' ⟨rfl, rfl⟩
        go_wp2_with fail
        refine (zzKindSetOf_any _ _ q0).mono ?_
        rintro e w' ⟨rfl, rfl⟩
        go_wp2_with fail
        refine (ones8_any _ _ (by omega) (by omega)).mono ?_
        rintro e w' ⟨rfl, rfl⟩
        go_wp2_with fail
        refine (ones8_any _ _ o1 o2).mono ?_
        rintro e w' ⟨rfl, rfl⟩
        go_wp2
        go_ret
        exact ⟨rfl, Grown.refl _⟩
      · have n1 : (a0 == a1) = false := by simpa using he
        clear he
        by_cases hl : a0 < a1
        · skip
          go_enter Try.func3, Try.ntmps3
          go_wp2_with fail
          refine (zzKindSetOf_any _ _ p0).mono ?_
          rintro e w' ⟨rfl, rfl⟩
          go_wp2_with fail
          refine (zzKindSetOf_any _ _ q0).mono ?_
          rintro e w' ⟨rfl, rfl⟩
          go_wp2_with fail
          refine (ones8_any _ _ (by omega) (by omega)).mono ?_
          rintro e w' ⟨rfl, rfl⟩
          go_wp2_with fail
          refine (ones8_any _ _ o1 o2).mono ?_
          rintro e w' ⟨rfl, rfl⟩
          go_wp2
          go_ret
          exact ⟨rfl, Grown.refl _⟩
        · skip
          go_enter Try.func3, Try.ntmps3
          go_wp2_with fail
          refine (zzKindSetOf_any _ _ p0).mono ?_
          rintro e w' ⟨rfl, rfl⟩
          go_wp2_with fail
          refine (zzKindSetOf_any _ _ q0).mono ?_
          rintro e w' ⟨rfl, rfl⟩
          go_wp2_with fail
          refine (ones8_any _ _ (by omega) (by omega)).mono ?_
          rintro e w' ⟨rfl, rfl⟩
          go_wp2_with fail
          refine (ones8_any _ _ o1 o2).mono ?_
          rintro e w' ⟨rfl, rfl⟩
          go_wp2
          go_ret
          exact ⟨rfl, Grown.refl _⟩

/-! ### THE ROW's STEP: WRITTEN OUT: LEAVE IT -/
set_option maxRecDepth 100000 in
theorem lifted (os : Os) (started : os.Started) (H : Type) (enc : TypeId × Value → H) :
    ReturnsInHanded {} Try.checked os 3 .any (Rows.fnKindSetOfMeetJoinSpec.pre6 enc Try.prog Try.f3 Rows.fnKindSetOfMeetJoinRow.domain false) (Rows.fnKindSetOfMeetJoinSpec.post enc Try.prog Try.f3 false true false false) := by
  refine returnsInHanded_of_change (C := Try.checked) own started (by kernel_rfl) Try.func3
    (ChangeSpec.witness6 (enc := enc) (C := Try.checked) false ⟨#[], #[.int .u8 0, .int .u8 0], []⟩ 8 (by kernel_rfl) (by kernel_rfl) (by kernel_rfl) (by kernel_rfl)) ?_
  intro W base args ds gs before hval0 hW hcnd _
  have hval : ∀ (j : Nat) t v, Try.f3.params[j]? = some t → args[j]? = some v → Value.okWide Try.prog W .any base t v := hval0
  have hW' := hW
  obtain ⟨p, q, hA0, hV, rfl, hfz, hnd⟩ := hW
  have hA : DataW.TrodAll enc Try.prog W 0 (fun _ => true) true Try.f3.params.toList args.toList ds p := hA0
  rw [Try.params3] at hA hval
  obtain ⟨v0, vs0, d0, ds0, p0, q0, hargs, rfl, rfl, h0, r0⟩ := trodAll_cons hA
  obtain ⟨v1, vs1, d1, ds1, p1, q1, rfl, rfl, rfl, h1, r1⟩ := trodAll_cons r0
  obtain ⟨rfl, rfl, rfl⟩ := trodAll_nil r1
  obtain rfl : args = #[v0, v1] := by cases args; simp_all
  obtain ⟨rfl, rfl⟩ := trodVars_none hV
  obtain ⟨a0, rfl, rfl, rfl, w0⟩ := open_int Try.underlying5 (hval 0 5 v0 rfl rfl) h0
  obtain ⟨a1, rfl, rfl, rfl, w1⟩ := open_int Try.underlying5 (hval 1 5 v1 rfl rfl) h1
  clear hA0 hval0
  simp only [List.append_nil] at hW'
  refine (walk a0 a1 w0 w1 W).mono fun e W' ⟨he, hg⟩ => ?_
  subst he
  exact ⟨_, rfl, post_of_same (pa := []) (pv := []) hW' (fun _ _ _ => (trodAll_cons_mk (shut_bool Try.underlying4 _) trodAll_mk0)) (fun sp _ => (trodAll_cons_mk (shut_int Try.underlying5 w0) (trodAll_cons_mk (shut_int Try.underlying5 w1) trodAll_mk0))) (fun _ _ => rfl) rfl
    (hg.frame _) hg.2.1 (ok_one (by kernel_rfl) rfl (okWide_bool_mk Try.underlying4 _))⟩

theorem over : Rows.fnKindSetOfMeetJoinRow.holds Try.pinned (OpenSpec.ofChange Rows.fnKindSetOfMeetJoinSpec) :=
  OpenClaim.holds_of_wide 3 Try.f3 rfl rfl rfl rfl rfl rfl rfl ⟨rfl, rfl, rfl, rfl, rfl⟩ rfl rfl rfl rfl rfl (by kernel_rfl) Try.func3 (by kernel_rfl)
    (of_decide_eq_true (by kernel_rfl)) (by unfold Func.isWrapper; first | (rw [if_pos (by decide +kernel)]; kernel_rfl) | (rw [if_neg (by decide +kernel)]; exact ⟨rfl, rfl⟩))
    (fun os started H enc _ => lifted os started H enc)

/-- ████ THE STATEMENT ████ -/
theorem proved : Rows.FnKindSetOfMeetJoinSaid :=
  over
end Go.Proofs.Qxb6605867a.fnKindSetOfMeetJoin

namespace Go.Proofs.Qxb6605867a
theorem fnKindSetOfMeetJoin_holds : Rows.FnKindSetOfMeetJoinSaid := fnKindSetOfMeetJoin.proved
end Go.Proofs.Qxb6605867a
