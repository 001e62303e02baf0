import Derived.Test.Qxb6608546aRows
import Derived.Test.Qxb6608546aPlain
import Derived.WalkKit
import Derived.WalkSpells
import Derived.Laws.BitsAllLaws
import Derived.Deep.QuietTactic
import Derived.BigQuiet
import Derived.Lib.BitFns
namespace Go.Proofs.Qxb6608546a
open Go.RowKit Plain

theorem pop8_pc : ∀ n : Fin 256, Lib.pop8 (n.val : Int) = (pc 8 n.val : Int) := by decide +kernel
theorem pop8_nat (n : Nat) (h : n < 256) : Lib.pop8 (n : Int) = (pc 8 n : Int) := pop8_pc ⟨n, h⟩
theorem pop8_sum (X : Nat) (hX : X < 65536) : (Lib.pop8 ((X : Int) / 256) + Lib.pop8 ((X : Int) % 256)) % 256 = (pc 16 X : Int) := by
  have e1 : ((X : Int) / 256) = ((X / 256 : Nat) : Int) := by omega
  have e2 : ((X : Int) % 256) = ((X % 256 : Nat) : Int) := by omega
  rw [e1, e2, pop8_nat _ (by omega), pop8_nat _ (by omega)]
  have h1 := pc_add 8 8 X
  have h2 := pc_mod 8 X
  have h3 := pc_le 8 X
  have h4 := pc_le 8 (X / 256)
  simp only [show 2 ^ 8 = 256 from rfl, show 8 + 8 = 16 from rfl] at h1 h2
  rw [h1, h2]
  omega

theorem grown_drewN (w : World) (n : Nat) : Grown w (w.drewN n) := Grown.refl w
theorem grown_trans {a b c : World} (h : Grown a b) (k : Grown b c) : Grown a c :=
  ⟨World.keptBut_trans h.1 k.1, fun p => (k.2.1 p).trans (h.2.1 p), Nat.le_trans h.2.2 k.2.2⟩

theorem ones16_nat (X : Nat) (w : World) (hX : X < 65536) :
    Calls Try.prog 9 #[.int .u16 X] w fun e w' => e = .returned (.int .i64 (pc 16 X)) ∧ Grown w w' := by
  have hb : bits .and .u16 (X : Int) 255 = ((X % 256 : Nat) : Int) := by
    rw [show (255 : Int) = ((255 : Nat) : Int) from rfl, u16_and_nat X 255 hX (by omega), nat_mask8]
  have q0 : 0 ≤ (X : Int) / 256 := by omega
  have q1 : (X : Int) / 256 ≤ 255 := by omega
  rw [← pop8_sum X hX]
  go_enter Try.func9, Try.ntmps9
  go_wp2
  go_quiet (fail)
  go_wp2
  go_ret
  exact ⟨rfl, grown_drewN w _⟩

/-- What a cube counts, as the program has it: 2 to the number of its free bits, modulo 2^16. -/
def cube (X : Nat) : Int := 2 ^ min (pc 16 X) 16 % 65536

theorem count_nat (T : Int) (X : Nat) (w : World) (hX : X < 65536) :
    Calls Try.prog 8 #[.agg #[.int .u16 T, .int .u16 X]] w fun e w' => e = .returned (.int .u16 (cube X)) ∧ Grown w w' := by
  go_enter Try.func8, Try.ntmps8
  go_wp2_with fail
  refine (ones16_nat X _ hX).mono ?_
  rintro e w' ⟨rfl, hg⟩
  go_wp2
  go_ret
  exact ⟨rfl, grown_trans ((Grown.refl _).alloc _ _) hg⟩

theorem zzCount_nat (T : Int) (X : Nat) (w : World) (hX : X < 65536) :
    Calls Try.prog 6 #[.int .u16 T, .int .u16 X] w fun e w' => e = .returned (.int .u16 (cube X)) ∧ Grown w w' := by
  go_enter Try.func6, Try.ntmps6
  go_wp2_with fail
  refine (count_nat T X _ hX).mono ?_
  rintro e w' ⟨rfl, hg⟩
  go_wp2
  go_ret
  exact ⟨rfl, hg⟩

/-- One round's test: is u a member? -/
theorem members_test (T F u : Nat) (hT : T < 65536) (hF : F < 65536) (hu : u < 65536) :
    ∃ y z : Nat, bits .xor .u16 (u : Int) (T : Int) = (y : Int) ∧ bits .andNot .u16 (y : Int) (F : Int) = (z : Int) ∧ (z = 0 ↔ mem 16 T F u = true) := by
  refine ⟨u ^^^ T, (u ^^^ T) &&& (65535 - F), u16_xor_nat u T hu hT, ?_, ?_⟩
  · exact u16_andNot_nat _ F (by have : u ^^^ T < 2 ^ 16 := Nat.xor_lt_two_pow (by omega) (by omega); omega) hF
  · exact mem_iff 16 T F u (by omega) (by omega) (by omega)

/-- 2^16 behind a name: the walk must not count it up. -/
def top : Nat := 65536
theorem members_nat (T F : Nat) (w : World) (hT : T < 65536) (hF : F < 65536) :
    Calls Try.prog 5 #[.int .u16 T, .int .u16 F] w fun e w' => e = .returned (.int .i64 (cnt 16 T F 65536)) ∧ w' = w := by
  go_enter Try.func5, Try.ntmps5
  go_wp2
  go_loop [5, 6] (fun n t => ∃ k c : Nat, k ≤ top ∧ Hid (c = cnt 16 T F k) ∧ c ≤ k ∧ t = .int .i64 k ∧ n = .int .i64 c) (fun _ t => top - (intOf t).toNat)
  case atStart => exact ⟨0, 0, Nat.zero_le _, rfl, Nat.le_refl _, rfl, rfl⟩
  case round =>
    obtain ⟨k, c, hk, hc, hck, rfl, rfl⟩ := hrel
    unfold top at hk
    by_cases hlt : k < 65536
    · obtain ⟨y, z, hy, hz, hm⟩ := members_test T F k hT hF hlt
      have HM : Hid (z = 0 ↔ mem 16 T F k = true) := hm
      clear hm
      by_cases h0 : z = 0
      · subst h0
        have hc' : Hid (c + 1 = cnt 16 T F (k + 1)) := by rw [cnt_succ, HM.out.1 rfl, show c = cnt 16 T F k from hc]; rfl
        have kI : (k : Int) < 65536 := by omega
        have HK : Hid (k < 65536) := hlt
        clear HM hc hk hlt hT hF
        go_wp2
        have hlt := HK.out
        go_round
        case rel => exact ⟨k + 1, c + 1, by unfold top; omega, hc', by omega, by go_num, by go_num⟩
        case measure => simp [intOf]; unfold top; omega
      · have hz0 : ((z : Int) == 0) = false := by simp; omega
        have hm : mem 16 T F k = false := by
          cases h : mem 16 T F k
          · rfl
          · exact absurd (HM.out.2 h) h0
        have hc' : Hid (c = cnt 16 T F (k + 1)) := by rw [cnt_succ, hm, show c = cnt 16 T F k from hc]; rfl
        have kI : (k : Int) < 65536 := by omega
        have HK : Hid (k < 65536) := hlt
        clear HM hc hm h0 hk hlt hT hF
        go_wp2
        have hlt := HK.out
        go_round
        case rel => exact ⟨k + 1, c, by unfold top; omega, hc', by omega, by go_num, by go_num⟩
        case measure => simp [intOf]; unfold top; omega
    · obtain rfl : k = 65536 := by omega
      have hcc : c = cnt 16 T F 65536 := hc
      clear hc
      subst hcc
      go_wp2
      go_ret
      exact ⟨rfl, rfl⟩

theorem submasks_nat (F : Nat) (w : World) (hF : F < 65536) :
    Calls Try.prog 7 #[.int .u16 F] w fun e w' => e = .returned (.int .i64 (2 ^ pc 16 F : Nat)) ∧ w' = w := by
  have hp : 2 ^ pc 16 F ≤ 65536 := by
    have := Nat.pow_le_pow_right (n := 2) (by omega) (pc_le 16 F)
    simpa using this
  have HP : Hid (2 ^ pc 16 F ≤ 65536) := hp
  clear hp
  go_enter Try.func7, Try.ntmps7
  go_wp2
  go_loop [3, 4] (fun n s => ∃ c S : Nat, Hid (S &&& F = S) ∧ S < 65536 ∧ Hid (c + rank 16 S F = 2 ^ pc 16 F) ∧ n = .int .i64 c ∧ s = .int .u16 S) (fun _ s => rank 16 (intOf s).toNat F)
  case atStart => exact ⟨1, F, by simp [Hid], hF, by have := rank_full 16 F; unfold Hid; omega, rfl, rfl⟩
  case round =>
    obtain ⟨c, S, hS, hS2, hc, rfl, rfl⟩ := hrel
    have hcb : c ≤ 65536 := by have h1 := hc.out; have h2 := HP.out; omega
    by_cases h0 : S = 0
    · subst h0
      have hcc : c = 2 ^ pc 16 F := by have := hc.out; rw [rank_zero] at this; exact this
      clear hc HP hS
      subst hcc
      go_wp2
      go_ret
      exact ⟨rfl, rfl⟩
    · have hne : ((S : Int) != 0) = true := by simp; omega
      have hr := rank_pred 16 S F hS.out h0 (by omega)
      have hb : bits .and .u16 ((S : Int) - 1) (F : Int) = (((S - 1) &&& F : Nat) : Int) := by
        rw [show ((S : Int) - 1) = ((S - 1 : Nat) : Int) from by omega, u16_and_nat _ F (by omega) hF]
      obtain ⟨S', hS'⟩ : ∃ S', S' = (S - 1) &&& F := ⟨_, rfl⟩
      rw [← hS'] at hb hr
      have hs1 : Hid (S' &&& F = S') := by unfold Hid; rw [hS', Nat.and_assoc, Nat.and_self]
      have hs2 : S' < 65536 := by rw [hS']; exact Nat.lt_of_le_of_lt Nat.and_le_right hF
      have hs3 : Hid (c + 1 + rank 16 S' F = 2 ^ pc 16 F) := by have := hc.out; unfold Hid; omega
      have HR : Hid (rank 16 S' F + 1 = rank 16 S F) := hr
      clear hS' hr hc hS HP h0
      have hS1 : 1 ≤ (S : Int) := by simp at hne; omega
      go_wp2
      go_round
      case rel => exact ⟨c + 1, S', hs1, hs2, hs3, by go_num, rfl⟩
      case measure => have := HR.out; simp [intOf]; omega
/-! ### The plain facts -/
theorem cube_eq (X : Nat) : cube X = ((2 ^ pc 16 X : Nat) : Int) % 65536 := by
  unfold cube
  rw [Nat.min_eq_left (pc_le 16 X)]
  simp
theorem split_law (F P : Nat) (hP : P < 65536) : cube F = (cube (F &&& P) * cube (F &&& (65535 - P))) % 65536 := by
  have h := pc_split 16 F P hP
  rw [cube_eq, cube_eq, cube_eq, ← Int.mul_emod, ← Int.natCast_mul, ← Nat.pow_add]
  rw [show (65535 - P : Nat) = 2 ^ 16 - 1 - P from by omega, h]
theorem members_law (T F : Nat) : cube F = ((cnt 16 T F 65536 : Nat) : Int) % 65536 := by
  rw [cube_eq, show (65536 : Nat) = 2 ^ 16 from rfl, cnt_all]
/-- ZZtagCubeCount, the number behind a letter. -/
theorem zzCount_any (T : Int) (X : Nat) (w : World) (hX : X < 65536) :
    Calls Try.prog 6 #[.int .u16 T, .int .u16 X] w fun e w' => ∃ c : Int, e = .returned (.int .u16 c) ∧ Hid (c = cube X) ∧ Grown w w' :=
  (zzCount_nat T X w hX).mono fun _ _ ⟨he, hg⟩ => ⟨cube X, he, rfl, hg⟩
/-- zzb1CubeMembers, the number behind a letter. -/
theorem members_any (T F : Nat) (w : World) (hT : T < 65536) (hF : F < 65536) :
    Calls Try.prog 5 #[.int .u16 T, .int .u16 F] w fun e w' => ∃ N : Nat, e = .returned (.int .i64 N) ∧ Hid (cube F = (N : Int) % 65536) ∧ Hid (N ≤ 65536) ∧ w' = w := by
  have h := members_nat T F w hT hF
  have h1 := members_law T F
  have h2 : Hid (cnt 16 T F 65536 ≤ 65536) := cnt_le 16 T F 65536
  generalize cnt 16 T F 65536 = N at h h1 h2
  exact h.mono fun e w' ⟨he, hw⟩ => ⟨N, he, h1, h2, hw⟩
/-- zzb1Submasks, the number behind a letter. -/
theorem submasks_any (F : Nat) (w : World) (hF : F < 65536) :
    Calls Try.prog 7 #[.int .u16 F] w fun e w' => ∃ N : Nat, e = .returned (.int .i64 N) ∧ Hid (cube F = (N : Int) % 65536) ∧ Hid (N ≤ 65536) ∧ w' = w := by
  have h := submasks_nat F w hF
  have h1 := cube_eq F
  have h2 : Hid (2 ^ pc 16 F ≤ 65536) := by have := Nat.pow_le_pow_right (n := 2) (by omega) (pc_le 16 F); simpa [Hid] using this
  generalize 2 ^ pc 16 F = N at h h1 h2
  exact h.mono fun e w' ⟨he, hw⟩ => ⟨N, he, h1, h2, hw⟩
end Go.Proofs.Qxb6608546a
