import Derived.Test.Qxb6608743aRows
import Derived.WalkKit
import Derived.WalkSpells
import Derived.Deep.QuietTactic
import Derived.BigQuiet
import Derived.Laws.CopyOwn
namespace Go.Proofs.Qxb6608743a
open Go.RowKit

theorem Try.info22 : (Try.prog.info? 22).map (fun i => (i.zero, i.size, i.bytes)) = some (some (.int .u64 0), 1, 8) := by kernel_rfl
theorem Try.info34 : (Try.prog.info? 34).map (fun i => (i.zero, i.size, i.bytes)) = some (some (.agg #[.int .u64 0, .slice none 0 0, .nilFunc]), 3, 40) := by kernel_rfl

/-- The index of a log's last entry, as the program has it. -/
def lastOf (f : Int) (n : Nat) : Int := IntKind.u64.wrap (IntKind.u64.wrap (f + n) - 1)

/-- Below a draw, and a number of draws. -/
theorem below_draws {B : Nat} {w w' : World} (h : Below B w w') (n : Nat) : Below B w (w'.drewN n) := ⟨h.os, h.tape, h.output, h.size, h.block⟩

/-- (*copyLog).last, through ZZcopyLogLast. -/
theorem last_in (g n c : Nat) (ad : Option Addr) (f : Int) (w : World) (hn : n ≤ 131072) (c5 : w.cell? ⟨g, 5, none⟩ = some (.int .u64 f)) (c8 : w.cell? ⟨g, 8, none⟩ = some (.slice ad n c)) :
    Calls Try.prog 7 #[.pointer (some ⟨g, 0, none⟩)] w fun e w' => e = .returned (.int .u64 (lastOf f n)) ∧ Below w.heap.size w w' := by
  go_enter Try.func7, Try.ntmps7
  go_wp2
  go_quiet (fail)
  go_wp2
  go_ret
  exact ⟨rfl, below_draws (Below.refl _ _) _⟩

theorem last_any (g n c : Nat) (ad : Option Addr) (f : Int) (w : World) (hn : n ≤ 131072) (c5 : w.cell? ⟨g, 5, none⟩ = some (.int .u64 f)) (c8 : w.cell? ⟨g, 8, none⟩ = some (.slice ad n c)) :
    Calls Try.prog 5 #[.pointer (some ⟨g, 0, none⟩)] w fun e w' => e = .returned (.int .u64 (lastOf f n)) ∧ Below w.heap.size w w' := by
  go_enter Try.func5, Try.ntmps5
  go_wp2_with fail
  refine (last_in g n c ad f _ hn c5 c8).mono ?_
  rintro e w' ⟨rfl, hb⟩
  go_wp2
  go_ret
  exact ⟨rfl, hb⟩

/-- What the walks are told of a slice of words: each of its n elements' cells lies there. -/
def Words (w : World) (a : Option Addr) (n : Nat) : Prop :=
  0 < n → ∃ b off, a = some ⟨b, off, none⟩ ∧ b < w.heap.size ∧ ∀ i, i < n → ∃ z, w.cell? ⟨b, off + i, none⟩ = some (.int .u64 z)

theorem Words.later {w w' : World} {a : Option Addr} {n : Nat} (h : Words w a n) (hb : Below w.heap.size w w') : Words w' a n := by
  intro hn
  obtain ⟨b, off, ha, hlt, hc⟩ := h hn
  refine ⟨b, off, ha, Nat.lt_of_lt_of_le hlt hb.size, fun i hi => ?_⟩
  obtain ⟨z, hz⟩ := hc i hi
  exact ⟨z, (hb.cell (p := ⟨b, off + i, none⟩) hlt).trans hz⟩

/-- ZZnewCopyLog: a new block whose cell 5 is the first index and whose cell 8 is a slice of n entries. -/
theorem newLog_any (f : Int) (a : Option Addr) (n c : Nat) (w : World) (hw : Words w a n) (hn : n ≤ 131072) :
    Calls Try.prog 6 #[.int .u64 f, .slice a n c] w fun e w' => ∃ g ad c', e = .returned (.pointer (some ⟨g, 0, none⟩)) ∧ w'.cell? ⟨g, 5, none⟩ = some (.int .u64 f) ∧ w'.cell? ⟨g, 8, none⟩ = some (.slice ad n c') ∧
      Below w.heap.size w w' := by
  obtain ⟨i0, hi, hz0, hz1, hz2⟩ := info_parts Try.info34
  have HW : Hid (Words w a n) := hw
  clear hw
  go_enter Try.func6, Try.ntmps6
  go_wp2_with (at_make; refine wpList_make_full _ rfl _ _ 29 rfl w.heap.size 34 i0 (.agg #[.int .u64 0, .slice none 0 0, .nilFunc]) 3 Try.underlying29 hi hz0 hz1 _ _ _ _ n rfl rfl (by omega) (by omega) (by rw [hz2]; omega) (by unfold maxLen; omega) (by omega) ?_; intro w1 hown hgrow)
  have hbel : Below w.heap.size w w1 := (Below.refl _ _).grown hgrow (Nat.le_refl _) (fun k hk => by cases hk)
  go_loopw [12] (fun i wr => ∃ (k : Nat) (ys : List Value), k ≤ n ∧ i = .int .i64 k ∧ wr.ownsRow w.heap.size 34 3 (.slice (some ⟨w.heap.size, 0, none⟩) n n) n ys ∧ Below w.heap.size w wr) (fun i _ => n - (intOf i).toNat)
  case atStart => exact ⟨0, _, Nat.zero_le _, rfl, hown, hbel⟩
  case round =>
    clear hown hgrow hbel
    obtain ⟨k, ys, hk, rfl, hown, hbel⟩ := hrel
    by_cases hlt : k < n
    · obtain ⟨b, off, rfl, hbs, hcell⟩ := HW.out (by omega)
      obtain ⟨z, hz⟩ := hcell k hlt
      have hc1 : wr.cell? ⟨b, off + k, none⟩ = some (.int .u64 z) := (hbel.cell (p := ⟨b, off + k, none⟩) hbs).trans hz
      obtain ⟨v, hc2⟩ : ∃ v, wr.cell? ⟨w.heap.size, k * 3, none⟩ = some v := by
        have hl : k * 3 < ys.length := by rw [hown.1]; omega
        exact ⟨ys[k * 3], by rw [hown.cellAt (k * 3) (by omega), List.getElem?_eq_getElem hl]⟩
      have hf := hown.frozenAt (k * 3)
      have R1 : Hid _ := (hown.stored (k * 3) (.int .u64 z)).1
      have R2 : Hid _ := hbel.setCell (p := ⟨w.heap.size, k * 3, none⟩) (Nat.le_refl _) (.int .u64 z)
      clear hz hcell HW hown hbel hi hz0 hz1 hz2
      go_wp2
      go_roundw
      case rel => exact ⟨k + 1, _, by omega, by go_num, R1.out, R2.out⟩
      case measure => simp [intOf]; omega
    · clear hown
      go_wp2
      go_ret
      exact ⟨wr.heap.size, some ⟨w.heap.size, 0, none⟩, n, rfl, by simp [go_sem], by simp [go_sem], hbel.alloc hbel.size _⟩
end Go.Proofs.Qxb6608743a
