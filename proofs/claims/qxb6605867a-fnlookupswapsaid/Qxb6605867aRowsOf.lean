import Derived.Test.Qxb6605867aRows
import Derived.WalkKit
import Derived.WalkSpells
namespace Go.Proofs.Qxb6605867a
open Go.RowKit

/-- What the walks are told of a slice of bytes: nil and empty, or its elements' cells lie there. -/
def Bytes (w : World) (a : Option Addr) (len : Nat) : Prop :=
  (a = none ∧ len = 0) ∨ ∃ x, a = some x ∧ (0 < len → ∃ b off, x = ⟨b, off, none⟩ ∧ b < w.heap.size ∧ ∀ i, i < len → ∃ z, w.cell? ⟨b, off + i, none⟩ = some (.int .u8 z))

theorem Try.info5 : (Try.prog.info? 5).map (fun i => (i.zero, i.size, i.bytes)) = some (some (.int .u8 0), 1, 1) := by kernel_rfl
theorem Try.info47 : (Try.prog.info? 47).map (fun i => (i.zero, i.size, i.bytes)) = some (some (.int .u8 0), 1, 1) := by kernel_rfl

/-- Every cell is a byte. -/
def AllBytes (xs : List Value) : Prop := ∀ v ∈ xs, ∃ z, v = .int .u8 z
theorem allBytes_made (n : Nat) : AllBytes (madeCells (Value.int .u8 0).cells (n * 1)).toList := by
  intro v hv
  rw [show (Value.int .u8 0).cells = #[.int .u8 0] from rfl, toList_madeCells_one] at hv
  exact ⟨0, List.eq_of_mem_replicate hv⟩
theorem allBytes_set (xs : List Value) (h : AllBytes xs) (k : Nat) (z : Int) : AllBytes (xs.set k (.int .u8 z)) := by
  intro v hv
  rcases List.mem_or_eq_of_mem_set hv with h' | h'
  · exact h v h'
  · exact ⟨z, h'⟩
/-- A row of bytes of the call's own, as the walks' callers want it. -/
theorem bytes_of_own {w : World} {base e g n : Nat} {xs : List Value} (h : w.ownsRow base e 1 (.slice (some ⟨g, 0, none⟩) n n) n xs) (hx : AllBytes xs) : Bytes w (some ⟨g, 0, none⟩) n := by
  refine .inr ⟨_, rfl, fun _ => ⟨g, 0, rfl, (h.lt g rfl).2, fun i hi => ?_⟩⟩
  have hl : i < xs.length := by rw [h.1]; omega
  obtain ⟨z, hz⟩ := hx xs[i] (List.getElem_mem hl)
  exact ⟨z, by rw [Nat.zero_add, h.cellAt i (by omega), List.getElem?_eq_getElem hl, hz]⟩
/-- One cell of such a row. -/
theorem byte_at {w : World} {base e g n : Nat} {xs : List Value} (h : w.ownsRow base e 1 (.slice (some ⟨g, 0, none⟩) n n) n xs) (hx : AllBytes xs) (k : Nat) (hk : k < n) : ∃ z, w.cell? ⟨g, k, none⟩ = some (.int .u8 z) := by
  have hl : k < xs.length := by rw [h.1]; omega
  obtain ⟨z, hz⟩ := hx xs[k] (List.getElem_mem hl)
  exact ⟨z, by rw [h.cellAt k (by omega), List.getElem?_eq_getElem hl, hz]⟩
/-- What one round's store does. -/
theorem rel_store {w wr : World} {e n : Nat} {xs : List Value} (k : Nat) (z : Int) (hx : AllBytes xs) (hown : wr.ownsRow w.heap.size e 1 (.slice (some ⟨w.heap.size, 0, none⟩) n n) n xs) (hbel : Below w.heap.size w wr) :
    AllBytes (xs.set k (.int .u8 z)) ∧ (wr.setCell ⟨w.heap.size, k, none⟩ (.int .u8 z)).ownsRow w.heap.size e 1 (.slice (some ⟨w.heap.size, 0, none⟩) n n) n (xs.set k (.int .u8 z)) ∧ Below w.heap.size w (wr.setCell ⟨w.heap.size, k, none⟩ (.int .u8 z)) :=
  ⟨allBytes_set xs hx k z, (hown.stored k _).1, hbel.setCell (Nat.le_refl _) _⟩

theorem clone_none (w : World) (c : Nat) : Calls Try.prog 12 #[.slice none 0 c] w fun e w' => e = .returned (.slice none 0 0) ∧ w' = w := by
  have h0 := fun (w : World) => Lib.run_eql_slice_nil (P := Try.prog) w 39 5 none 0 c 0 0 Try.underlying39
  go_enter Try.func12, Try.ntmps12
  go_wp2
  go_ret
  exact ⟨rfl, rfl⟩

theorem clone_some (x : Addr) (n c : Nat) (w : World) (hb : Bytes w (some x) n) (hn : n ≤ 1048576) :
    Calls Try.prog 12 #[.slice (some x) n c] w fun e w' => e = .returned (.slice (some ⟨w.heap.size, 0, none⟩) n n) ∧ Bytes w' (some ⟨w.heap.size, 0, none⟩) n ∧ Below w.heap.size w w' := by
  have h0 := fun (w : World) => Lib.run_eql_slice_nil (P := Try.prog) w 39 5 (some x) n c 0 0 Try.underlying39
  obtain ⟨i0, hi, hz0, hz1, hz2⟩ := info_parts Try.info5
  have HB : Hid (Bytes w (some x) n) := hb
  clear hb
  go_enter Try.func12, Try.ntmps12
  go_wp2_with (at_make; refine wpList_make_full _ rfl _ _ 39 rfl w.heap.size 5 i0 (.int .u8 0) 1 Try.underlying39 hi hz0 hz1 _ _ _ _ n rfl rfl (by omega) (by omega) (by rw [hz2]; omega) (by unfold maxLen; omega) (by omega) ?_; intro w1 hown hgrow)
  have hbel : Below w.heap.size w w1 := (Below.refl _ _).grown hgrow (Nat.le_refl _) (fun k hk => by cases hk)
  go_loopw [4] (fun i wr => ∃ (k : Nat) (xs : List Value), k ≤ n ∧ i = .int .i64 k ∧ AllBytes xs ∧ wr.ownsRow w.heap.size 5 1 (.slice (some ⟨w.heap.size, 0, none⟩) n n) n xs ∧ Below w.heap.size w wr) (fun i _ => n - (intOf i).toNat)
  case atStart => exact ⟨0, _, Nat.zero_le _, rfl, allBytes_made n, hown, hbel⟩
  case round =>
    clear hown hgrow hbel
    obtain ⟨k, xs, hk, rfl, hx, hown, hbel⟩ := hrel
    by_cases hlt : k < n
    · rcases HB.out with ⟨h, _⟩ | ⟨x', hx', hcell⟩
      · cases h
      · simp only [Option.some.injEq] at hx'
        subst hx'
        obtain ⟨b, off, rfl, hbs, hcell⟩ := hcell (by omega)
        obtain ⟨z, hz⟩ := hcell k hlt
        have hc1 : wr.cell? ⟨b, off + k, none⟩ = some (.int .u8 z) := (hbel.cell (p := ⟨b, off + k, none⟩) hbs).trans hz
        obtain ⟨z', hc2⟩ := byte_at hown hx k hlt
        have hf := hown.frozenAt k
        have R := rel_store k z hx hown hbel
        have HR : Hid _ := R
        clear R hz hcell HB hx hown hbel hi hz0 hz1 hz2
        go_wp2
        go_roundw
        case rel => exact ⟨k + 1, _, by omega, by go_num, HR.out.1, HR.out.2.1, HR.out.2.2⟩
        case measure => simp [intOf]; omega
    · go_wp2
      go_ret
      exact ⟨rfl, bytes_of_own hown hx, hbel⟩

theorem sets_none (w : World) (c : Nat) : Calls Try.prog 17 #[.slice none 0 c] w fun e w' => e = .returned (.slice none 0 0) ∧ w' = w := by
  have h0 := fun (w : World) => Lib.run_eql_slice_nil (P := Try.prog) w 39 5 none 0 c 0 0 Try.underlying39
  go_enter Try.func17, Try.ntmps17
  go_wp2
  go_ret
  exact ⟨rfl, rfl⟩

theorem sets_some (x : Addr) (n c : Nat) (w : World) (hb : Bytes w (some x) n) (hn : n ≤ 1048576) :
    Calls Try.prog 17 #[.slice (some x) n c] w fun e w' => e = .returned (.slice (some ⟨w.heap.size, 0, none⟩) n n) ∧ Bytes w' (some ⟨w.heap.size, 0, none⟩) n ∧ Below w.heap.size w w' := by
  have h0 := fun (w : World) => Lib.run_eql_slice_nil (P := Try.prog) w 39 5 (some x) n c 0 0 Try.underlying39
  obtain ⟨i0, hi, hz0, hz1, hz2⟩ := info_parts Try.info47
  have HB : Hid (Bytes w (some x) n) := hb
  clear hb
  go_enter Try.func17, Try.ntmps17
  go_wp2_with (at_make; refine wpList_make_full _ rfl _ _ 51 rfl w.heap.size 47 i0 (.int .u8 0) 1 Try.underlying51 hi hz0 hz1 _ _ _ _ n rfl rfl (by omega) (by omega) (by rw [hz2]; omega) (by unfold maxLen; omega) (by omega) ?_; intro w1 hown hgrow)
  have hbel : Below w.heap.size w w1 := (Below.refl _ _).grown hgrow (Nat.le_refl _) (fun k hk => by cases hk)
  go_loopw [4] (fun i wr => ∃ (k : Nat) (xs : List Value), k ≤ n ∧ i = .int .i64 k ∧ AllBytes xs ∧ wr.ownsRow w.heap.size 47 1 (.slice (some ⟨w.heap.size, 0, none⟩) n n) n xs ∧ Below w.heap.size w wr) (fun i _ => n - (intOf i).toNat)
  case atStart => exact ⟨0, _, Nat.zero_le _, rfl, allBytes_made n, hown, hbel⟩
  case round =>
    clear hown hgrow hbel
    obtain ⟨k, xs, hk, rfl, hx, hown, hbel⟩ := hrel
    by_cases hlt : k < n
    · rcases HB.out with ⟨h, _⟩ | ⟨x', hx', hcell⟩
      · cases h
      · simp only [Option.some.injEq] at hx'
        subst hx'
        obtain ⟨b, off, rfl, hbs, hcell⟩ := hcell (by omega)
        obtain ⟨z, hz⟩ := hcell k hlt
        have hc1 : wr.cell? ⟨b, off + k, none⟩ = some (.int .u8 z) := (hbel.cell (p := ⟨b, off + k, none⟩) hbs).trans hz
        obtain ⟨z', hc2⟩ := byte_at hown hx k hlt
        have hf := hown.frozenAt k
        have R := rel_store k z hx hown hbel
        have HR : Hid _ := R
        clear R hz hcell HB hx hown hbel hi hz0 hz1 hz2
        go_wp2
        go_roundw
        case rel => exact ⟨k + 1, _, by omega, by go_num, HR.out.1, HR.out.2.1, HR.out.2.2⟩
        case measure => simp [intOf]; omega
    · go_wp2
      go_ret
      exact ⟨rfl, bytes_of_own hown hx, hbel⟩

end Go.Proofs.Qxb6605867a
