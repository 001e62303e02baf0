import Derived.Test.Qxb6605867aMaps
import Derived.Test.Qxb6605867aRowsOf
namespace Go.Proofs.Qxb6605867a
open Go.RowKit

theorem clone_any (a : Option Addr) (n c : Nat) (w : World) (hb : Bytes w a n) (hn : n ≤ 1048576) :
    Calls Try.prog 12 #[.slice a n c] w fun e w' => ∃ a' c', e = .returned (.slice a' n c') ∧ Bytes w' a' n ∧ Below w.heap.size w w' := by
  cases a with
  | none =>
    obtain rfl : n = 0 := by rcases hb with ⟨_, h⟩ | ⟨x, h, _⟩; exact h; cases h
    exact (clone_none w c).mono fun e w' ⟨he, hw⟩ => ⟨none, 0, he, .inl ⟨rfl, rfl⟩, by rw [hw]; exact Below.refl _ _⟩
  | some x => exact (clone_some x n c w hb hn).mono fun e w' ⟨he, hb', hw⟩ => ⟨_, _, he, hb', hw⟩

theorem sets_any (a : Option Addr) (n c : Nat) (w : World) (hb : Bytes w a n) (hn : n ≤ 1048576) :
    Calls Try.prog 17 #[.slice a n c] w fun e w' => ∃ a' c', e = .returned (.slice a' n c') ∧ Bytes w' a' n ∧ Below w.heap.size w w' := by
  cases a with
  | none =>
    obtain rfl : n = 0 := by rcases hb with ⟨_, h⟩ | ⟨x, h, _⟩; exact h; cases h
    exact (sets_none w c).mono fun e w' ⟨he, hw⟩ => ⟨none, 0, he, .inl ⟨rfl, rfl⟩, by rw [hw]; exact Below.refl _ _⟩
  | some x => exact (sets_some x n c w hb hn).mono fun e w' ⟨he, hb', hw⟩ => ⟨_, _, he, hb', hw⟩

/-- The reader: a new block whose second and third cells are the two maps. -/
theorem newReader_any (r1 r2 : Option Nat) (a : Option Addr) (n c : Nat) (sz : Int) (np : Bool) (w : World) (hb : Bytes w a n) (hn : n ≤ 1048576) :
    Calls Try.prog 13 #[.map r1, .map r2, .slice a n c, .int .i64 sz, .bool np] w fun e w' => ∃ g, e = .returned (.pointer (some ⟨g, 0, none⟩)) ∧ w.heap.size ≤ g ∧ g < w'.heap.size ∧
      w'.cell? ⟨g, 1, none⟩ = some (.map r1) ∧ w'.cell? ⟨g, 2, none⟩ = some (.map r2) ∧ Below w.heap.size w w' := by
  go_enter Try.func13, Try.ntmps13
  go_wp2_with fail
  refine (sets_any a n c _ hb hn).mono ?_
  rintro e w' ⟨a', c', rfl, hb', hbel⟩
  go_wp2
  go_ret
  exact ⟨w'.heap.size, rfl, hbel.size, by simp, by simp [go_sem], by simp [go_sem], hbel.alloc hbel.size _⟩

theorem Bytes.later {w w' : World} {a : Option Addr} {n : Nat} (h : Bytes w a n) (hb : Below w.heap.size w w') : Bytes w' a n := by
  rcases h with h | ⟨x, hx, hc⟩
  · exact .inl h
  · refine .inr ⟨x, hx, fun hn => ?_⟩
    obtain ⟨b, off, rfl, hlt, hc⟩ := hc hn
    refine ⟨b, off, rfl, Nat.lt_of_lt_of_le hlt hb.size, fun i hi => ?_⟩
    obtain ⟨z, hz⟩ := hc i hi
    exact ⟨z, (hb.cell (p := ⟨b, off + i, none⟩) hlt).trans hz⟩

/-- lookup, the name in the first map. -/
theorem lookup_yes (g : Nat) (r1 : Option Nat) (s : ByteArray) (p1 : Int) (w : World) (c1 : w.cell? ⟨g, 1, none⟩ = some (.map r1))
    (h1 : (Instr.lookup 38 (.map r1) (.string s) true).run Try.prog w = .ok (.tuple #[.int .i64 p1, .bool true]) w) :
    Calls Try.prog 14 #[.pointer (some ⟨g, 0, none⟩), .string s] w fun e w' => e = .returned (.tuple #[.int .i64 p1, .bool true]) ∧ w' = w := by
  go_enter Try.func14, Try.ntmps14
  go_wp2
  go_ret2
  exact ⟨rfl, rfl⟩

/-- lookup, the name not in the first map. -/
theorem lookup_no (g : Nat) (r1 r2 : Option Nat) (s : ByteArray) (p1 p2 : Int) (b2 : Bool) (w : World) (c1 : w.cell? ⟨g, 1, none⟩ = some (.map r1)) (c2 : w.cell? ⟨g, 2, none⟩ = some (.map r2))
    (h1 : (Instr.lookup 38 (.map r1) (.string s) true).run Try.prog w = .ok (.tuple #[.int .i64 p1, .bool false]) w)
    (h2 : (Instr.lookup 38 (.map r2) (.string s) true).run Try.prog w = .ok (.tuple #[.int .i64 p2, .bool b2]) w) :
    Calls Try.prog 14 #[.pointer (some ⟨g, 0, none⟩), .string s] w fun e w' => e = .returned (.tuple #[.int .i64 p2, .bool b2]) ∧ w' = w := by
  go_enter Try.func14, Try.ntmps14
  go_wp2
  go_ret2
  exact ⟨rfl, rfl⟩

/-- The one answer of a look-up through two maps. -/
def slotOf (p1 : Int) (b1 : Bool) (p2 : Int) : Int := if b1 then p1 else p2
theorem lookup_any (g : Nat) (r1 r2 : Option Nat) (s : ByteArray) (p1 p2 : Int) (b1 b2 : Bool) (w : World) (c1 : w.cell? ⟨g, 1, none⟩ = some (.map r1)) (c2 : w.cell? ⟨g, 2, none⟩ = some (.map r2))
    (h1 : (Instr.lookup 38 (.map r1) (.string s) true).run Try.prog w = .ok (.tuple #[.int .i64 p1, .bool b1]) w)
    (h2 : (Instr.lookup 38 (.map r2) (.string s) true).run Try.prog w = .ok (.tuple #[.int .i64 p2, .bool b2]) w) :
    Calls Try.prog 14 #[.pointer (some ⟨g, 0, none⟩), .string s] w fun e w' => e = .returned (.tuple #[.int .i64 (slotOf p1 b1 p2), .bool (b1 || b2)]) ∧ w' = w := by
  cases b1
  · simpa [slotOf] using lookup_no g r1 r2 s p1 p2 b2 w c1 c2 h1 h2
  · simpa [slotOf] using lookup_yes g r1 s p1 w c1 h1

theorem empty_le : (ByteArray.mk #[]).size ≤ maxLen := Nat.zero_le _
theorem walk_all (r1 r2 : Option Nat) (a : Option Addr) (n c : Nat) (sz : Int) (np : Bool) (s : ByteArray) (n1 n2 : Nat) (p1 p2 : Int) (b1 b2 : Bool) (w : World)
    (h1 : MapSays w (.map r1) s n1 p1 b1) (h2 : MapSays w (.map r2) s n2 p2 b2) (z1 : b1 = false → p1 = 0) (z2 : b2 = false → p2 = 0) (hb : Bytes w a n) (hn : n ≤ maxLen) (hs : s.size ≤ maxLen) :
    Calls Try.prog 5 #[.map r1, .map r2, .slice a n c, .int .i64 sz, .bool np, .string s] w fun e w' => e = .returned (.bool true) ∧ Below w.heap.size w w' := by
  have H1 : Hid (MapSays w (.map r1) s n1 p1 b1) := h1
  have H2 : Hid (MapSays w (.map r2) s n2 p2 b2) := h2
  have HB : Hid (Bytes w a n) := hb
  clear h1 h2 hb
  go_enter Try.func5, Try.ntmps5
  go_wp2_with fail
  refine (reader_any (.map r1) (.map r2) s ⟨#[]⟩ n1 n2 p1 p2 b1 b2 a n c _ H1.out H2.out hn hs empty_le).mono ?_
  rintro e w0 ⟨⟨b, rfl, hle⟩, rfl⟩
  cases b
  · have hle' := hle rfl
    clear hle
    go_wp2_with fail
    refine (clone_any a n c _ HB.out hle').mono ?_
    rintro e w1 ⟨a1, c1, rfl, hb1, bel1⟩
    go_wp2_with fail
    refine (newReader_any r1 r2 a1 n c1 sz np _ hb1 hle').mono ?_
    rintro e w2 ⟨g2, rfl, hg2, hg2', c21, c22, bel2⟩
    have hb2 := hb1.later bel2
    go_wp2_with fail
    refine (newReader_any r2 r1 a1 n c1 sz np _ hb2 hle').mono ?_
    rintro e w3 ⟨g3, rfl, hg3, hg3', c31, c32, bel3⟩
    have bel : Below w0.heap.size w0 w3 := (bel1.trans (bel2.mono bel1.size)).trans (bel3.mono (Nat.le_trans bel1.size bel2.size))
    have d1 : w3.cell? ⟨g2, 1, none⟩ = some (.map r1) := (bel3.cell (p := ⟨g2, 1, none⟩) hg2').trans c21
    have d2 : w3.cell? ⟨g2, 2, none⟩ = some (.map r2) := (bel3.cell (p := ⟨g2, 2, none⟩) hg2').trans c22
    have l1 := (H1.out w3 bel).2
    have l2 := (H2.out w3 bel).2
    clear H1 H2 HB hb1 hb2 c21 c22 bel1 bel2 bel3
    go_wp2_with fail
    refine (lookup_any g2 r1 r2 s p1 p2 b1 b2 _ d1 d2 l1 l2).mono ?_
    rintro e w4 ⟨rfl, rfl⟩
    go_wp2_with fail
    refine (lookup_any g3 r2 r1 s p2 p1 b2 b1 _ c31 c32 l2 l1).mono ?_
    rintro e w5 ⟨rfl, rfl⟩
    cases b1 <;> cases b2
    all_goals simp [slotOf] at z1 z2 ⊢
    all_goals go_wp2
    all_goals (go_ret; exact ⟨rfl, bel⟩)
  · go_wp2
    go_ret
    exact ⟨rfl, Below.refl _ _⟩
end Go.Proofs.Qxb6605867a
