import Derived.Test.Qxb6605867aRows
import Derived.WalkKit
import Derived.WalkSpells
import Derived.Maps.OwnSet
import Derived.StringKeys
namespace Go.Proofs.Qxb6605867a
open Go.RowKit Go.Maps Go.WideMaps

theorem law9 : Keyed Try.prog 9 := string_keyed Try.underlying9
theorem zero3 (w : World) : (zeroValue 3).run Try.prog w = .ok (.int .i64 0) w := by kernel_rfl

/-- What the walk is told of a map that came in: in every later world its length reads n, and the look-up of s gives p and b. -/
def MapSays (W : World) (m : Value) (s : ByteArray) (n : Nat) (p : Int) (b : Bool) : Prop :=
  ∀ w' : World, Below W.heap.size W w' → (∀ ty, (Builtin.len_ #[38] ty #[m]).run Try.prog w' = .ok (.int .i64 n) w') ∧
    (Instr.lookup 38 m (.string s) true).run Try.prog w' = .ok (.tuple #[.int .i64 p, .bool b]) w'

theorem says_nil (W : World) (s : ByteArray) (hs : s.size ≤ maxLen) : MapSays W (.map none) s 0 0 false :=
  fun w' _ => ⟨fun ty => len_nil (w := w') Try.underlying38 ty, look_nil (w := w') true law9 Try.underlying38 (zero3 _) (keyOf_string_mk Try.underlying9 hs)⟩

theorem says_map {H : Type} {W : World} {b n : Nat} {D : DataW H} (h : W.ownsMap Try.prog 9 (plainElem Try.prog 3) b n D) (s : ByteArray) (hs : s.size ≤ maxLen) :
    ∃ p o, MapSays W (.map (some b)) s (Maps.size D) p o ∧ (o = false → p = 0) := by
  have hkey := keyOf_string_mk (P := Try.prog) Try.underlying9 hs
  have hb := h.lt
  have key : ∀ w' : World, Below W.heap.size W w' → ∃ c, (Instr.lookup 38 (.map (some b)) (.string s) true).run Try.prog w' = .ok (.tuple #[.int .i64 c, .bool (Maps.has D (.string s.data.toList))]) w' ∧ D.atKey (.string s.data.toList) (.lit (.int .i64 0)) = .lit (.int .i64 c) := by
    intro w' hw
    have h' : w'.ownsMap Try.prog 9 (plainElem Try.prog 3) b n D := by
      obtain ⟨es, clock, hc, hr⟩ := h
      exact ⟨es, clock, by rw [hw.block b hb]; exact hc, hr⟩
    obtain ⟨v, ps, hrun, hv⟩ := h'.look_ok law9 Try.underlying38 (zero3 _) (plainElem_int Try.underlying3 (by decide)) hkey
    obtain ⟨c, rfl, hc, _⟩ := plainElem_int_inv Try.underlying3 hv
    simp only [Prod.mk.injEq] at hc
    exact ⟨c, hrun, hc.1⟩
  obtain ⟨c, _, hc⟩ := key W (Below.refl _ _)
  refine ⟨c, Maps.has D (.string s.data.toList), fun w' hw => ⟨fun ty => ?_, ?_⟩, fun ho => ?_⟩
  · have h' : w'.ownsMap Try.prog 9 (plainElem Try.prog 3) b n D := by
      obtain ⟨es, clock, hc, hr⟩ := h
      exact ⟨es, clock, by rw [hw.block b hb]; exact hc, hr⟩
    exact h'.len Try.underlying38 ty
  · obtain ⟨c', hrun, hc'⟩ := key w' hw
    rw [hc] at hc'
    simp only [DataW.lit.injEq, Lit.int.injEq, true_and] at hc'
    rw [hc']; exact hrun
  · rw [atKey_of_not_has ho] at hc
    simp only [DataW.lit.injEq, Lit.int.injEq, true_and] at hc
    exact hc.symm

/-- What the size guard says: where it says no, there are at most 2^20 kinds. -/
def GuardSays (len : Nat) (e : Ending) : Prop := ∃ b, e = .returned (.bool b) ∧ (b = false → len ≤ 1048576)
theorem guard_yes (len : Nat) : GuardSays len (.returned (.bool true)) := ⟨true, rfl, fun h => by cases h⟩
theorem guard_le (len : Nat) (b : Bool) (h : len ≤ 1048576) : GuardSays len (.returned (.bool b)) := ⟨b, rfl, fun _ => h⟩

theorem reader_any (m1 m2 : Value) (s1 s2 : ByteArray) (n1 n2 : Nat) (p1 p2 : Int) (b1 b2 : Bool) (a : Option Addr) (len cap : Nat) (w : World)
    (h1 : MapSays w m1 s1 n1 p1 b1) (h2 : MapSays w m2 s1 n2 p2 b2) (hl : len ≤ maxLen) (hs1 : s1.size ≤ maxLen) (hs2 : s2.size ≤ maxLen) :
    Calls Try.prog 11 #[m1, m2, .slice a len cap, .string s1, .string s2] w fun e w' => GuardSays len e ∧ w' = w := by
  have l1 := (h1 w (Below.refl _ _)).1
  have l2 := (h2 w (Below.refl _ _)).1
  unfold maxLen at *
  clear h1 h2
  go_enter Try.func11, Try.ntmps11
  go_wp2
  all_goals (go_ret; first | exact ⟨guard_yes _, rfl⟩ | exact ⟨guard_le _ _ (by omega), rfl⟩)
end Go.Proofs.Qxb6605867a
