import Derived.Test.Qxb6608743aLog
import Derived.Laws.Bits64
namespace Go.Proofs.Qxb6608743a
open Go.RowKit

/-- The call hands back a bool, whichever. -/
def SomeBool (e : Ending) : Prop := ∃ b, e = .returned (.bool b)
theorem bytes_any (f : Int) (a1 a2 : Option Addr) (n1 c1 n2 c2 : Nat) (w : World) (h1 : n1 ≤ maxLen) (h2 : n2 ≤ maxLen) :
    Calls Try.prog 4 #[.int .u64 f, .slice a1 n1 c1, .slice a2 n2 c2] w fun e w' => SomeBool e ∧ w' = w := by
  unfold maxLen at *
  go_enter Try.func4, Try.ntmps4
  go_wp2
  all_goals (go_ret; exact ⟨⟨_, rfl⟩, rfl⟩)

/-- Every cell is a word. -/
def AllWords (xs : List Value) : Prop := ∀ v ∈ xs, ∃ z, v = .int .u64 z
theorem AllWords.one {xs : List Value} (h : AllWords xs) : ∀ v ∈ xs, v.oneCell' = true := by
  intro v hv
  obtain ⟨z, rfl⟩ := h v hv
  rfl

/-- A row of the call's own, full, is its block. -/
theorem own_block {w : World} {base e g n : Nat} {xs : List Value} (h : w.ownsRow base e 1 (.slice (some ⟨g, 0, none⟩) n n) n xs) : w.heap[g]? = some (.cells xs.toArray e (0, 0)) := by
  rcases h.2 with ⟨h', _⟩ | ⟨g', cap', cur, h', hb, hg, hnc, hcm, hcs, htake⟩
  · simp at h'
  · simp only [Value.slice.injEq, Option.some.injEq, Addr.mk.injEq, and_true, true_and] at h'
    obtain ⟨rfl, rfl⟩ := h'
    rw [List.take_of_length_le (by simp; omega)] at htake
    rw [hg, ← htake]
/-- A block of cells that is known whole: each cell reads. -/
theorem block_cell {w : World} {g e : Nat} {xs : List Value} (h : w.heap[g]? = some (.cells xs.toArray e (0, 0))) (i : Nat) : w.cell? ⟨g, i, none⟩ = xs[i]? := by
  simp [World.cell?, h]
theorem block_lt {w : World} {g : Nat} {o : Obj} (h : w.heap[g]? = some o) : g < w.heap.size := (Array.getElem?_eq_some_iff.1 h).1

/-- A row of words that is known whole, as the callees want it. -/
theorem words_of_block {w : World} {g e n : Nat} {xs : List Value} (h : w.heap[g]? = some (.cells xs.toArray e (0, 0))) (hl : xs.length = n) (hx : AllWords xs) : Words w (some ⟨g, 0, none⟩) n := by
  intro _
  refine ⟨g, 0, rfl, block_lt h, fun i hi => ?_⟩
  have hli : i < xs.length := by omega
  obtain ⟨z, hz⟩ := hx xs[i] (List.getElem_mem hli)
  exact ⟨z, by rw [Nat.zero_add, block_cell h, List.getElem?_eq_getElem hli, hz]⟩

/-- 'zzc := make([]uint64, len(a)); copy(zzc, a)': behind the copy the new row holds a's elements. -/
theorem copy_full {W w1 : World} {ys : List Value} (x : Addr) (n c : Nat) (X : List Value) (hl : X.length = n) (hc : ∀ j v, X[j]? = some v → W.cell? (x.add j) = some v) (hw : AllWords X)
    (hown : w1.ownsRow W.heap.size 22 1 (.slice (some ⟨W.heap.size, 0, none⟩) n n) n ys) (hgrow : W.grownBy w1 none) :
    ∃ w2, (∀ ty, (Builtin.copy_ #[23, 23] ty #[.slice (some ⟨W.heap.size, 0, none⟩) n n, .slice (some x) n c]).run Try.prog w1 = .ok (goInt n) w2) ∧
      Hid (w2.heap[W.heap.size]? = some (.cells X.toArray 22 (0, 0))) ∧ Hid (Below W.heap.size W w2) := by
  have hb : Below W.heap.size W w1 := (Below.refl _ _).grown hgrow (Nat.le_refl _) (fun k hk => by cases hk)
  have hg := own_block hown
  have hy : ys.length = n := by have := hown.1; omega
  refine ⟨w1.setRow W.heap.size X.toArray, fun ty => ?_, setRow_heap _ _ _ _ _ _ hg, below_setRow hb (Nat.le_refl _) _⟩
  have h := run_copy_row (P := Try.prog) w1 23 23 ty 22 W.heap.size 0 n n x n c ys.toArray 22 X Try.underlying23 (by kernel_rfl) hg (by rw [hl]; exact (Nat.min_self n).symm)
    (fun j v hj => cell_later hb (hc j v hj)) (by simp; omega) hw.one
  rw [h, hl]
  simp [List.drop_eq_nil_of_le (show ys.length ≤ n by omega)]

/-- A row's cells, asked for later. -/
theorem src_later {w w' : World} {g e : Nat} {X : List Value} (h : w.heap[g]? = some (.cells X.toArray e (0, 0))) (hb : Below w.heap.size w w') : ∀ ad, some (⟨g, 0, none⟩ : Addr) = some ad → ∀ j u, X[j]? = some u → w'.cell? (ad.add j) = some u := by
  intro ad had j u hu
  obtain rfl := Option.some.inj had
  refine cell_later hb ?_
  rw [Addr.add_lit, Nat.zero_add, block_cell h]
  exact hu

/-! ### The plain facts -/
theorem lastOf_join (f : Int) (n1 n2 : Nat) : lastOf f (n1 + n2) = lastOf (IntKind.u64.wrap (lastOf f n1 + 1)) n2 := by
  unfold lastOf
  simp only [IntKind.wrap_u64]
  omega
theorem lastOf_none (f : Int) (h0 : 0 ≤ f) (h1 : f ≤ 18446744073709551615) : IntKind.u64.wrap (lastOf f 0 + 1) = f := by
  unfold lastOf
  simp only [IntKind.wrap_u64]
  omega
/-- ZZcopyLogLast, the number behind a letter. -/
theorem last_of (g n c : Nat) (ad : Option Addr) (f : Int) (w : World) (hn : n ≤ 131072) (c5 : w.cell? ⟨g, 5, none⟩ = some (.int .u64 f)) (c8 : w.cell? ⟨g, 8, none⟩ = some (.slice ad n c)) :
    Calls Try.prog 5 #[.pointer (some ⟨g, 0, none⟩)] w fun e w' => ∃ v, e = .returned (.int .u64 v) ∧ Hid (v = lastOf f n) ∧ Below w.heap.size w w' :=
  (last_any g n c ad f w hn c5 c8).mono fun _ _ ⟨he, hb⟩ => ⟨_, he, rfl, hb⟩
theorem walk_big1 (f : Int) (a1 a2 : Option Addr) (n1 c1 n2 c2 : Nat) (w : World) (h1 : n1 ≤ maxLen) (h2 : n2 ≤ maxLen) (hb : (65536 : Int) < (n1 : Int)) :
    Calls Try.prog 3 #[.int .u64 f, .slice a1 n1 c1, .slice a2 n2 c2] w fun e w' => e = .returned (.bool true) ∧ Below w.heap.size w w' := by
  go_enter Try.func3, Try.ntmps3
  go_wp2_with fail
  refine (bytes_any _ _ _ _ _ _ _ _ h1 h2).mono ?_
  rintro e W ⟨⟨b, rfl⟩, rfl⟩
  cases b
  all_goals go_wp2
  all_goals go_ret
  all_goals exact ⟨rfl, Below.refl _ _⟩
theorem walk_big2 (f : Int) (a1 a2 : Option Addr) (n1 c1 n2 c2 : Nat) (w : World) (h1 : n1 ≤ maxLen) (h2 : n2 ≤ maxLen) (hs : (n1 : Int) ≤ 65536) (hb : (65536 : Int) < (n2 : Int)) :
    Calls Try.prog 3 #[.int .u64 f, .slice a1 n1 c1, .slice a2 n2 c2] w fun e w' => e = .returned (.bool true) ∧ Below w.heap.size w w' := by
  go_enter Try.func3, Try.ntmps3
  go_wp2_with fail
  refine (bytes_any _ _ _ _ _ _ _ _ h1 h2).mono ?_
  rintro e W ⟨⟨b, rfl⟩, rfl⟩
  cases b
  all_goals go_wp2
  all_goals go_ret
  all_goals exact ⟨rfl, Below.refl _ _⟩
theorem words_none (w : World) : Words w none 0 := fun h => absurd h (by omega)
theorem allWords_append {xs ys : List Value} (h : AllWords xs) (k : AllWords ys) : AllWords (xs ++ ys) := by
  intro v hv
  rcases List.mem_append.1 hv with h' | h'
  · exact h v h'
  · exact k v h'

theorem grown_none {w w' : World} (h : w.grownBy w' none) : Below w.heap.size w w' := (Below.refl _ _).grown h (Nat.le_refl _) (fun k hk => by cases hk)
theorem grown_row {B : Nat} {w w' : World} (h : w.grownBy w' (some B)) (hB : B ≤ w.heap.size) : Below B w w' := (Below.refl _ _).grown h hB (fun k hk => by cases hk; exact Nat.le_refl _)
theorem below_chain {B : Nat} {a b c : World} (h : Below B a b) (k : Below b.heap.size b c) (hB : B ≤ b.heap.size) : Below B a c := h.trans (k.mono hB)

end Go.Proofs.Qxb6608743a
