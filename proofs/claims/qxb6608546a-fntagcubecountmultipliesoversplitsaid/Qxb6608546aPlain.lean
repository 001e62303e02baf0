namespace Go.Proofs.Qxb6608546a.Plain

/-- How many of the lowest k bits of f are set. -/
def pc : Nat → Nat → Nat
  | 0, _ => 0
  | k + 1, f => f % 2 + pc k (f / 2)

theorem pc_succ (k f : Nat) : pc (k + 1) f = f % 2 + pc k (f / 2) := rfl

/-- Does u agree with t on each of the lowest k bits that f does not set? -/
def mem : Nat → Nat → Nat → Nat → Bool
  | 0, _, _, _ => true
  | k + 1, t, f, u => (f % 2 == 1 || u % 2 == t % 2) && mem k (t / 2) (f / 2) (u / 2)

theorem mem_succ (k t f u : Nat) : mem (k + 1) t f u = ((f % 2 == 1 || u % 2 == t % 2) && mem k (t / 2) (f / 2) (u / 2)) := rfl

/-- How many u below N are members. -/
def cnt (k t f : Nat) : Nat → Nat
  | 0 => 0
  | N + 1 => cnt k t f N + if mem k t f N then 1 else 0

theorem cnt_le (k t f : Nat) : ∀ N, cnt k t f N ≤ N
  | 0 => Nat.le_refl _
  | N + 1 => by
    have := cnt_le k t f N
    unfold cnt
    split <;> omega

theorem cnt_succ (k t f N : Nat) : cnt k t f (N + 1) = cnt k t f N + if mem k t f N then 1 else 0 := rfl

theorem cnt_double (k t f N : Nat) : cnt (k + 1) t f (2 * N) = (1 + f % 2) * cnt k (t / 2) (f / 2) N := by
  induction N with
  | zero => rfl
  | succ N ih =>
    rw [show 2 * (N + 1) = (2 * N + 1) + 1 from by omega, cnt_succ, cnt_succ, ih, cnt_succ, Nat.mul_add, Nat.add_assoc]
    congr 1
    have e0 : mem (k + 1) t f (2 * N) = ((f % 2 == 1 || t % 2 == 0) && mem k (t / 2) (f / 2) N) := by
      rw [mem_succ]
      rw [show 2 * N / 2 = N from by omega, show 2 * N % 2 = 0 from by omega]
      rcases Nat.mod_two_eq_zero_or_one t with h | h <;> simp [h]
    have e1 : mem (k + 1) t f (2 * N + 1) = ((f % 2 == 1 || t % 2 == 1) && mem k (t / 2) (f / 2) N) := by
      rw [mem_succ]
      rw [show (2 * N + 1) / 2 = N from by omega, show (2 * N + 1) % 2 = 1 from by omega]
      rcases Nat.mod_two_eq_zero_or_one t with h | h <;> simp [h]
    rw [e0, e1]
    rcases Nat.mod_two_eq_zero_or_one f with hf | hf <;> rcases Nat.mod_two_eq_zero_or_one t with ht | ht <;> cases mem k (t / 2) (f / 2) N <;> simp [hf, ht]

theorem cnt_all (k t f : Nat) : cnt k t f (2 ^ k) = 2 ^ pc k f := by
  induction k generalizing t f with
  | zero => rfl
  | succ k ih =>
    rw [Nat.pow_succ, Nat.mul_comm, cnt_double, ih]
    rw [pc_succ]
    rcases Nat.mod_two_eq_zero_or_one f with hf | hf <;> simp [hf, Nat.pow_add]

theorem zero_iff (x : Nat) : x = 0 ↔ x % 2 = 0 ∧ x / 2 = 0 := by omega

theorem mem_iff (k t f u : Nat) (hf : f < 2 ^ k) (ht : t < 2 ^ k) (hu : u < 2 ^ k) : (u ^^^ t) &&& (2 ^ k - 1 - f) = 0 ↔ mem k t f u = true := by
  induction k generalizing t f u with
  | zero => simp [mem]
  | succ k ih =>
    have hp : 2 ^ (k + 1) = 2 * 2 ^ k := by rw [Nat.pow_succ]; omega
    rw [zero_iff, Nat.and_div_two, Nat.xor_div_two, show (2 ^ (k + 1) - 1 - f) / 2 = 2 ^ k - 1 - f / 2 from by omega, ih (t / 2) (f / 2) (u / 2) (by omega) (by omega) (by omega)]
    rw [mem_succ]
    rw [Bool.and_eq_true]
    refine and_congr ?_ Iff.rfl
    have e : ((u ^^^ t) &&& (2 ^ (k + 1) - 1 - f)) % 2 = ((u % 2 ^^^ t % 2) &&& (1 - f % 2)) := by
      have h := @Nat.and_mod_two_pow (u ^^^ t) (2 ^ (k + 1) - 1 - f) 1
      rw [Nat.xor_mod_two_pow] at h
      simp only [Nat.pow_one] at h
      rw [h, show (2 ^ (k + 1) - 1 - f) % 2 = 1 - f % 2 from by omega]
    rw [e]
    rcases Nat.mod_two_eq_zero_or_one f with hf | hf <;> rcases Nat.mod_two_eq_zero_or_one t with ht | ht <;> rcases Nat.mod_two_eq_zero_or_one u with hu | hu <;> simp [hf, ht, hu]

theorem and_mod2 (a b : Nat) : (a &&& b) % 2 = (a % 2) &&& (b % 2) := by
  have h := @Nat.and_mod_two_pow a b 1
  simpa using h

/-- A cut of f by p: the counts add up. -/
theorem pc_split (k f p : Nat) (hp : p < 2 ^ k) : pc k (f &&& p) + pc k (f &&& (2 ^ k - 1 - p)) = pc k f := by
  induction k generalizing f p with
  | zero => rfl
  | succ k ih =>
    have hk : 2 ^ (k + 1) = 2 * 2 ^ k := by rw [Nat.pow_succ]; omega
    rw [pc_succ, pc_succ, pc_succ, Nat.and_div_two, Nat.and_div_two, show (2 ^ (k + 1) - 1 - p) / 2 = 2 ^ k - 1 - p / 2 from by omega, and_mod2, and_mod2, show (2 ^ (k + 1) - 1 - p) % 2 = 1 - p % 2 from by omega]
    have := ih (f / 2) (p / 2) (by omega)
    rcases Nat.mod_two_eq_zero_or_one f with hf | hf <;> rcases Nat.mod_two_eq_zero_or_one p with hp | hp <;> simp [hf, hp] <;> omega

theorem pc_le (k f : Nat) : pc k f ≤ k := by
  induction k generalizing f with
  | zero => exact Nat.le_refl _
  | succ k ih => rw [pc_succ]; have := ih (f / 2); omega

theorem pc_add (j k f : Nat) : pc (j + k) f = pc j f + pc k (f / 2 ^ j) := by
  induction j generalizing f with
  | zero => simp [pc]
  | succ j ih =>
    rw [show j + 1 + k = (j + k) + 1 from by omega]
    rw [pc_succ, pc_succ]
    rw [ih, Nat.div_div_eq_div_mul, ← Nat.pow_succ', Nat.add_assoc]

theorem pc_mod (k f : Nat) : pc k (f % 2 ^ k) = pc k f := by
  induction k generalizing f with
  | zero => rfl
  | succ k ih =>
    have hk : 2 ^ (k + 1) = 2 * 2 ^ k := by rw [Nat.pow_succ]; omega
    rw [pc_succ, pc_succ]
    have e1 : f % 2 ^ (k + 1) % 2 = f % 2 := by rw [hk]; exact Nat.mod_mul_right_mod f 2 (2 ^ k)
    have e2 : f % 2 ^ (k + 1) / 2 = f / 2 % 2 ^ k := by rw [hk]; exact Nat.mod_mul_right_div_self f 2 (2 ^ k)
    rw [e1, e2, ih]

/-- The set bits of f, taken out of s and pushed together. -/
def rank : Nat → Nat → Nat → Nat
  | 0, _, _ => 0
  | k + 1, s, f => if f % 2 = 1 then s % 2 + 2 * rank k (s / 2) (f / 2) else rank k (s / 2) (f / 2)

theorem rank_succ (k s f : Nat) : rank (k + 1) s f = if f % 2 = 1 then s % 2 + 2 * rank k (s / 2) (f / 2) else rank k (s / 2) (f / 2) := rfl

theorem rank_zero (k f : Nat) : rank k 0 f = 0 := by
  induction k generalizing f with
  | zero => rfl
  | succ k ih => rw [rank_succ]; simp [ih]

theorem rank_full (k f : Nat) : rank k f f + 1 = 2 ^ pc k f := by
  induction k generalizing f with
  | zero => rfl
  | succ k ih =>
    rw [rank_succ, pc_succ]
    have := ih (f / 2)
    rcases Nat.mod_two_eq_zero_or_one f with hf | hf <;> simp [hf, Nat.pow_add] <;> omega

theorem rank_pred (k s f : Nat) (hs : s &&& f = s) (h0 : s ≠ 0) (hk : s < 2 ^ k) : rank k ((s - 1) &&& f) f + 1 = rank k s f := by
  induction k generalizing s f with
  | zero => simp at hk; omega
  | succ k ih =>
    have hkk : 2 ^ (k + 1) = 2 * 2 ^ k := by rw [Nat.pow_succ]; omega
    have hd : s / 2 &&& f / 2 = s / 2 := by rw [← Nat.and_div_two, hs]
    have hm : s % 2 &&& f % 2 = s % 2 := by rw [← and_mod2, hs]
    rw [rank_succ, rank_succ, Nat.and_div_two, and_mod2]
    rcases Nat.mod_two_eq_zero_or_one s with h | h
    · have e1 : (s - 1) / 2 = s / 2 - 1 := by omega
      have e2 : (s - 1) % 2 = 1 := by omega
      have := ih (s / 2) (f / 2) hd (by omega) (by omega)
      rw [e1, e2, h]
      rcases Nat.mod_two_eq_zero_or_one f with hf | hf <;> simp [hf] <;> omega
    · have e1 : (s - 1) / 2 = s / 2 := by omega
      have e2 : (s - 1) % 2 = 0 := by omega
      rw [e1, e2, h, hd]
      have hf : f % 2 = 1 := by
        rcases Nat.mod_two_eq_zero_or_one f with hf | hf
        · rw [h, hf] at hm; simp at hm
        · exact hf
      simp [hf]; omega

end Go.Proofs.Qxb6608546a.Plain
