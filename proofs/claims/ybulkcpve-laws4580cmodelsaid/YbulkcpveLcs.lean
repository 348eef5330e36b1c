/-
  THE PLAIN LAW: the table of the longest common subsequence, over two functions from places to bytes. No Go in sight.
-/
namespace Go.Proofs.Ybulkcpve.Lcs

/-- The next row of the table from the row above it. -/
def step (eq : Nat → Bool) (prev : Nat → Nat) : Nat → Nat
  | 0 => 0
  | j + 1 => if eq j then prev j + 1 else max (prev (j + 1)) (step eq prev j)

/-- Row i of the table for a and b. -/
def L (a b : Nat → Nat) : Nat → Nat → Nat
  | 0 => fun _ => 0
  | i + 1 => step (fun j => a i == b j) (L a b i)

theorem L_zero (a b : Nat → Nat) (j : Nat) : L a b 0 j = 0 := rfl
theorem L_at_zero (a b : Nat → Nat) (i : Nat) : L a b i 0 = 0 := by cases i <;> rfl
theorem L_eq (a b : Nat → Nat) (i j : Nat) (h : a i = b j) : L a b (i + 1) (j + 1) = L a b i j + 1 := by
  show step _ _ _ = _
  simp [step, h]
theorem L_ne (a b : Nat → Nat) (i j : Nat) (h : a i ≠ b j) : L a b (i + 1) (j + 1) = max (L a b i (j + 1)) (L a b (i + 1) j) := by
  show step _ _ _ = max _ (step _ _ _)
  simp [step, h]

theorem L_le (a b : Nat → Nat) : ∀ i j, L a b i j ≤ i ∧ L a b i j ≤ j := by
  intro i
  induction i with
  | zero => intro j; simp [L_zero]
  | succ i ih =>
    intro j
    induction j with
    | zero => simp [L_at_zero]
    | succ j jh =>
      by_cases h : a i = b j
      · rw [L_eq a b i j h]; have := ih j; omega
      · rw [L_ne a b i j h]
        have := ih (j + 1); have h2 := ih j
        have m1 := L_ne a b i j h
        refine ⟨?_, ?_⟩
        · omega
        · -- by the row above, one place to the left
          have k : L a b i (j + 1) ≤ j + 1 := (ih (j + 1)).2
          omega

theorem L_symm (a b : Nat → Nat) : ∀ i j, L a b i j = L b a j i := by
  intro i
  induction i with
  | zero => intro j; rw [L_zero, L_at_zero]
  | succ i ih =>
    intro j
    induction j with
    | zero => rw [L_at_zero, L_zero]
    | succ j jh =>
      by_cases h : a i = b j
      · rw [L_eq a b i j h, L_eq b a j i h.symm, ih j]
      · rw [L_ne a b i j h, L_ne b a j i (fun e => h e.symm), ih (j + 1), jh, Nat.max_comm]

theorem L_self (a : Nat → Nat) : ∀ i, L a a i i = i := by
  intro i
  induction i with
  | zero => rfl
  | succ i ih => rw [L_eq a a i i rfl, ih]

/-- Only the places below are looked at. -/
theorem L_congr (a b a' b' : Nat → Nat) (m n : Nat) (ha : ∀ i, i < m → a i = a' i) (hb : ∀ j, j < n → b j = b' j) : ∀ i j, i ≤ m → j ≤ n → L a b i j = L a' b' i j := by
  intro i
  induction i with
  | zero => intro j _ _; rw [L_zero, L_zero]
  | succ i ih =>
    intro j
    induction j with
    | zero => intro _ _; rw [L_at_zero, L_at_zero]
    | succ j jh =>
      intro hi hj
      by_cases h : a i = b j
      · rw [L_eq a b i j h, L_eq a' b' i j (by rw [← ha i (by omega), ← hb j (by omega)]; exact h), ih j (by omega) (by omega)]
      · rw [L_ne a b i j h, L_ne a' b' i j (by rw [← ha i (by omega), ← hb j (by omega)]; exact h), ih (j + 1) (by omega) hj, jh hi (by omega)]

end Go.Proofs.Ybulkcpve.Lcs
