/-
  THE PLAIN LAW of the Luhn digit. Bytes are a function 'd : Nat → Int' and a length.
-/
namespace Go.Proofs.Qxb6000387a.Lu

/-- one digit's share: doubled (less 9 past 9) or not -/
def tm (x : Int) (b : Bool) : Int := if b then (if 9 < 2 * x then 2 * x - 9 else 2 * x) else x
theorem tm_bd (x : Int) (b : Bool) (h0 : 0 ≤ x) (h1 : x ≤ 9) : 0 ≤ tm x b ∧ tm x b ≤ 9 := by
  unfold tm
  split
  · split <;> omega
  · omega

/-- what 'luhn' has summed after k digits from the right of n -/
def sumL (d : Nat → Int) (n : Nat) : Nat → Int
  | 0 => 0
  | k + 1 => sumL d n k + tm (d (n - 1 - k) - 48) (k % 2 == 0)
/-- what 'luhnValid' has summed after k digits from the right of n -/
def sumV (d : Nat → Int) (n : Nat) : Nat → Int
  | 0 => 0
  | k + 1 => sumV d n k + tm (d (n - 1 - k) - 48) (k % 2 == 1)

def Digits (d : Nat → Int) (n : Nat) : Prop := ∀ j, j < n → 48 ≤ d j ∧ d j ≤ 57

theorem sumL_bd {d : Nat → Int} {n : Nat} (h : Digits d n) : ∀ k, k ≤ n → 0 ≤ sumL d n k ∧ sumL d n k ≤ 9 * (k : Int)
  | 0, _ => by simp [sumL]
  | k + 1, hk => by
    have ih := sumL_bd h k (by omega)
    have hd := h (n - 1 - k) (by omega)
    have := tm_bd (d (n - 1 - k) - 48) (k % 2 == 0) (by omega) (by omega)
    rw [sumL]
    omega
theorem sumV_bd {d : Nat → Int} {n : Nat} (h : Digits d n) : ∀ k, k ≤ n → 0 ≤ sumV d n k ∧ sumV d n k ≤ 9 * (k : Int)
  | 0, _ => by simp [sumV]
  | k + 1, hk => by
    have ih := sumV_bd h k (by omega)
    have hd := h (n - 1 - k) (by omega)
    have := tm_bd (d (n - 1 - k) - 48) (k % 2 == 1) (by omega) (by omega)
    rw [sumV]
    omega

theorem even_b {k : Nat} (h : k % 2 = 0) : (k % 2 == 0) = true ∧ (k % 2 == 1) = false := by
  rw [h]; exact ⟨rfl, rfl⟩
theorem odd_b {k : Nat} (h : k % 2 = 1) : (k % 2 == 0) = false ∧ (k % 2 == 1) = true := by
  rw [h]; exact ⟨rfl, rfl⟩

/-- the digits with one more at their end -/
def snoc (d : Nat → Int) (n : Nat) (y : Int) : Nat → Int := fun j => if j < n then d j else y
theorem snoc_digits {d : Nat → Int} {n : Nat} {y : Int} (h : Digits d n) (h0 : 48 ≤ y) (h1 : y ≤ 57) : Digits (snoc d n y) (n + 1) := by
  intro j hj
  unfold snoc
  split
  · exact h j (by assumption)
  · exact ⟨h0, h1⟩

theorem sum_snoc (d : Nat → Int) (n : Nat) (y : Int) : ∀ k, k ≤ n → sumV (snoc d n y) (n + 1) (k + 1) = (y - 48) + sumL d n k
  | 0, _ => by
    rw [sumV, sumV, sumL]
    simp [snoc, tm]
  | k + 1, hk => by
    have ih := sum_snoc d n y k (by omega)
    rw [sumV, ih, sumL]
    have e1 : snoc d n y (n + 1 - 1 - (k + 1)) = d (n - 1 - k) := by
      unfold snoc
      rw [if_pos (by omega)]
      congr 1
      omega
    have e2 : ((k + 1) % 2 == 1) = (k % 2 == 0) := by
      rcases Nat.mod_two_eq_zero_or_one k with h | h
      · rw [(even_b h).1, (odd_b (by omega : (k + 1) % 2 = 1)).2]
      · rw [(odd_b h).1, (even_b (by omega : (k + 1) % 2 = 0)).2]
    rw [e1, e2]
    omega

/-- the check digit, as a byte -/
def check (d : Nat → Int) (n : Nat) : Int := 48 + (10 - sumL d n n % 10) % 10
theorem check_bd (d : Nat → Int) (n : Nat) : 48 ≤ check d n ∧ check d n ≤ 57 := by unfold check; omega

/-- of the ten digits just the check digit completes -/
theorem completes (d : Nat → Int) (n : Nat) (y : Int) (h0 : 48 ≤ y) (h1 : y ≤ 57) : sumV (snoc d n y) (n + 1) (n + 1) % 10 = 0 ↔ y = check d n := by
  rw [sum_snoc d n y n (Nat.le_refl _)]
  unfold check
  omega

end Go.Proofs.Qxb6000387a.Lu
