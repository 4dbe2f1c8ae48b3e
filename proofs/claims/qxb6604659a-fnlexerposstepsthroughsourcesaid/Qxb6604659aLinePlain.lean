/-
  Plain mathematics of lines: no Go in sight.
-/
namespace Go.Proofs.Qxb6604659a
/-- How many of the first k bytes are newlines. -/
def nlOf (z : Nat → Int) : Nat → Nat
  | 0 => 0
  | k + 1 => if (z k == 10) = true then nlOf z k + 1 else nlOf z k
/-- Where the line that holds place k begins. -/
def lsOf (z : Nat → Int) : Nat → Nat
  | 0 => 0
  | k + 1 => if (z k == 10) = true then k + 1 else lsOf z k
theorem nlOf_le (z : Nat → Int) (k : Nat) : nlOf z k ≤ k := by
  induction k with
  | zero => simp [nlOf]
  | succ k ih => unfold nlOf; split <;> omega
theorem lsOf_le (z : Nat → Int) (k : Nat) : lsOf z k ≤ k := by
  induction k with
  | zero => simp [lsOf]
  | succ k ih => unfold lsOf; split <;> omega
theorem nlOf_hit {z : Nat → Int} {k : Nat} (h : (z k == 10) = true) : nlOf z (k + 1) = nlOf z k + 1 := by simp only [nlOf, if_pos h]
theorem nlOf_miss {z : Nat → Int} {k : Nat} (h : (z k == 10) = false) : nlOf z (k + 1) = nlOf z k := by simp [nlOf, h]
theorem lsOf_hit {z : Nat → Int} {k : Nat} (h : (z k == 10) = true) : lsOf z (k + 1) = k + 1 := by simp only [lsOf, if_pos h]
theorem lsOf_miss {z : Nat → Int} {k : Nat} (h : (z k == 10) = false) : lsOf z (k + 1) = lsOf z k := by simp [lsOf, h]
/-- Between the line's start and k there is no newline. -/
theorem lsOf_none (z : Nat → Int) (k m : Nat) (h1 : lsOf z k ≤ m) (h2 : m < k) : (z m == 10) = false := by
  induction k with
  | zero => omega
  | succ k ih =>
    by_cases h : (z k == 10) = true
    · rw [lsOf_hit h] at h1; omega
    · have h' : (z k == 10) = false := by simpa using h
      rw [lsOf_miss h'] at h1
      by_cases e : m = k
      · subst e; exact h'
      · exact ih h1 (by omega)
/-- The line's start is 0, or a newline stands right ahead of it. -/
theorem lsOf_start (z : Nat → Int) (k m : Nat) (h : lsOf z k = m + 1) : (z m == 10) = true := by
  induction k with
  | zero => simp [lsOf] at h
  | succ k ih =>
    by_cases hk : (z k == 10) = true
    · rw [lsOf_hit hk] at h
      have : m = k := by omega
      subst this; exact hk
    · have h' : (z k == 10) = false := by simpa using hk
      rw [lsOf_miss h'] at h
      exact ih h
end Go.Proofs.Qxb6604659a
