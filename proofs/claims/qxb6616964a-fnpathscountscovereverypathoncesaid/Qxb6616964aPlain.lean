/-
  THE PLAIN PART: the number of a pair; rows that never fall. No Go in sight.
-/
namespace Go.Proofs.Qxb6616964a

/-- The number of the pair (u, u + 1) among the pairs of n nodes. -/
def tri (n u : Int) : Int := u * (2 * n - u - 1) / 2

theorem mul_bd (n u : Int) (h0 : 0 ≤ u) (h1 : u ≤ n) (h2 : 1 ≤ n) (h3 : n ≤ 65536) : 0 ≤ u * (2 * n - u - 1) ∧ u * (2 * n - u - 1) ≤ 8589934592 := by
  constructor
  · exact Int.mul_nonneg h0 (by omega)
  · have a : u * (2 * n - u - 1) ≤ 65536 * (2 * n - u - 1) := Int.mul_le_mul_of_nonneg_right (by omega) (by omega)
    omega

theorem tri_zero (n : Int) : tri n 0 = 0 := by simp [tri]

theorem tri_bd (n u : Int) (h0 : 0 ≤ u) (h1 : u ≤ n) (h2 : 1 ≤ n) (h3 : n ≤ 65536) : 0 ≤ tri n u ∧ tri n u ≤ 4294967296 := by
  have := mul_bd n u h0 h1 h2 h3
  unfold tri
  omega

/-- The next row of pairs begins where this one ends. -/
theorem tri_succ (n u : Int) : tri n (u + 1) = tri n u + (n - u - 1) := by
  unfold tri
  have e : (u + 1) * (2 * n - (u + 1) - 1) = u * (2 * n - u - 1) + 2 * (n - u - 1) := by
    simp only [Int.mul_sub, Int.add_mul, Int.one_mul, Int.mul_add, Int.mul_one]
    omega
  rw [e]
  omega

theorem tri_mono (n u : Int) (k : Nat) (h1 : u + k ≤ n) : tri n u ≤ tri n (u + k) := by
  induction k with
  | zero => simp
  | succ k ih =>
    have := ih (by omega)
    have s := tri_succ n (u + k)
    have e : u + ((k + 1 : Nat) : Int) = u + k + 1 := by omega
    rw [e, s]
    omega

theorem tri_le (n u v : Int) (h0 : u ≤ v) (h1 : v ≤ n) : tri n u ≤ tri n v := by
  have := tri_mono n u (v - u).toNat (by omega)
  rwa [show u + ((v - u).toNat : Int) = v from by omega] at this

theorem tri_last (n : Int) : tri n n = n * (n - 1) / 2 := by
  unfold tri
  rw [show 2 * n - n - 1 = n - 1 from by omega]

/-- The pair (u, x) has a number below the number of all pairs. -/
theorem pair_lt (n u x : Int) (h1 : u < x) (h2 : x < n) : tri n u + x - u - 1 < n * (n - 1) / 2 := by
  have a := tri_le n (u + 1) n (by omega) (by omega)
  have s := tri_succ n u
  rw [tri_last] at a
  omega

theorem last_bd (n : Int) (h2 : 1 ≤ n) (h3 : n ≤ 65536) : 0 ≤ n * (n - 1) ∧ n * (n - 1) ≤ 8589934592 := by
  have := mul_bd n n (by omega) (by omega) h2 h3
  rwa [show 2 * n - n - 1 = n - 1 from by omega] at this

/-- WHAT THE SHAPE TELLS: the row runs from 0, never falls, and ends at the number of paths. -/
structure Shape (f : Nat → Int) (len1 len2 : Nat) : Prop where
  pos : 0 < len1
  zero : f 0 = 0
  mono : ∀ q, q + 1 < len1 → f q ≤ f (q + 1)
  last : f (len1 - 1) = (len2 : Int) - 1

theorem Shape.nonneg {f : Nat → Int} {len1 len2 : Nat} (h : Shape f len1 len2) : ∀ q, q < len1 → 0 ≤ f q := by
  intro q
  induction q with
  | zero => intro _; rw [h.zero]; exact Int.le_refl _
  | succ q ih => intro hq; exact Int.le_trans (ih (by omega)) (h.mono q hq)

end Go.Proofs.Qxb6616964a
