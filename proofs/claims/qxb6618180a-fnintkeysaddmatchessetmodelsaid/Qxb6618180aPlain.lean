/-
  THE PLAIN PART: words as rows of bits; how many are set. No Go in sight.
-/
namespace Go.Proofs.Qxb6618180a

/-- How many of the first f bits of x are set. -/
def pop : Nat → Nat → Nat
  | 0, _ => 0
  | f + 1, x => x % 2 + pop f (x / 2)

theorem pop_zero (f : Nat) : pop f 0 = 0 := by
  induction f with
  | zero => rfl
  | succ f ih => simp [pop, ih]

theorem pop_le (f x : Nat) : pop f x ≤ f := by
  induction f generalizing x with
  | zero => exact Nat.le_refl _
  | succ f ih => have := ih (x / 2); unfold pop; omega

theorem and_half (x y : Nat) : (x &&& y) / 2 = x / 2 &&& y / 2 := by
  apply Nat.eq_of_testBit_eq
  intro i
  rw [← Nat.testBit_succ, Nat.testBit_and, Nat.testBit_and, Nat.testBit_succ, Nat.testBit_succ]

theorem or_half (x y : Nat) : (x ||| y) / 2 = x / 2 ||| y / 2 := by
  apply Nat.eq_of_testBit_eq
  intro i
  rw [← Nat.testBit_succ, Nat.testBit_or, Nat.testBit_or, Nat.testBit_succ, Nat.testBit_succ]

theorem and_odd (x y : Nat) : (x &&& y) % 2 = (x % 2) * (y % 2) := by
  have h := Nat.testBit_and x y 0
  simp only [Nat.testBit_zero] at h
  rcases Nat.mod_two_eq_zero_or_one x with hx | hx <;> rcases Nat.mod_two_eq_zero_or_one y with hy | hy <;> rcases Nat.mod_two_eq_zero_or_one (x &&& y) with hz | hz <;> simp [hx, hy, hz] at h ⊢

theorem or_odd (x y : Nat) : (x ||| y) % 2 = if x % 2 = 1 ∨ y % 2 = 1 then 1 else 0 := by
  have h := Nat.testBit_or x y 0
  simp only [Nat.testBit_zero] at h
  rcases Nat.mod_two_eq_zero_or_one x with hx | hx <;> rcases Nat.mod_two_eq_zero_or_one y with hy | hy <;> rcases Nat.mod_two_eq_zero_or_one (x ||| y) with hz | hz <;> simp [hx, hy, hz] at h ⊢

/-- The lowest set bit is struck: one fewer. -/
theorem pop_strike (f x : Nat) (h : x < 2 ^ f) (h0 : x ≠ 0) : pop f (x &&& (x - 1)) + 1 = pop f x := by
  induction f generalizing x with
  | zero => simp at h; omega
  | succ f ih =>
    unfold pop
    rw [and_odd, and_half]
    rw [Nat.pow_succ] at h
    rcases Nat.mod_two_eq_zero_or_one x with hx | hx
    · have e : (x - 1) / 2 = x / 2 - 1 := by omega
      have := ih (x / 2) (by omega) (by omega)
      rw [e, hx]
      omega
    · have e : (x - 1) / 2 = x / 2 := by omega
      have e2 : (x - 1) % 2 = 0 := by omega
      rw [e, e2, hx, Nat.and_self]
      omega

/-- A bit that was not set is set: one more. -/
theorem pop_lay (f x j : Nat) (hj : j < f) (hb : x.testBit j = false) : pop f (x ||| 2 ^ j) = pop f x + 1 := by
  induction f generalizing x j with
  | zero => omega
  | succ f ih =>
    unfold pop
    rw [or_odd, or_half]
    cases j with
    | zero =>
      rw [Nat.testBit_zero] at hb
      have hx : x % 2 = 0 := by simpa using hb
      simp [hx]
      omega
    | succ j =>
      rw [Nat.testBit_succ] at hb
      have e : 2 ^ (j + 1) / 2 = 2 ^ j := by rw [Nat.pow_succ]; omega
      have e2 : 2 ^ (j + 1) % 2 = 0 := by rw [Nat.pow_succ]; omega
      rw [e, e2, ih (x / 2) j (by omega) hb]
      rcases Nat.mod_two_eq_zero_or_one x with hx | hx <;> simp [hx] <;> omega

/-- All set bits of a row of words. -/
def ones : List Nat → Nat
  | [] => 0
  | x :: r => pop 64 x + ones r

theorem ones_append (a b : List Nat) : ones (a ++ b) = ones a + ones b := by
  induction a with
  | nil => simp [ones]
  | cons x a ih => simp [ones, ih]; omega

theorem ones_zeros (k : Nat) : ones (List.replicate k 0) = 0 := by
  induction k with
  | zero => rfl
  | succ k ih => simp [List.replicate_succ, ones, ih, pop_zero]

theorem ones_snoc (a : List Nat) (x : Nat) : ones (a ++ [x]) = ones a + pop 64 x := by rw [ones_append]; simp [ones]

theorem ones_le (a : List Nat) : ones a ≤ 64 * a.length := by
  induction a with
  | nil => simp [ones]
  | cons x a ih => have := pop_le 64 x; simp [ones]; omega

theorem ones_set (a : List Nat) (i v : Nat) (h : i < a.length) : ones (a.set i v) + pop 64 (a.getD i 0) = ones a + pop 64 v := by
  induction a generalizing i with
  | nil => simp at h
  | cons x a ih =>
    cases i with
    | zero => simp [ones]; omega
    | succ i => have := ih i (by simpa using h); simp [ones] at this ⊢; omega

/-- IS THE NUMBER k AMONG THE SET BITS? -/
def bit (ws : List Nat) (k : Int) : Bool := decide (0 ≤ k) && (ws.getD (k / 64).toNat 0).testBit (k % 64).toNat

/-- The word of the number k, with its bit set. -/
def lay (ws : List Nat) (k : Int) : List Nat := ws.set (k / 64).toNat (ws.getD (k / 64).toNat 0 ||| 2 ^ (k % 64).toNat)

theorem bit_neg (ws : List Nat) (k : Int) (h : k < 0) : bit ws k = false := by
  simp [bit]; intro h'; omega

theorem bit_far (ws : List Nat) (k : Int) (h : 64 * (ws.length : Int) ≤ k) : bit ws k = false := by
  have : ws.getD (k / 64).toNat 0 = 0 := by
    rw [List.getD_eq_getElem?_getD, List.getElem?_eq_none (by omega)]; rfl
  unfold bit
  rw [this]
  simp

theorem bit_zeros (ws : List Nat) (n : Nat) (k : Int) : bit (ws ++ List.replicate n 0) k = bit ws k := by
  unfold bit
  have e : (ws ++ List.replicate n 0).getD (k / 64).toNat 0 = ws.getD (k / 64).toNat 0 := by
    simp only [List.getD_eq_getElem?_getD]
    by_cases h : (k / 64).toNat < ws.length
    · rw [List.getElem?_append_left h]
    · rw [List.getElem?_append_right (by omega), List.getElem?_eq_none (l := ws) (by omega), List.getElem?_replicate]
      split <;> rfl
  rw [e]

theorem lay_length (ws : List Nat) (k : Int) : (lay ws k).length = ws.length := by simp [lay]

theorem bit_lay (ws : List Nat) (x k : Int) (h0 : 0 ≤ x) (h1 : x < 64 * (ws.length : Int)) : bit (lay ws x) k = (bit ws k || (k == x)) := by
  by_cases hk : 0 ≤ k
  · unfold bit lay
    simp only [hk, decide_true, Bool.true_and]
    by_cases hi : (k / 64).toNat = (x / 64).toNat
    · have e : (ws.set (x / 64).toNat (ws.getD (x / 64).toNat 0 ||| 2 ^ (x % 64).toNat)).getD (k / 64).toNat 0 = ws.getD (x / 64).toNat 0 ||| 2 ^ (x % 64).toNat := by
        rw [hi, List.getD_eq_getElem?_getD, List.getElem?_set_self (by omega)]; rfl
      rw [e, hi, Nat.testBit_or]
      congr 1
      by_cases hj : (x % 64).toNat = (k % 64).toNat
      · rw [hj, Nat.testBit_two_pow_self]
        symm
        rw [beq_iff_eq]
        omega
      · rw [Nat.testBit_two_pow_of_ne hj]
        symm
        rw [beq_eq_false_iff_ne]
        intro e
        exact hj (by rw [e])
    · have e : (ws.set (x / 64).toNat (ws.getD (x / 64).toNat 0 ||| 2 ^ (x % 64).toNat)).getD (k / 64).toNat 0 = ws.getD (k / 64).toNat 0 := by
        simp only [List.getD_eq_getElem?_getD]
        rw [List.getElem?_set_ne (by omega)]
      have e2 : (k == x) = false := by rw [beq_eq_false_iff_ne]; intro e; exact hi (by rw [e])
      rw [e, e2, Bool.or_false]
  · rw [bit_neg _ _ (by omega), bit_neg _ _ (by omega), Bool.false_or]
    symm
    rw [beq_eq_false_iff_ne]
    omega

theorem ones_lay (ws : List Nat) (x : Int) (h0 : 0 ≤ x) (h1 : x < 64 * (ws.length : Int)) (hb : bit ws x = false) : ones (lay ws x) = ones ws + 1 := by
  have hb' : (ws.getD (x / 64).toNat 0).testBit (x % 64).toNat = false := by simpa [bit, h0] using hb
  have a := ones_set ws (x / 64).toNat (ws.getD (x / 64).toNat 0 ||| 2 ^ (x % 64).toNat) (by omega)
  have b := pop_lay 64 (ws.getD (x / 64).toNat 0) (x % 64).toNat (by omega) hb'
  unfold lay
  omega

theorem lay_lt (ws : List Nat) (x : Int) (h : ∀ v ∈ ws, v < 18446744073709551616) : ∀ v ∈ lay ws x, v < 18446744073709551616 := by
  intro v hv
  rcases List.mem_or_eq_of_mem_set hv with h1 | rfl
  · exact h v h1
  · have a : ws.getD (x / 64).toNat 0 < 2 ^ 64 := by
      rw [List.getD_eq_getElem?_getD]
      cases e : ws[(x / 64).toNat]? with
      | none => decide
      | some u => exact h u (List.mem_of_getElem? e)
    have b : 2 ^ (x % 64).toNat < 2 ^ 64 := Nat.pow_lt_pow_right (by omega) (by omega)
    exact Nat.or_lt_two_pow a b

/-- A bit, as Go asks for it: the word and the mask. -/
theorem mask_ne (w j : Nat) : ((w &&& 2 ^ j) ≠ 0) ↔ w.testBit j = true := by
  constructor
  · intro h
    cases e : w.testBit j with
    | true => rfl
    | false =>
      refine absurd (Nat.eq_of_testBit_eq fun i => ?_) h
      rw [Nat.testBit_and, Nat.zero_testBit]
      by_cases hij : j = i
      · rw [← hij, e]; rfl
      · rw [Nat.testBit_two_pow_of_ne hij, Bool.and_false]
  · intro h e
    have a := Nat.testBit_and w (2 ^ j) j
    rw [e, h, Nat.testBit_two_pow_self, Nat.zero_testBit] at a
    cases a

/-- .. and as the law asks for it: shifted down, the lowest bit. -/
theorem low_one (w j : Nat) : (w / 2 ^ j) % 2 = 1 ↔ w.testBit j = true := by
  rw [Nat.testBit_eq_decide_div_mod_eq, decide_eq_true_iff]

end Go.Proofs.Qxb6618180a
