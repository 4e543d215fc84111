/- The plain side of seat b6001765a: the doubling, capped. No Go in sight. -/
namespace Go.Proofs.Qxb6001765a.Plain

/-- k doublings of d, capped at L -/
def del (L : Int) : Nat → Int → Int
  | 0, d => d
  | k + 1, d => if L / 2 < d then L else del L k (2 * d)

theorem del_stop (L d : Int) (k : Nat) (h : L / 2 < d) : del L (k + 1) d = L := by simp [del, h]
theorem del_go (L d : Int) (k : Nat) (h : ¬ L / 2 < d) : del L (k + 1) d = del L k (2 * d) := by simp [del, h]

theorem del_zero (L : Int) (hL : 0 ≤ L) (k : Nat) : del L k 0 = 0 := by
  induction k with
  | zero => rfl
  | succ k ih => rw [del_go L 0 k (by omega)]; simpa using ih

/-- from a positive start at most n more doublings fit under 2^n -/
theorem del_late (L : Int) (n : Nat) : ∀ (k : Nat) (d : Int), n ≤ k → 1 ≤ d → L < d * 2 ^ n → 0 < n → del L k d = L := by
  induction n with
  | zero => intro k d _ _ _ h; omega
  | succ n ih =>
    intro k d hk hd hL _
    obtain ⟨k, rfl⟩ : ∃ j, k = j + 1 := ⟨k - 1, by omega⟩
    by_cases h : L / 2 < d
    · exact del_stop L d k h
    · rw [del_go L d k h]
      cases n with
      | zero => simp at hL; omega
      | succ n =>
        refine ih k (2 * d) (by omega) (by omega) ?_ (by omega)
        rw [Int.pow_succ] at hL
        have e : 2 * d * 2 ^ (n + 1) = d * (2 ^ (n + 1) * 2) := by
          rw [Int.mul_comm 2 d, Int.mul_assoc, Int.mul_comm 2 (2 ^ (n + 1))]
        rw [e]; exact hL

theorem del_cap (L d : Int) (k : Nat) (h0 : 0 ≤ d) (h1 : d ≤ L) : d ≤ del L k d ∧ del L k d ≤ L := by
  induction k generalizing d with
  | zero => exact ⟨Int.le_refl _, h1⟩
  | succ k ih =>
    by_cases h : L / 2 < d
    · rw [del_stop L d k h]; omega
    · rw [del_go L d k h]
      have := ih (2 * d) (by omega) (by omega)
      omega

theorem del_succ (L d : Int) (k : Nat) (h0 : 0 ≤ d) (h1 : d ≤ L) : del L k d ≤ del L (k + 1) d := by
  induction k generalizing d with
  | zero => exact (del_cap L d 1 h0 h1).1
  | succ k ih =>
    by_cases h : L / 2 < d
    · rw [del_stop L d k h, del_stop L d (k + 1) h]; omega
    · rw [del_go L d k h, del_go L d (k + 1) h]
      exact ih (2 * d) (by omega) (by omega)

theorem del_mono (L d : Int) (k j : Nat) (h0 : 0 ≤ d) (h1 : d ≤ L) (hkj : k ≤ j) : del L k d ≤ del L j d := by
  obtain ⟨t, rfl⟩ : ∃ t, j = k + t := ⟨j - k, by omega⟩
  clear hkj
  induction t with
  | zero => exact Int.le_refl _
  | succ t ih => exact Int.le_trans ih (del_succ L d (k + t) h0 h1)

/-- the closed form -/
theorem del_closed (L d : Int) (k : Nat) (h0 : 0 ≤ d) (hL : 0 ≤ L) (hk : 0 < k) : del L k d = if L / 2 ^ k < d then L else d * 2 ^ k := by
  induction k generalizing d with
  | zero => omega
  | succ k ih =>
    by_cases h : L / 2 < d
    · rw [del_stop L d k h]
      have e : L / 2 ^ (k + 1) ≤ L / 2 := by
        have e1 : L / 2 ^ (k + 1) = L / 2 / 2 ^ k := by
          rw [Int.pow_succ, Int.mul_comm, Int.ediv_ediv_of_nonneg (by omega)]
        rw [e1]
        exact Int.ediv_le_self _ (by omega)
      rw [if_pos (by omega)]
    · rw [del_go L d k h]
      cases k with
      | zero =>
        have e : ¬ L / 2 ^ (0 + 1) < d := by simpa using h
        rw [if_neg e]
        simp [del]
        omega
      | succ k =>
        rw [ih (2 * d) (by omega) (by omega)]
        have p : (0 : Int) < 2 ^ (k + 1) := Int.pow_pos (by omega)
        have e1 : (2 : Int) ^ (k + 1 + 1) = 2 ^ (k + 1) * 2 := Int.pow_succ _ _
        have e2 : 2 * d * 2 ^ (k + 1) = d * 2 ^ (k + 1 + 1) := by
          rw [e1, Int.mul_comm 2 d, Int.mul_assoc, Int.mul_comm 2 (2 ^ (k + 1))]
        have e3 : L / 2 ^ (k + 1 + 1) = L / 2 ^ (k + 1) / 2 := by
          rw [e1, Int.ediv_ediv_of_nonneg (by omega)]
        rw [e2, e3]
        by_cases hq : L / 2 ^ (k + 1) < 2 * d
        · rw [if_pos hq, if_pos (by omega)]
        · rw [if_neg hq, if_neg (by omega)]

end Go.Proofs.Qxb6001765a.Plain
