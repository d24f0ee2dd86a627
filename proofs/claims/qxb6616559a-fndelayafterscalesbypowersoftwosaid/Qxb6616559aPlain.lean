/-
  The plain law: the delay after n failures more, as numbers. No Go in sight.
-/
namespace Go.Proofs.Qxb6616559a

/-- One doubling, or the cap. -/
def stepD (mx d : Int) : Int := if mx / 2 < d then mx else d * 2
/-- The delay behind n doublings. -/
def del (mx : Int) : Nat → Int → Int
  | 0, d => d
  | n + 1, d => stepD mx (del mx n d)

theorem stepD_bd (mx d : Int) (h1 : 1 ≤ d) (h2 : d ≤ mx) : d ≤ stepD mx d ∧ stepD mx d ≤ mx := by
  unfold stepD; split <;> omega
theorem del_bd (mx d : Int) (h1 : 1 ≤ d) (h2 : d ≤ mx) : ∀ n, d ≤ del mx n d ∧ del mx n d ≤ mx
  | 0 => ⟨by simp [del], by simpa [del] using h2⟩
  | n + 1 => by
    have ih := del_bd mx d h1 h2 n
    have := stepD_bd mx (del mx n d) (by omega) ih.2
    simp only [del]; omega
theorem stepD_cap (mx : Int) (h : 1 ≤ mx) : stepD mx mx = mx := by unfold stepD; split <;> omega
/-- Past half the cap: the cap, for ever. -/
theorem del_capped (mx d : Int) (h : 1 ≤ mx) (k : Nat) (hk : mx / 2 < del mx k d) : ∀ n, del mx (k + 1 + n) d = mx
  | 0 => by simp only [del, stepD]; rw [if_pos hk]
  | n + 1 => by
    have ih := del_capped mx d h k hk n
    show stepD mx (del mx (k + 1 + n) d) = mx
    rw [ih, stepD_cap mx h]
theorem del_add (mx d : Int) (m : Nat) : ∀ n, del mx (m + n) d = del mx n (del mx m d)
  | 0 => rfl
  | n + 1 => by rw [← Nat.add_assoc]; simp only [del]; rw [del_add mx d m n]
/-- The whole: the product, or the cap where that passes it. -/
theorem del_pow (mx d : Int) (h1 : 1 ≤ d) (h2 : d ≤ mx) : ∀ n : Nat, del mx n d = if d * 2 ^ n ≤ mx then d * 2 ^ n else mx
  | 0 => by simp [del, h2]
  | n + 1 => by
    have ih := del_pow mx d h1 h2 n
    have e : d * 2 ^ (n + 1) = d * 2 ^ n * 2 := by rw [Int.pow_succ, Int.mul_assoc]
    have hp : 0 < d * 2 ^ n := Int.mul_pos (by omega) (Int.pow_pos (by omega))
    rw [e]
    simp only [del]
    rw [ih]
    generalize d * 2 ^ n = y at *
    unfold stepD
    by_cases hy : y ≤ mx
    · rw [if_pos hy]
      by_cases hz : mx / 2 < y
      · rw [if_pos hz, if_neg (by omega)]
      · rw [if_neg hz, if_pos (by omega)]
    · rw [if_neg hy, if_pos (by omega), if_neg (by omega)]

end Go.Proofs.Qxb6616559a
