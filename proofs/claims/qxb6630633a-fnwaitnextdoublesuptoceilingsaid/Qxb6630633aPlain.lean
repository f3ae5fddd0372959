/-
  PLAIN MATHEMATICS for seat b6630633a: doubling up to a ceiling. No program in it.
-/
namespace Go.Proofs.Qxb6630633a.Bk

/-- One doubling, held under the ceiling. -/
def capD (c x : Int) : Int := if c - x ≤ x then c else x * 2
/-- So long is the wait behind k doublings. -/
def dbl (i c : Int) : Nat → Int
  | 0 => i
  | k + 1 => capD c (dbl i c k)

theorem dbl_zero (i c : Int) : dbl i c 0 = i := rfl
theorem dbl_succ (i c : Int) (k : Nat) : dbl i c (k + 1) = capD c (dbl i c k) := rfl
theorem cap_yes {c x : Int} (h : c - x ≤ x) : capD c x = c := by unfold capD; rw [if_pos h]
theorem cap_no {c x : Int} (h : ¬ c - x ≤ x) : capD c x = x * 2 := by unfold capD; rw [if_neg h]

theorem dbl_bound {i c : Int} (h0 : 0 ≤ i) (h1 : i ≤ c) (k : Nat) : i ≤ dbl i c k ∧ dbl i c k ≤ c := by
  induction k with
  | zero => rw [dbl_zero]; omega
  | succ k ih =>
    rw [dbl_succ]
    by_cases h : c - dbl i c k ≤ dbl i c k
    · rw [cap_yes h]; omega
    · rw [cap_no h]; omega

theorem dbl_stay {i c : Int} (h0 : 0 ≤ c) {k m : Nat} (h : dbl i c k = c) (hm : k ≤ m) : dbl i c m = c := by
  obtain ⟨r, rfl⟩ : ∃ r, m = k + r := ⟨m - k, by omega⟩
  clear hm
  induction r with
  | zero => exact h
  | succ r ih => rw [← Nat.add_assoc, dbl_succ, ih, cap_yes (by omega)]

theorem pow_pos (k : Nat) : (0 : Int) < 2 ^ k := Int.pow_pos (by decide)
theorem pow_succ' (k : Nat) : (2 : Int) ^ (k + 1) = 2 ^ k * 2 := Int.pow_succ 2 k

/-- min(ceiling, initial * 2^k). -/
theorem dbl_min {i c : Int} (h0 : 0 ≤ i) (h1 : i ≤ c) (k : Nat) : (i * 2 ^ k ≤ c → dbl i c k = i * 2 ^ k) ∧ (¬ i * 2 ^ k ≤ c → dbl i c k = c) := by
  induction k with
  | zero =>
    rw [Int.pow_zero, Int.mul_one, dbl_zero]
    exact ⟨fun _ => rfl, fun h => absurd h1 h⟩
  | succ k ih =>
    have e : i * 2 ^ (k + 1) = i * 2 ^ k * 2 := by rw [pow_succ', Int.mul_assoc]
    have hp : 0 ≤ i * 2 ^ k := Int.mul_nonneg h0 (Int.le_of_lt (pow_pos k))
    rw [dbl_succ, e]
    generalize i * 2 ^ k = x at *
    by_cases hx : x ≤ c
    · rw [ih.1 hx]
      by_cases h : c - x ≤ x
      · rw [cap_yes h]
        exact ⟨fun _ => by omega, fun _ => rfl⟩
      · rw [cap_no h]
        exact ⟨fun _ => rfl, fun _ => by omega⟩
    · rw [ih.2 hx, cap_yes (by omega)]
      exact ⟨fun _ => by omega, fun _ => rfl⟩

theorem pow_ge {k : Nat} (h : 63 ≤ k) : (9223372036854775808 : Int) ≤ 2 ^ k := by
  obtain ⟨r, rfl⟩ : ∃ r, k = 63 + r := ⟨k - 63, by omega⟩
  rw [Int.pow_add]
  have h1 : (2 : Int) ^ 63 = 9223372036854775808 := by decide
  rw [h1]
  have h2 := pow_pos r
  have h3 : (9223372036854775808 : Int) * 1 ≤ 9223372036854775808 * 2 ^ r := Int.mul_le_mul_of_nonneg_left h2 (by decide)
  omega

/-- Behind 63 doublings the ceiling is reached. -/
theorem dbl_far {i c : Int} (h0 : 0 < i) (h1 : i ≤ c) (hc : c ≤ 9223372036854775807) {k : Nat} (hk : 63 ≤ k) : dbl i c k = c := by
  refine (dbl_min (by omega) h1 k).2 ?_
  have h2 := pow_ge hk
  have h3 : 1 * 2 ^ k ≤ i * 2 ^ k := Int.mul_le_mul_of_nonneg_right h0 (Int.le_of_lt (pow_pos k))
  omega

theorem dbl_fits {i c : Int} (h0 : 0 ≤ i) (h1 : i ≤ c) (k : Nat) (h : i ≤ c / 2 ^ k) : dbl i c k = i * 2 ^ k ∧ i * 2 ^ k ≤ c := by
  have h2 : i * 2 ^ k ≤ c := (Int.le_ediv_iff_mul_le (pow_pos k)).1 h
  exact ⟨(dbl_min h0 h1 k).1 h2, h2⟩
theorem dbl_over {i c : Int} (h0 : 0 ≤ i) (h1 : i ≤ c) (k : Nat) (h : ¬ i ≤ c / 2 ^ k) : dbl i c k = c :=
  (dbl_min h0 h1 k).2 (fun h2 => h ((Int.le_ediv_iff_mul_le (pow_pos k)).2 h2))

theorem dbl_zeros (k : Nat) : dbl 0 0 k = 0 := by
  have := dbl_bound (i := 0) (c := 0) (by omega) (by omega) k
  omega

end Go.Proofs.Qxb6630633a.Bk
