/-
  PLAIN MATHEMATICS for seat b6630546a: sums, counts and truncated means of a row of optional numbers. No program in it.
-/
namespace Go.Proofs.Qxb6630546a.Mn

/-- The sum of what stands at the places a .. a+k-1. -/
def sumFrom (f : Nat → Option Int) (a : Nat) : Nat → Int
  | 0 => 0
  | k + 1 => sumFrom f a k + (f (a + k)).getD 0
/-- How many stand there. -/
def cntFrom (f : Nat → Option Int) (a : Nat) : Nat → Nat
  | 0 => 0
  | k + 1 => cntFrom f a k + (if (f (a + k)).isSome then 1 else 0)

theorem sum_zero (f : Nat → Option Int) (a : Nat) : sumFrom f a 0 = 0 := rfl
theorem cnt_zero (f : Nat → Option Int) (a : Nat) : cntFrom f a 0 = 0 := rfl
theorem sum_none {f : Nat → Option Int} {a k : Nat} (h : f (a + k) = none) : sumFrom f a (k + 1) = sumFrom f a k := by
  show sumFrom f a k + (f (a + k)).getD 0 = _
  rw [h]; exact Int.add_zero _
theorem cnt_none {f : Nat → Option Int} {a k : Nat} (h : f (a + k) = none) : cntFrom f a (k + 1) = cntFrom f a k := by
  show cntFrom f a k + (if (f (a + k)).isSome then 1 else 0) = _
  rw [h]; rfl
theorem sum_some {f : Nat → Option Int} {a k : Nat} {v : Int} (h : f (a + k) = some v) : sumFrom f a (k + 1) = sumFrom f a k + v := by
  show sumFrom f a k + (f (a + k)).getD 0 = _
  rw [h]; rfl
theorem cnt_some {f : Nat → Option Int} {a k : Nat} {v : Int} (h : f (a + k) = some v) : cntFrom f a (k + 1) = cntFrom f a k + 1 := by
  show cntFrom f a k + (if (f (a + k)).isSome then 1 else 0) = _
  rw [h]; rfl

theorem cnt_le (f : Nat → Option Int) (a k : Nat) : cntFrom f a k ≤ k := by
  induction k with
  | zero => exact Nat.le_refl _
  | succ k ih =>
    cases h : f (a + k) with
    | none => rw [cnt_none h]; omega
    | some v => rw [cnt_some h]; omega

/-- All that stands there lies within the bound. -/
def Bounded (f : Nat → Option Int) : Prop := ∀ i v, f i = some v → -70368744177664 ≤ v ∧ v ≤ 70368744177664

theorem sum_bound {f : Nat → Option Int} (hf : Bounded f) (a k : Nat) : -(70368744177664 * (cntFrom f a k : Int)) ≤ sumFrom f a k ∧ sumFrom f a k ≤ 70368744177664 * (cntFrom f a k : Int) := by
  induction k with
  | zero => rw [sum_zero, cnt_zero]; omega
  | succ k ih =>
    cases h : f (a + k) with
    | none => rw [sum_none h, cnt_none h]; exact ih
    | some v =>
      have := hf _ _ h
      rw [sum_some h, cnt_some h]
      omega

theorem sum_cnt_zero {f : Nat → Option Int} {a k : Nat} (h : cntFrom f a k = 0) : sumFrom f a k = 0 := by
  induction k with
  | zero => rfl
  | succ k ih =>
    cases hf : f (a + k) with
    | none => rw [cnt_none hf] at h; rw [sum_none hf]; exact ih h
    | some v => rw [cnt_some hf] at h; omega

theorem sum_append (f : Nat → Option Int) (a k m : Nat) : sumFrom f a (k + m) = sumFrom f a k + sumFrom f (a + k) m := by
  induction m with
  | zero => exact (Int.add_zero _).symm
  | succ m ih =>
    show sumFrom f a (k + m) + (f (a + (k + m))).getD 0 = sumFrom f a k + (sumFrom f (a + k) m + (f (a + k + m)).getD 0)
    rw [ih, Nat.add_assoc a k m]
    omega
theorem cnt_append (f : Nat → Option Int) (a k m : Nat) : cntFrom f a (k + m) = cntFrom f a k + cntFrom f (a + k) m := by
  induction m with
  | zero => rfl
  | succ m ih =>
    show cntFrom f a (k + m) + (if (f (a + (k + m))).isSome then 1 else 0) = cntFrom f a k + (cntFrom f (a + k) m + (if (f (a + k + m)).isSome then 1 else 0))
    rw [ih, Nat.add_assoc a k m, Nat.add_assoc]

/-- What 'Mean' reports: the quotient, rounded toward zero; 0 where there is none. -/
def quoOf (s : Int) (c : Nat) : Int := if c = 0 then 0 else s.tdiv (c : Int)

theorem quo_zero (s : Int) : quoOf s 0 = 0 := rfl
theorem quo_pos (s : Int) {c : Nat} (h : c ≠ 0) : quoOf s c = s.tdiv (c : Int) := by unfold quoOf; rw [if_neg h]

/-- The remainder's bounds. -/
theorem tdiv_rem (s : Int) (c : Nat) (hc : 0 < c) : (0 ≤ s → 0 ≤ s - s.tdiv (c : Int) * (c : Int) ∧ s - s.tdiv (c : Int) * (c : Int) < c ∧ 0 ≤ s.tdiv (c : Int) * (c : Int)) ∧ (s < 0 → -(c : Int) < s - s.tdiv (c : Int) * (c : Int) ∧ s - s.tdiv (c : Int) * (c : Int) ≤ 0 ∧ s.tdiv (c : Int) * (c : Int) ≤ 0) := by
  have hc' : (0 : Int) < (c : Int) := by omega
  constructor
  · intro h
    rw [Int.tdiv_eq_ediv_of_nonneg h]
    have h1 := Int.ediv_mul_le s (Int.ne_of_gt hc')
    have h2 := Int.lt_ediv_add_one_mul_self s hc'
    rw [Int.add_mul, Int.one_mul] at h2
    have h3 : 0 ≤ s / (c : Int) := Int.ediv_nonneg h (Int.le_of_lt hc')
    have h4 := Int.mul_nonneg h3 (Int.le_of_lt hc')
    omega
  · intro h
    have hn : s.tdiv (c : Int) = -((-s) / (c : Int)) := by
      have e : s = -(-s) := by omega
      rw [e, Int.neg_tdiv, Int.tdiv_eq_ediv_of_nonneg (by omega)]
      simp
    rw [hn]
    have h1 := Int.ediv_mul_le (-s) (Int.ne_of_gt hc')
    have h2 := Int.lt_ediv_add_one_mul_self (-s) hc'
    rw [Int.add_mul, Int.one_mul] at h2
    have h3 : 0 ≤ (-s) / (c : Int) := Int.ediv_nonneg (by omega) (Int.le_of_lt hc')
    have h4 := Int.mul_nonneg h3 (Int.le_of_lt hc')
    rw [Int.neg_mul]
    omega

/-- The quotient is no larger than what is divided. -/
theorem tdiv_bound (s : Int) (c : Nat) (hc : 0 < c) (B : Int) (h1 : -B ≤ s) (h2 : s ≤ B) : -B ≤ s.tdiv (c : Int) ∧ s.tdiv (c : Int) ≤ B := by
  have hc' : (0 : Int) < (c : Int) := by omega
  by_cases h : 0 ≤ s
  · rw [Int.tdiv_eq_ediv_of_nonneg h]
    have h3 : 0 ≤ s / (c : Int) := Int.ediv_nonneg h (Int.le_of_lt hc')
    have h4 := Int.ediv_le_self (c : Int) h
    omega
  · have hn : s.tdiv (c : Int) = -((-s) / (c : Int)) := by
      have e : s = -(-s) := by omega
      rw [e, Int.neg_tdiv, Int.tdiv_eq_ediv_of_nonneg (by omega)]
      simp
    rw [hn]
    have h3 : 0 ≤ (-s) / (c : Int) := Int.ediv_nonneg (by omega) (Int.le_of_lt hc')
    have h4 := Int.ediv_le_self (c : Int) (show 0 ≤ -s by omega)
    omega

theorem ediv_mono {a x b y : Int} (hb : 0 < b) (hy : 0 < y) (h : a * y ≤ x * b) : a / b ≤ x / y := by
  rw [Int.le_ediv_iff_mul_le hy]
  have h1 := Int.ediv_mul_le a (Int.ne_of_gt hb)
  have h2 : a / b * b * y ≤ a * y := Int.mul_le_mul_of_nonneg_right h1 (Int.le_of_lt hy)
  have h3 : a / b * y * b ≤ x * b := by
    have e : a / b * y * b = a / b * b * y := by rw [Int.mul_assoc, Int.mul_comm y b, ← Int.mul_assoc]
    rw [e]
    exact Int.le_trans h2 h
  exact Int.le_of_mul_le_mul_right h3 hb

/-- Rounding toward zero keeps the order of fractions. -/
theorem tdiv_mono {a x : Int} {b y : Nat} (hb : 0 < b) (hy : 0 < y) (h : a * (y : Int) ≤ x * (b : Int)) : a.tdiv (b : Int) ≤ x.tdiv (y : Int) := by
  have hb' : (0 : Int) < (b : Int) := by omega
  have hy' : (0 : Int) < (y : Int) := by omega
  have neg : ∀ (s : Int) (c : Nat), s < 0 → s.tdiv (c : Int) = -((-s) / (c : Int)) := by
    intro s c hs
    have e : s = -(-s) := by omega
    rw [e, Int.neg_tdiv, Int.tdiv_eq_ediv_of_nonneg (by omega)]
    simp
  by_cases ha : 0 ≤ a
  · have hx : 0 ≤ x := by
      have h1 : 0 ≤ a * (y : Int) := Int.mul_nonneg ha (Int.le_of_lt hy')
      rcases Int.lt_or_le x 0 with hx | hx
      · have := Int.mul_neg_of_neg_of_pos hx hb'
        omega
      · exact hx
    rw [Int.tdiv_eq_ediv_of_nonneg ha, Int.tdiv_eq_ediv_of_nonneg hx]
    exact ediv_mono hb' hy' h
  · rw [neg a b (by omega)]
    have h3 : 0 ≤ (-a) / (b : Int) := Int.ediv_nonneg (by omega) (Int.le_of_lt hb')
    by_cases hx : 0 ≤ x
    · rw [Int.tdiv_eq_ediv_of_nonneg hx]
      have h4 : 0 ≤ x / (y : Int) := Int.ediv_nonneg hx (Int.le_of_lt hy')
      omega
    · rw [neg x y (by omega)]
      have h5 : (-x) / (y : Int) ≤ (-a) / (b : Int) := ediv_mono hy' hb' (by rw [Int.neg_mul, Int.neg_mul]; omega)
      omega

/-- The whole's mean lies between the parts' means. -/
theorem mean_between {s t : Int} {b d : Nat} (hb : 0 < b) (hd : 0 < d) :
    (s.tdiv (b : Int) ≤ (s + t).tdiv ((b + d : Nat) : Int) ∧ (s + t).tdiv ((b + d : Nat) : Int) ≤ t.tdiv (d : Int)) ∨
    (t.tdiv (d : Int) ≤ (s + t).tdiv ((b + d : Nat) : Int) ∧ (s + t).tdiv ((b + d : Nat) : Int) ≤ s.tdiv (b : Int)) := by
  rcases Int.le_total (s * (d : Int)) (t * (b : Int)) with h | h
  · left
    constructor
    · refine tdiv_mono hb (by omega) ?_
      rw [Int.add_mul, Int.natCast_add, Int.mul_add]
      omega
    · refine tdiv_mono (by omega) hd ?_
      rw [Int.add_mul, Int.natCast_add, Int.mul_add]
      omega
  · right
    constructor
    · refine tdiv_mono hd (by omega) ?_
      rw [Int.add_mul, Int.natCast_add, Int.mul_add]
      omega
    · refine tdiv_mono (by omega) hb ?_
      rw [Int.add_mul, Int.natCast_add, Int.mul_add]
      omega

end Go.Proofs.Qxb6630546a.Mn
