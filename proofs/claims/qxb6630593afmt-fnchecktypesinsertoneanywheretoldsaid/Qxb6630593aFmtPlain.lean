/-
  PLAIN FUNCTIONS for seat b6630593aF: which names fit, which lists are refused. No program in it.
-/
namespace Go.Proofs.Qxb6630593aFmt.Nm

/-- A type's name: 1 to 255 bytes. -/
def fits (s : ByteArray) : Bool := decide (1 ≤ s.size) && decide (s.size ≤ 255)

/-- The names at the places a .. a+k-1 all fit. -/
def allFit (s : Nat → ByteArray) (a : Nat) : Nat → Bool
  | 0 => true
  | k + 1 => allFit s a k && fits (s (a + k))

theorem all_zero (s : Nat → ByteArray) (a : Nat) : allFit s a 0 = true := rfl
theorem all_succ (s : Nat → ByteArray) (a k : Nat) : allFit s a (k + 1) = (allFit s a k && fits (s (a + k))) := rfl
theorem all_append (s : Nat → ByteArray) (a k m : Nat) : allFit s a (k + m) = (allFit s a k && allFit s (a + k) m) := by
  induction m with
  | zero => simp [all_zero]
  | succ m ih =>
    rw [← Nat.add_assoc, all_succ, ih, all_succ, Bool.and_assoc, Nat.add_assoc]
theorem all_congr {s t : Nat → ByteArray} {a b k : Nat} (h : ∀ i, i < k → s (a + i) = t (b + i)) : allFit s a k = allFit t b k := by
  induction k with
  | zero => rfl
  | succ k ih => rw [all_succ, all_succ, ih (fun i hi => h i (by omega)), h k (by omega)]
theorem all_false {s : Nat → ByteArray} {a n k : Nat} (hk : k < n) (h : fits (s (a + k)) = false) : allFit s a n = false := by
  obtain ⟨m, rfl⟩ : ∃ m, n = k + 1 + m := ⟨n - (k + 1), by omega⟩
  rw [all_append, all_succ, h]
  simp

/-- Which lists 'CheckTypes' refuses. -/
def refuses (s : Nat → ByteArray) (a n : Nat) : Bool := decide (n = 0) || !allFit s a n

theorem refuses_zero (s : Nat → ByteArray) (a : Nat) : refuses s a 0 = true := rfl
theorem refuses_pos {s : Nat → ByteArray} {a n : Nat} (h : n ≠ 0) : refuses s a n = !allFit s a n := by simp [refuses, h]

end Go.Proofs.Qxb6630593aFmt.Nm
