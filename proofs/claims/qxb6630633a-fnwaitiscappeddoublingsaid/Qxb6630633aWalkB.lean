/-
  THE WALKS of FnWaitIsCappedDoubling and FnWaitNextDoublesUpToCeiling (seat b6630633a).
-/
import Derived.Test.Qxb6630633aWalkA
namespace Go.Proofs.Qxb6630633a
open Go.RowKit

/-- Neither the zero Policy nor one with 0 < initial <= ceiling. -/
theorem out_cases {i c : Int} (h : ¬ ((i = 0 ∧ c = 0) ∨ (0 < i ∧ i ≤ c))) : (i = 0 ∧ (c == 0) = false) ∨ ((i == 0) = false ∧ ¬ 0 < i) ∨ ((i == 0) = false ∧ 0 < i ∧ ¬ i ≤ c) := by
  by_cases h0 : i = 0
  · exact Or.inl ⟨h0, beq_eq_false_iff_ne.2 (fun hc => h (Or.inl ⟨h0, hc⟩))⟩
  · by_cases h1 : 0 < i
    · exact Or.inr (Or.inr ⟨beq_eq_false_iff_ne.2 h0, h1, fun h2 => h (Or.inr ⟨h1, h2⟩)⟩)
    · exact Or.inr (Or.inl ⟨beq_eq_false_iff_ne.2 h0, h1⟩)

set_option maxHeartbeats 1000000 in
theorem lawC_out (i c f : Int) (w : World) (h : ¬ ((i = 0 ∧ c = 0) ∨ (0 < i ∧ i ≤ c))) :
    Calls Try.prog 3 #[.int .i64 i, .int .i64 c, .int .i64 f] w fun e w' => e = .returned (.bool true) ∧ Below w.heap.size w w' := by
  rcases out_cases h with ⟨rfl, h1⟩ | ⟨h1, h2⟩ | ⟨h1, h2, h3⟩
  all_goals
    clear h
    go_enter Try.func3, Try.ntmps3
    go_wp2
    go_ret
    exact ⟨rfl, Below.refl _ _⟩

set_option maxHeartbeats 1000000 in
theorem lawC_none (i c f : Int) (w : World) (hf : f < 1) (hz : (i = 0 ∧ c = 0) ∨ (0 < i ∧ i ≤ c)) :
    Calls Try.prog 3 #[.int .i64 i, .int .i64 c, .int .i64 f] w fun e w' => e = .returned (.bool true) ∧ Below w.heap.size w w' := by
  rcases hz with ⟨rfl, rfl⟩ | ⟨h0, h1⟩
  case' inr => have hi : (i == 0) = false := beq_eq_false_iff_ne.2 (by omega)
  all_goals
    go_enter Try.func3, Try.ntmps3
    go_wp2_with (go_at_call 5; fail)
    refine (newPolicy_any _ _ _).mono ?_
    rintro e w1 ⟨rfl, hb1⟩
    go_wp2_with (go_at_call 6; fail)
    refine (zzwait_none _ _ _ _ hf).mono ?_
    rintro e w2 ⟨rfl, hb2⟩
    go_wp2_with (go_at_call 7; fail)
    refine (capped_none _ _ _ _ hf).mono ?_
    rintro e w3 ⟨rfl, rfl⟩
    go_wp2
    go_ret
    exact ⟨rfl, (hb1.alloc hb1.size _).trans (hb2.mono (by have := hb1.size; simp; omega))⟩

set_option maxHeartbeats 1000000 in
set_option maxRecDepth 100000 in
theorem lawC_some (i c f r : Int) (w : World) (hf : 1 ≤ f) (hf2 : f ≤ 9223372036854775807) (hc : c ≤ 9223372036854775807) (hz : (i = 0 ∧ c = 0) ∨ (0 < i ∧ i ≤ c)) (HR : Hid (r = Bk.dbl i c (f - 1).toNat)) :
    Calls Try.prog 3 #[.int .i64 i, .int .i64 c, .int .i64 f] w fun e w' => e = .returned (.bool true) ∧ Below w.heap.size w w' := by
  rcases hz with ⟨rfl, rfl⟩ | ⟨h0, h1⟩
  case' inr => have hi : (i == 0) = false := beq_eq_false_iff_ne.2 (by omega)
  all_goals
    go_enter Try.func3, Try.ntmps3
    go_wp2_with (go_at_call 5; fail)
    refine (newPolicy_any _ _ _).mono ?_
    rintro e w1 ⟨rfl, hb1⟩
    go_wp2_with (go_at_call 6; fail)
    refine (zzwait_some _ _ f r _ hf hf2 (by omega) (by omega) hc HR).mono ?_
    rintro e w2 ⟨rfl, hb2⟩
    go_wp2_with (go_at_call 7; fail)
    refine (capped_any _ _ f r _ hf hf2 (by omega) (by omega) (by omega) hc HR.out).mono ?_
    rintro e w3 ⟨rfl, rfl⟩
    go_wp2
    go_ret
    exact ⟨ret_bool (by simp), (hb1.alloc hb1.size _).trans (hb2.mono (by have := hb1.size; simp; omega))⟩

theorem lawC_any (i c f : Int) (w : World) (hc : c ≤ 9223372036854775807) (hf : f ≤ 9223372036854775807) :
    Calls Try.prog 3 #[.int .i64 i, .int .i64 c, .int .i64 f] w fun e w' => e = .returned (.bool true) ∧ Below w.heap.size w w' := by
  by_cases hz : (i = 0 ∧ c = 0) ∨ (0 < i ∧ i ≤ c)
  · by_cases h1 : f < 1
    · exact lawC_none i c f w h1 hz
    · exact lawC_some i c f _ w (by omega) hf hc hz rfl
  · exact lawC_out i c f w hz

/-! ### FnWaitNextDoublesUpToCeiling -/
set_option maxHeartbeats 1000000 in
theorem lawN_out (i c f : Int) (w : World) (h : ¬ ((i = 0 ∧ c = 0) ∨ (0 < i ∧ i ≤ c))) :
    Calls Try.prog 4 #[.int .i64 i, .int .i64 c, .int .i64 f] w fun e w' => e = .returned (.bool true) ∧ Below w.heap.size w w' := by
  rcases out_cases h with ⟨rfl, h1⟩ | ⟨h1, h2⟩ | ⟨h1, h2, h3⟩
  all_goals
    clear h
    go_enter Try.func4, Try.ntmps4
    go_wp2
    go_ret
    exact ⟨rfl, Below.refl _ _⟩

set_option maxHeartbeats 1000000 in
set_option maxRecDepth 100000 in
theorem lawN_none (i c f : Int) (w : World) (hf : f < 1 ∨ (¬ f < 1 ∧ (f == 9223372036854775807) = true)) (hz : (i = 0 ∧ c = 0) ∨ (0 < i ∧ i ≤ c)) :
    Calls Try.prog 4 #[.int .i64 i, .int .i64 c, .int .i64 f] w fun e w' => e = .returned (.bool true) ∧ Below w.heap.size w w' := by
  rcases hz with ⟨rfl, rfl⟩ | ⟨h0, h1⟩
  case' inr => have hi : (i == 0) = false := beq_eq_false_iff_ne.2 (by omega)
  all_goals
    rcases hf with hf | ⟨hf, hf2⟩
    all_goals
      go_enter Try.func4, Try.ntmps4
      go_wp2
      go_ret
      exact ⟨rfl, Below.refl _ _⟩

/-- What the next wait has to do with this one. -/
theorem next_facts {i c a b : Int} {k : Nat} (h0 : 0 ≤ i) (h1 : i ≤ c) (ha : a = Bk.dbl i c k) (hb : b = Bk.dbl i c (k + 1)) : i ≤ a ∧ a ≤ c ∧ (a ≤ c - a → b = a + a) ∧ (¬ a ≤ c - a → b = c) := by
  have h := Bk.dbl_bound h0 h1 k
  rw [← ha] at h
  rw [Bk.dbl_succ, ← ha] at hb
  refine ⟨h.1, h.2, fun hh => ?_, fun hh => ?_⟩
  · by_cases h2 : c - a ≤ a
    · rw [hb, Bk.cap_yes h2]; omega
    · rw [hb, Bk.cap_no h2]; omega
  · rw [hb, Bk.cap_yes (by omega)]

set_option maxHeartbeats 1000000 in
set_option maxRecDepth 100000 in
theorem lawN_zero (f : Int) (w : World) (hf : 1 ≤ f) (hf2 : f < 9223372036854775807) :
    Calls Try.prog 4 #[.int .i64 0, .int .i64 0, .int .i64 f] w fun e w' => e = .returned (.bool true) ∧ Below w.heap.size w w' := by
  have hfm : (f == 9223372036854775807) = false := beq_eq_false_iff_ne.2 (by omega)
  · go_enter Try.func4, Try.ntmps4
    go_wp2_with (go_at_call 5; fail)
    refine (newPolicy_any _ _ _).mono ?_
    rintro e w1 ⟨rfl, hb1⟩
    go_wp2_with (go_at_call 6; fail)
    refine (zzwait_some 0 0 f 0 _ hf (by omega) (by omega) (by omega) (by omega) (Bk.dbl_zeros _).symm).mono ?_
    rintro e w2 ⟨rfl, hb2⟩
    have c0 : w2.cell? ⟨w1.heap.size, 0, none⟩ = some (.int .i64 0) := by
      rw [hb2.cell (by simp)]; go_simp
    have c1 : w2.cell? ⟨w1.heap.size, 1, none⟩ = some (.int .i64 0) := by
      rw [hb2.cell (by simp)]; go_simp
    have hb12 : Below w.heap.size w w2 := (hb1.alloc hb1.size _).trans (hb2.mono (by have := hb1.size; simp; omega))
    clear hb2
    go_wp2_with (go_at_call 6; fail)
    refine (zzwait_some 0 0 (f + 1) 0 _ (by omega) (by omega) (by omega) (by omega) (by omega) (Bk.dbl_zeros _).symm).mono ?_
    rintro e w3 ⟨rfl, hb3⟩
    go_wp2
    all_goals
      go_ret
      exact ⟨rfl, hb12.trans (hb3.mono hb12.size)⟩

set_option maxHeartbeats 1000000 in
set_option maxRecDepth 100000 in
theorem lawN_some (i c f a b : Int) (w : World) (hf : 1 ≤ f) (hf2 : f < 9223372036854775807) (hc : c ≤ 9223372036854775807) (h0 : 0 < i) (h1 : i ≤ c) (HA : Hid (a = Bk.dbl i c (f - 1).toNat)) (HB : Hid (b = Bk.dbl i c (f + 1 - 1).toNat))
    (h1a : i ≤ a) (h2a : a ≤ c) (hone : f = 1 → a = i) (hnext : (a ≤ c - a ∧ (b == a + a) = true) ∨ (¬ a ≤ c - a ∧ (b == c) = true)) :
    Calls Try.prog 4 #[.int .i64 i, .int .i64 c, .int .i64 f] w fun e w' => e = .returned (.bool true) ∧ Below w.heap.size w w' := by
  have hfm : (f == 9223372036854775807) = false := beq_eq_false_iff_ne.2 (by omega)
  have HONE : Hid (f = 1 → a = i) := hone
  clear hone
  have hi : (i == 0) = false := beq_eq_false_iff_ne.2 (by omega)
  rcases hnext with ⟨hn1, hn2⟩ | ⟨hn1, hn2⟩
  all_goals
    go_enter Try.func4, Try.ntmps4
    go_wp2_with (go_at_call 5; fail)
    refine (newPolicy_any _ _ _).mono ?_
    rintro e w1 ⟨rfl, hb1⟩
    go_wp2_with (go_at_call 6; fail)
    refine (zzwait_some i c f a _ hf (by omega) (by omega) h1 hc HA).mono ?_
    rintro e w2 ⟨rfl, hb2⟩
    have c0 : w2.cell? ⟨w1.heap.size, 0, none⟩ = some (.int .i64 i) := by
      rw [hb2.cell (by simp)]; go_simp
    have c1 : w2.cell? ⟨w1.heap.size, 1, none⟩ = some (.int .i64 c) := by
      rw [hb2.cell (by simp)]; go_simp
    have hb12 : Below w.heap.size w w2 := (hb1.alloc hb1.size _).trans (hb2.mono (by have := hb1.size; simp; omega))
    clear hb2
    go_wp2_with (go_at_call 6; fail)
    refine (zzwait_some i c (f + 1) b _ (by omega) (by omega) (by omega) h1 hc HB).mono ?_
    rintro e w3 ⟨rfl, hb3⟩
    go_wp2
    all_goals
      go_ret
      refine ⟨ret_bool ?_, hb12.trans (hb3.mono hb12.size)⟩
      first | exact (rfl : true = true) | exact beq_iff_eq.2 (HONE.out ‹f = 1›)

theorem lawN_any (i c f : Int) (w : World) (hc : c ≤ 9223372036854775807) (hf : f ≤ 9223372036854775807) :
    Calls Try.prog 4 #[.int .i64 i, .int .i64 c, .int .i64 f] w fun e w' => e = .returned (.bool true) ∧ Below w.heap.size w w' := by
  by_cases hz : (i = 0 ∧ c = 0) ∨ (0 < i ∧ i ≤ c)
  · by_cases h1 : f < 1
    · exact lawN_none i c f w (Or.inl h1) hz
    · by_cases h2 : f = 9223372036854775807
      · exact lawN_none i c f w (Or.inr ⟨h1, beq_iff_eq.2 h2⟩) hz
      · rcases hz with ⟨rfl, rfl⟩ | ⟨hi, hic⟩
        · exact lawN_zero f w (by omega) (by omega)
        · have hk : (f + 1 - 1).toNat = (f - 1).toNat + 1 := by omega
          have hn := next_facts (i := i) (c := c) (k := (f - 1).toNat) (by omega) hic rfl (b := Bk.dbl i c (f + 1 - 1).toNat) (by rw [hk])
          refine lawN_some i c f _ _ w (by omega) (by omega) hc hi hic rfl rfl hn.1 hn.2.1 (fun h => ?_) ?_
          · subst h; rfl
          · by_cases hh : Bk.dbl i c (f - 1).toNat ≤ c - Bk.dbl i c (f - 1).toNat
            · exact Or.inl ⟨hh, beq_iff_eq.2 (hn.2.2.1 hh)⟩
            · exact Or.inr ⟨hh, beq_iff_eq.2 (hn.2.2.2 hh)⟩
  · exact lawN_out i c f w hz
end Go.Proofs.Qxb6630633a
