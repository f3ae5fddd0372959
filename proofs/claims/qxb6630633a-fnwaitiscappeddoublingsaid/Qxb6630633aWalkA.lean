/-
  THE WALKS of Wait, ZZWait, ZZNewPolicy, cappedDoubling (seat b6630633a).
-/
import Derived.Test.Qxb6630633aPlain
import Derived.Test.Qxb6630633aRows
import Derived.WalkKit
import Derived.WalkSpells
import Derived.WalkLawsBesides
namespace Go.Proofs.Qxb6630633a
open Go.RowKit

theorem ret_int {k : IntKind} {a b : Int} (h : a = b) : Ending.returned (.int k a) = .returned (.int k b) := by rw [h]
theorem ret_bool {a b : Bool} (h : a = b) : Ending.returned (.bool a) = .returned (.bool b) := by rw [h]

set_option maxHeartbeats 400000 in
theorem wait_none (i c f : Int) (w : World) (hf : f < 1) :
    Calls Try.prog 8 #[.agg #[.int .i64 i, .int .i64 c], .int .i64 f] w fun e w' => e = .returned (.int .i64 0) ∧ Below w.heap.size w w' := by
  go_enter Try.func8, Try.ntmps8
  go_wp2
  go_ret
  exact ⟨rfl, (Below.refl _ _).alloc (Nat.le_refl _) _⟩

set_option maxHeartbeats 1000000 in
set_option maxRecDepth 100000 in
theorem wait_some (i c f r : Int) (w : World) (hf : 1 ≤ f) (hf2 : f ≤ 9223372036854775807) (h0 : 0 ≤ i) (h1 : i ≤ c) (hc : c ≤ 9223372036854775807) (HR : Hid (r = Bk.dbl i c (f - 1).toNat)) :
    Calls Try.prog 8 #[.agg #[.int .i64 i, .int .i64 c], .int .i64 f] w fun e w' => e = .returned (.int .i64 r) ∧ Below w.heap.size w w' := by
  go_enter Try.func8, Try.ntmps8
  go_wp2
  go_loop [5, 12] (fun x t => ∃ (u y : Int), 0 ≤ u ∧ u ≤ f - 1 ∧ i ≤ y ∧ y ≤ c ∧ t = .int .i64 u ∧ x = .int .i64 y ∧ Hid (y = Bk.dbl i c u.toNat)) (fun _ t => (f - 1 - intOf t).toNat)
  case atStart => exact ⟨0, i, by omega, by omega, by omega, h1, rfl, rfl, rfl⟩
  case round =>
    obtain ⟨u, y, hu, hu2, hy, hy2, rfl, rfl, HY⟩ := hrel
    by_cases hlt : u < f - 1
    · by_cases hcap : c - y ≤ y
      · have HE : Hid (c = r) := by
          show c = r
          rw [HR.out]
          refine (Bk.dbl_stay (k := u.toNat + 1) (by omega) ?_ (by omega)).symm
          rw [Bk.dbl_succ, ← HY.out, Bk.cap_yes hcap]
        clear HY
        go_wp2
        go_ret
        exact ⟨ret_int HE.out, (Below.refl _ _).alloc (Nat.le_refl _) _⟩
      · have HE : Hid (y * 2 = Bk.dbl i c (u + 1).toNat) := by
          show y * 2 = _
          rw [show (u + 1).toNat = u.toNat + 1 by omega, Bk.dbl_succ, ← HY.out, Bk.cap_no hcap]
        clear HY
        go_wp2
        go_round
        case rel => exact ⟨u + 1, y * 2, by omega, by omega, by omega, by omega, rfl, rfl, HE⟩
        case measure => simp [intOf]; omega
    · obtain rfl : u = f - 1 := by omega
      go_wp2
      go_ret
      exact ⟨ret_int (HY.out.trans HR.out.symm), (Below.refl _ _).alloc (Nat.le_refl _) _⟩

set_option maxHeartbeats 400000 in
theorem zzwait_none (i c f : Int) (w : World) (hf : f < 1) :
    Calls Try.prog 6 #[.agg #[.int .i64 i, .int .i64 c], .int .i64 f] w fun e w' => e = .returned (.int .i64 0) ∧ Below w.heap.size w w' := by
  go_enter Try.func6, Try.ntmps6
  go_wp2_with (go_at_call 8; fail)
  refine (wait_none i c f _ hf).mono ?_
  rintro e w1 ⟨rfl, hb⟩
  go_wp2
  go_ret
  exact ⟨rfl, ((Below.refl _ _).alloc (Nat.le_refl _) _).trans (hb.mono (by simp))⟩

set_option maxHeartbeats 400000 in
theorem zzwait_some (i c f r : Int) (w : World) (hf : 1 ≤ f) (hf2 : f ≤ 9223372036854775807) (h0 : 0 ≤ i) (h1 : i ≤ c) (hc : c ≤ 9223372036854775807) (HR : Hid (r = Bk.dbl i c (f - 1).toNat)) :
    Calls Try.prog 6 #[.agg #[.int .i64 i, .int .i64 c], .int .i64 f] w fun e w' => e = .returned (.int .i64 r) ∧ Below w.heap.size w w' := by
  go_enter Try.func6, Try.ntmps6
  go_wp2_with (go_at_call 8; fail)
  refine (wait_some i c f r _ hf hf2 h0 h1 hc HR).mono ?_
  rintro e w1 ⟨rfl, hb⟩
  go_wp2
  go_ret
  exact ⟨rfl, ((Below.refl _ _).alloc (Nat.le_refl _) _).trans (hb.mono (by simp))⟩

set_option maxHeartbeats 400000 in
theorem newPolicy_any (i c : Int) (w : World) :
    Calls Try.prog 5 #[.int .i64 i, .int .i64 c] w fun e w' => e = .returned (.agg #[.int .i64 i, .int .i64 c]) ∧ Below w.heap.size w w' := by
  go_enter Try.func5, Try.ntmps5
  go_wp2
  exact bodyPost_ret (v := .agg #[.int .i64 i, .int .i64 c]) (by simp [results, Try.results5, go_sem]) rfl ⟨rfl, (Below.refl _ _).alloc (Nat.le_refl _) _⟩

theorem toNat_pred {f : Int} (hf : 1 ≤ f) : (f - 1).toNat = f.toNat - 1 := by omega

theorem shl_end {i c f r : Int} (hf : 1 ≤ f) (h0 : 0 < i) (h1 : i ≤ c) (hc : c ≤ 9223372036854775807) (HR : r = Bk.dbl i c (f - 1).toNat) (h : i ≤ c / 2 ^ (f.toNat - 1)) : wrap64 (i * 2 ^ (f.toNat - 1)) = r := by
  rw [toNat_pred hf] at HR
  obtain ⟨e1, e2⟩ := Bk.dbl_fits (by omega) h1 _ h
  rw [HR, e1]
  have h3 : 0 ≤ i * 2 ^ (f.toNat - 1) := Int.mul_nonneg (by omega) (Int.le_of_lt (Bk.pow_pos _))
  generalize i * 2 ^ (f.toNat - 1) = x at *
  unfold wrap64
  omega

theorem over_end {i c f r : Int} (hf : 1 ≤ f) (h0 : 0 < i) (h1 : i ≤ c) (HR : r = Bk.dbl i c (f - 1).toNat) (h : c / 2 ^ (f.toNat - 1) < i) : c = r := by
  rw [toNat_pred hf] at HR
  rw [HR, Bk.dbl_over (by omega) h1 _ (by omega)]

set_option maxHeartbeats 1000000 in
set_option maxRecDepth 100000 in
theorem capped_near (i c f r : Int) (w : World) (hf : 1 ≤ f) (hf2 : f ≤ 63) (h0 : 0 < i) (h1 : i ≤ c) (hc : c ≤ 9223372036854775807) (HR : Hid (r = Bk.dbl i c (f - 1).toNat)) :
    Calls Try.prog 7 #[.int .i64 i, .int .i64 c, .int .i64 f] w fun e w' => e = .returned (.int .i64 r) ∧ w' = w := by
  have hi : (i == 0) = false := beq_eq_false_iff_ne.2 (by omega)
  go_enter Try.func7, Try.ntmps7
  go_wp2
  · go_ret
    exact ⟨ret_int (shl_end hf h0 h1 hc HR.out ‹_›), rfl⟩
  · go_ret
    exact ⟨ret_int (over_end hf h0 h1 HR.out ‹_›), rfl⟩

set_option maxHeartbeats 1000000 in
set_option maxRecDepth 100000 in
theorem capped_far (i c f r : Int) (w : World) (hf : 63 < f) (hf2 : f ≤ 9223372036854775807) (h0 : 0 < i) (h1 : i ≤ c) (hc : c ≤ 9223372036854775807) (HR : Hid (r = Bk.dbl i c (f - 1).toNat)) :
    Calls Try.prog 7 #[.int .i64 i, .int .i64 c, .int .i64 f] w fun e w' => e = .returned (.int .i64 r) ∧ w' = w := by
  have hi : (i == 0) = false := beq_eq_false_iff_ne.2 (by omega)
  have HE : Hid (c = r) := by
    show c = r
    rw [HR.out, Bk.dbl_far h0 h1 hc (by omega)]
  clear HR
  go_enter Try.func7, Try.ntmps7
  go_wp2
  go_ret
  exact ⟨ret_int HE.out, rfl⟩

set_option maxHeartbeats 1000000 in
theorem capped_none (i c f : Int) (w : World) (hf : f < 1) :
    Calls Try.prog 7 #[.int .i64 i, .int .i64 c, .int .i64 f] w fun e w' => e = .returned (.int .i64 0) ∧ w' = w := by
  go_enter Try.func7, Try.ntmps7
  go_wp2
  go_ret
  exact ⟨rfl, rfl⟩

set_option maxHeartbeats 1000000 in
theorem capped_zero (f : Int) (w : World) (hf : 1 ≤ f) :
    Calls Try.prog 7 #[.int .i64 0, .int .i64 0, .int .i64 f] w fun e w' => e = .returned (.int .i64 0) ∧ w' = w := by
  go_enter Try.func7, Try.ntmps7
  go_wp2
  go_ret
  exact ⟨rfl, rfl⟩

theorem capped_any (i c f r : Int) (w : World) (hf : 1 ≤ f) (hf2 : f ≤ 9223372036854775807) (h0 : 0 ≤ i) (h1 : i ≤ c) (hz : i = 0 → c = 0) (hc : c ≤ 9223372036854775807) (HR : r = Bk.dbl i c (f - 1).toNat) :
    Calls Try.prog 7 #[.int .i64 i, .int .i64 c, .int .i64 f] w fun e w' => e = .returned (.int .i64 r) ∧ w' = w := by
  by_cases hi : i = 0
  · obtain rfl := hz hi
    subst hi
    rw [Bk.dbl_zeros] at HR
    subst HR
    exact capped_zero f w hf
  · by_cases h63 : f ≤ 63
    · exact capped_near i c f r w hf h63 (by omega) h1 hc HR
    · exact capped_far i c f r w (by omega) hf2 (by omega) h1 hc HR

end Go.Proofs.Qxb6630633a
