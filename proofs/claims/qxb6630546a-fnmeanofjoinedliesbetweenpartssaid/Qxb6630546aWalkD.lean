/-
  THE WALK of FnMeanOfJoinedLiesBetweenParts (seat b6630546a).
-/
import Derived.Test.Qxb6630546aWalkC
namespace Go.Proofs.Qxb6630546a
open Go.RowKit

/-- What the three means have to do with one another. -/
theorem three_means (f : Nat → Option Int) (K r : Nat) :
    Mn.cntFrom f 0 (K + r) = Mn.cntFrom f 0 K + Mn.cntFrom f K r ∧
    (Mn.cntFrom f 0 K = 0 → Mn.quoOf (Mn.sumFrom f 0 (K + r)) (Mn.cntFrom f 0 (K + r)) = Mn.quoOf (Mn.sumFrom f K r) (Mn.cntFrom f K r)) ∧
    (Mn.cntFrom f K r = 0 → Mn.quoOf (Mn.sumFrom f 0 (K + r)) (Mn.cntFrom f 0 (K + r)) = Mn.quoOf (Mn.sumFrom f 0 K) (Mn.cntFrom f 0 K)) ∧
    (Mn.cntFrom f 0 K ≠ 0 → Mn.cntFrom f K r ≠ 0 →
      (Mn.quoOf (Mn.sumFrom f 0 K) (Mn.cntFrom f 0 K) ≤ Mn.quoOf (Mn.sumFrom f 0 (K + r)) (Mn.cntFrom f 0 (K + r)) ∧ Mn.quoOf (Mn.sumFrom f 0 (K + r)) (Mn.cntFrom f 0 (K + r)) ≤ Mn.quoOf (Mn.sumFrom f K r) (Mn.cntFrom f K r)) ∨
      (Mn.quoOf (Mn.sumFrom f K r) (Mn.cntFrom f K r) ≤ Mn.quoOf (Mn.sumFrom f 0 (K + r)) (Mn.cntFrom f 0 (K + r)) ∧ Mn.quoOf (Mn.sumFrom f 0 (K + r)) (Mn.cntFrom f 0 (K + r)) ≤ Mn.quoOf (Mn.sumFrom f 0 K) (Mn.cntFrom f 0 K))) := by
  have e1 := Mn.sum_append f 0 K r
  have e2 := Mn.cnt_append f 0 K r
  rw [Nat.zero_add] at e1 e2
  rw [e1, e2]
  refine ⟨rfl, fun h => ?_, fun h => ?_, fun h1 h2 => ?_⟩
  · rw [h, Mn.sum_cnt_zero h, Nat.zero_add, Int.zero_add]
  · rw [h, Mn.sum_cnt_zero h, Nat.add_zero, Int.add_zero]
  · rw [Mn.quo_pos _ h1, Mn.quo_pos _ h2, Mn.quo_pos _ (by omega)]
    exact Mn.mean_between (by omega) (by omega)

theorem TxAt.shift {w : World} {T K i : Nat} {o : Option Int} (h : TxAt w T 0 (K + i) o) : TxAt w T (K * 4) i o := by
  have e : 0 + (K + i) * 4 = K * 4 + i * 4 := by omega
  unfold TxAt at h ⊢
  rw [e] at h
  exact h

theorem step_none {f : Nat → Option Int} {k K y u : Nat} (hf : f k = none) (h : y = Mn.cntFrom f 0 (min k K) ∧ u = Mn.cntFrom f K (k - K)) : y = Mn.cntFrom f 0 (min (k + 1) K) ∧ u = Mn.cntFrom f K (k + 1 - K) := by
  obtain ⟨h1, h2⟩ := h
  by_cases hk : k < K
  · rw [Nat.min_eq_left (by omega)] at h1
    rw [Nat.min_eq_left (by omega), Mn.cnt_none (by rw [Nat.zero_add]; exact hf)]
    rw [show k - K = 0 by omega] at h2
    rw [show k + 1 - K = 0 by omega]
    exact ⟨h1, h2⟩
  · rw [Nat.min_eq_right (by omega)] at h1
    rw [Nat.min_eq_right (by omega), show k + 1 - K = (k - K) + 1 by omega, Mn.cnt_none (by rw [show K + (k - K) = k by omega]; exact hf)]
    exact ⟨h1, h2⟩
theorem step_left {f : Nat → Option Int} {k K y u : Nat} {v : Int} (hf : f k = some v) (hk : k < K) (h : y = Mn.cntFrom f 0 (min k K) ∧ u = Mn.cntFrom f K (k - K)) : y + 1 = Mn.cntFrom f 0 (min (k + 1) K) ∧ u = Mn.cntFrom f K (k + 1 - K) := by
  obtain ⟨h1, h2⟩ := h
  rw [Nat.min_eq_left (by omega)] at h1
  rw [Nat.min_eq_left (by omega), Mn.cnt_some (by rw [Nat.zero_add]; exact hf)]
  rw [show k - K = 0 by omega] at h2
  rw [show k + 1 - K = 0 by omega]
  exact ⟨by omega, h2⟩
theorem step_right {f : Nat → Option Int} {k K y u : Nat} {v : Int} (hf : f k = some v) (hk : ¬ k < K) (h : y = Mn.cntFrom f 0 (min k K) ∧ u = Mn.cntFrom f K (k - K)) : y = Mn.cntFrom f 0 (min (k + 1) K) ∧ u + 1 = Mn.cntFrom f K (k + 1 - K) := by
  obtain ⟨h1, h2⟩ := h
  rw [Nat.min_eq_right (by omega)] at h1
  rw [Nat.min_eq_right (by omega), show k + 1 - K = (k - K) + 1 by omega, Mn.cnt_some (by rw [show K + (k - K) = k by omega]; exact hf)]
  exact ⟨h1, by omega⟩

set_option maxHeartbeats 400000 in
theorem lawJ_big (p q : Option Addr) (n c m d : Nat) (cut : Int) (w : World) (hn : n ≤ maxLen) (hm : m ≤ maxLen) (h : 65536 < n ∨ 65536 < m) :
    Calls Try.prog 4 #[.slice p n c, .slice q m d, .int .i64 cut] w fun e w' => e = .returned (.bool true) ∧ Below w.heap.size w w' := by
  unfold maxLen at hn hm
  have h2 : 65536 < (n : Int) ∨ (¬ 65536 < (n : Int) ∧ 65536 < (m : Int)) := by omega
  clear h
  rcases h2 with h2 | ⟨h2, h3⟩
  all_goals
    go_enter Try.func4, Try.ntmps4
    go_wp2_with (go_at_call 9; refine (bytes2_some _ _ _ _ _ _ _ _).mono ?_; rintro e w' ⟨rfl | rfl, rfl⟩)
    all_goals
      go_ret
      exact ⟨rfl, Below.refl _ _⟩

set_option maxHeartbeats 1000000 in
set_option maxRecDepth 100000 in
theorem lawJ_out (p q : Option Addr) (n c m d : Nat) (cut : Int) (w : World) (hn : n ≤ 65536) (hm : m ≤ 65536) (h : cut < 0 ∨ (n : Int) < cut) :
    Calls Try.prog 4 #[.slice p n c, .slice q m d, .int .i64 cut] w fun e w' => e = .returned (.bool true) ∧ Below w.heap.size w w' := by
  go_enter Try.func4, Try.ntmps4
  go_wp2_with (go_at_call 9; fail)
  refine (bytes2_some _ _ _ _ _ _ _ _).mono ?_
  rintro e w' ⟨rfl | rfl, rfl⟩
  · go_wp2
    go_ret
    exact ⟨rfl, Below.refl _ _⟩
  obtain ⟨N, hN⟩ : ∃ N : Int, (n : Int) = N := ⟨_, rfl⟩
  obtain ⟨M, hM⟩ : ∃ N : Int, (m : Int) = N := ⟨_, rfl⟩
  have hN0 : 0 ≤ N ∧ N ≤ 65536 := by omega
  have hM0 : 0 ≤ M ∧ M ≤ 65536 := by omega
  have h5 : ¬ 1048576 < 8 * N + M := by omega
  rw [hN] at h
  have h6 : cut < 0 ∨ (¬ cut < 0 ∧ N < cut) := by omega
  clear h hn hm
  rcases h6 with h6 | ⟨h6, h7⟩
  all_goals
    go_wp2
    go_ret
    exact ⟨rfl, Below.refl _ _⟩

set_option maxHeartbeats 2000000 in
set_option maxRecDepth 100000 in
theorem lawJ_small (p q : Option Addr) (n c m d K : Nat) (z : Nat → Int) (h : Nat → Bool) (w : World) (hn : n ≤ 65536) (hm : m ≤ 65536) (hK : K ≤ n) (HZ : Hid (ReadsI w p n z)) (HB : Hid (ReadsB w q m h)) :
    Calls Try.prog 4 #[.slice p n c, .slice q m d, .int .i64 (K : Int)] w fun e w' => e = .returned (.bool true) ∧ Below w.heap.size w w' := by
  go_enter Try.func4, Try.ntmps4
  go_wp2_with (go_at_call 9; fail)
  refine (bytes2_some _ _ _ _ _ _ _ _).mono ?_
  rintro e w' ⟨rfl | rfl, rfl⟩
  · go_wp2
    go_ret
    exact ⟨rfl, Below.refl _ _⟩
  obtain ⟨N, hN⟩ : ∃ N : Int, (n : Int) = N := ⟨_, rfl⟩
  obtain ⟨M, hM⟩ : ∃ N : Int, (m : Int) = N := ⟨_, rfl⟩
  have hN0 : 0 ≤ N ∧ N ≤ 65536 := by omega
  have hM0 : 0 ≤ M ∧ M ≤ 65536 := by omega
  have h5 : ¬ 1048576 < 8 * N + M := by omega
  have h6 : ¬ N < (K : Int) := by omega
  go_wp2_with (go_at_call 6; fail)
  clear hN hM h5 hN0 hM0 h6
  refine (fits_any p n c z _ hn HZ).mono ?_
  rintro e w' ⟨rfl | ⟨rfl, HF⟩, rfl⟩
  · go_wp2
    go_ret
    exact ⟨rfl, Below.refl _ _⟩
  go_wp2_with (go_at_call 7; fail)
  refine (build_any p q n c m d z h _ hn HZ HB).mono ?_
  rintro e w1 ⟨rfl, HT, hb1⟩
  have HFB : Hid (Mn.Bounded (conf n m z h)) := conf_bounded HF.out
  have HZ1 : Hid (ReadsI w1 p n z) := HZ.out.up hb1
  have HB1 : Hid (ReadsB w1 q m h) := HB.out.up hb1
  clear HF HZ HB
  obtain ⟨f, hf⟩ : ∃ f, f = conf n m z h := ⟨_, rfl⟩
  rw [← hf] at HT HFB
  have HC : Hid (f = conf n m z h) := hf
  clear hf
  by_cases hKn : n = K
  case pos =>
    have hr0 : n - K = 0 := by omega
    subst hKn
    go_wp2_with (go_at_call 8; fail)
    refine (mean_any f HFB _ w'.heap.size 0 n n 0 _ hn (Nat.le_refl _) (by go_simp) (fun i hi => by rw [Nat.zero_add]; exact (HT.out i hi).up ((((Below.refl _ _).alloc (Nat.le_refl _) _).alloc (by simp) _).alloc (by simp; omega) _))).mono ?_
    rintro e w2 ⟨rfl, hb2⟩
    have hb12 : Below w1.heap.size w1 w2 := ((((Below.refl _ _).alloc (Nat.le_refl _) _).alloc (by simp) _).alloc (by simp; omega) _).trans (hb2.mono (by simp; omega))
    have hB1 : w2.cell? ⟨w1.heap.size + 1, 1, none⟩ = some (.slice (some ⟨w'.heap.size, 0, none⟩) n n) := cell_up hb2 (by go_simp)
    have hB2 : w2.cell? ⟨w1.heap.size + 1 + 1, 1, none⟩ = some (.slice (some ⟨w'.heap.size, 0, none⟩) 0 0) := cell_up hb2 (by go_simp)
    clear hb2
    go_wp2_with (go_at_call 8; fail)
    refine (mean_any f HFB _ w'.heap.size 0 n n 0 _ hn (Nat.le_refl _) hB1 (fun i hi => by rw [Nat.zero_add]; exact (HT.out i hi).up hb12)).mono ?_
    rintro e w3 ⟨rfl, hb3⟩
    have hb13 : Below w1.heap.size w1 w3 := hb12.trans (hb3.mono hb12.size)
    have hB3 := cell_up hb3 hB2
    clear hb3 hB1 hB2 hb12
    go_wp2_with (go_at_call 8; fail)
    refine (mean_empty _ _ _ _ hB3).mono ?_
    rintro e w4 ⟨rfl, rfl⟩
    have HZ2 : Hid (ReadsI w4 p n z) := HZ1.out.up hb13
    have HB2 : Hid (ReadsB w4 q m h) := HB1.out.up hb13
    have hbw : Below w'.heap.size w' w4 := hb1.trans (hb13.mono hb1.size)
    clear HZ1 HB1 hb13 hB3 HT hr0 hK
    have HCL := Mn.cnt_le f 0 n
    have HQ0 : Mn.cntFrom f 0 n = 0 → Mn.quoOf (Mn.sumFrom f 0 n) (Mn.cntFrom f 0 n) = 0 := fun hh => by rw [hh]; rfl
    generalize hQ : Mn.quoOf (Mn.sumFrom f 0 n) (Mn.cntFrom f 0 n) = Q at *
    generalize hC : Mn.cntFrom f 0 n = C at *
    have HSC : Hid (Mn.cntFrom f 0 n = C) := hC
    have HQ : Hid (C = 0 → Q = 0) := HQ0
    clear hC hQ HQ0
    go_wp2
    go_loop [17, 18, 19] (fun s r i => ∃ (k y : Nat), k ≤ n ∧ y ≤ k ∧ i = .int .i64 (k : Int) ∧ s = .int .i64 (y : Int) ∧ r = .int .i64 0 ∧ Hid (y = Mn.cntFrom f 0 k)) (fun _ _ i => n - (intOf i).toNat)
    case atStart => exact ⟨0, 0, Nat.zero_le _, Nat.le_refl _, rfl, rfl, rfl, rfl⟩
    case round =>
      obtain ⟨k, y, hk, hy, rfl, rfl, rfl, HX⟩ := hrel
      by_cases hlt : k < n
      · by_cases hkm : k < m
        · rcases HB2.out with h0 | ⟨b2, o2, rfl, hc2⟩
          · omega
          have hbk := hc2 k hkm
          clear hc2
          cases hx : h k
          · rw [hx] at hbk
            have HN : f (0 + k) = none := by rw [HC.out, Nat.zero_add]; exact conf_none_has hx
            have HY : Hid (y = Mn.cntFrom f 0 (k + 1)) := by
              show y = _
              rw [Mn.cnt_none HN]; exact HX.out
            clear hx HN HX
            go_wp2
            go_round
            case rel => exact ⟨k + 1, y, by omega, by omega, by go_num, rfl, rfl, HY⟩
            case measure => simp [intOf]; omega
          · rw [hx] at hbk
            have HN : f (0 + k) = some (z k) := by rw [HC.out, Nat.zero_add]; exact conf_some hlt hkm hx
            have HY : Hid (y + 1 = Mn.cntFrom f 0 (k + 1)) := by
              show y + 1 = _
              rw [Mn.cnt_some HN, ← HX.out]
            clear hx HN HX
            go_wp2
            go_round
            case rel => exact ⟨k + 1, y + 1, by omega, by omega, by go_num, by go_num, rfl, HY⟩
            case measure => simp [intOf]; omega
        · have hkm' : ¬ (k : Int) < (m : Int) := by omega
          have HN : f (0 + k) = none := by rw [HC.out, Nat.zero_add]; exact conf_none_len hkm
          have HY : Hid (y = Mn.cntFrom f 0 (k + 1)) := by
            show y = _
            rw [Mn.cnt_none HN]; exact HX.out
          clear HN HX
          go_wp2
          go_round
          case rel => exact ⟨k + 1, y, by omega, by omega, by go_num, rfl, rfl, HY⟩
          case measure => simp [intOf]; omega
      · obtain rfl : k = n := by omega
        obtain rfl : y = C := by rw [HX.out]; exact HSC.out
        clear HX HSC
        by_cases hy0 : y = 0
        · have h1 : ((y : Int) == 0) = true := beq_iff_eq.2 (by omega)
          have h2 : (Q == 0) = true := beq_iff_eq.2 (HQ.out hy0)
          clear HQ hy0
          go_wp2
          go_ret
          exact ⟨rfl, hbw⟩
        · have h1 : ((y : Int) == 0) = false := beq_eq_false_iff_ne.2 (by omega)
          clear HQ hy0
          go_wp2
          go_ret
          exact ⟨rfl, hbw⟩
  case neg =>
    have hKlt : K < n := by omega
    clear hKn
    go_wp2_with (go_at_call 8; fail)
    refine (mean_any f HFB _ w'.heap.size 0 n n 0 _ hn (Nat.le_refl _) (by go_simp) (fun i hi => by rw [Nat.zero_add]; exact (HT.out i hi).up ((((Below.refl _ _).alloc (Nat.le_refl _) _).alloc (by simp) _).alloc (by simp; omega) _))).mono ?_
    rintro e w2 ⟨rfl, hb2⟩
    have hb12 : Below w1.heap.size w1 w2 := ((((Below.refl _ _).alloc (Nat.le_refl _) _).alloc (by simp) _).alloc (by simp; omega) _).trans (hb2.mono (by simp; omega))
    have hB1 : w2.cell? ⟨w1.heap.size + 1, 1, none⟩ = some (.slice (some ⟨w'.heap.size, 0, none⟩) K n) := cell_up hb2 (by go_simp)
    have hB2 : w2.cell? ⟨w1.heap.size + 1 + 1, 1, none⟩ = some (.slice (some ⟨w'.heap.size, K * 4, none⟩) (n - K) (n - K)) := cell_up hb2 (by go_simp)
    clear hb2
    go_wp2_with (go_at_call 8; fail)
    refine (mean_any f HFB _ w'.heap.size 0 K n 0 _ (by omega) hK hB1 (fun i hi => by rw [Nat.zero_add]; exact (HT.out i (by omega)).up hb12)).mono ?_
    rintro e w3 ⟨rfl, hb3⟩
    have hb13 : Below w1.heap.size w1 w3 := hb12.trans (hb3.mono hb12.size)
    have hB3 := cell_up hb3 hB2
    clear hb3 hB1 hB2 hb12
    go_wp2_with (go_at_call 8; fail)
    refine (mean_any f HFB _ w'.heap.size (K * 4) (n - K) (n - K) K _ (by omega) (Nat.le_refl _) hB3 (fun i hi => ((HT.out (K + i) (by omega)).up hb13).shift)).mono ?_
    rintro e w4 ⟨rfl, hb4⟩
    have hb14 : Below w1.heap.size w1 w4 := hb13.trans (hb4.mono hb13.size)
    have HZ2 : Hid (ReadsI w4 p n z) := HZ1.out.up hb14
    have HB2 : Hid (ReadsB w4 q m h) := HB1.out.up hb14
    have hbw : Below w'.heap.size w' w4 := hb1.trans (hb14.mono hb1.size)
    clear HZ1 HB1 hb13 hb14 hb4 hB3 HT
    have HCL := Mn.cnt_le f 0 K
    have HCR := Mn.cnt_le f K (n - K)
    have TM := three_means f K (n - K)
    rw [show K + (n - K) = n by omega] at TM
    generalize hQ : Mn.quoOf (Mn.sumFrom f 0 n) (Mn.cntFrom f 0 n) = QW at *
    generalize hQ1 : Mn.quoOf (Mn.sumFrom f 0 K) (Mn.cntFrom f 0 K) = QL at *
    generalize hQ2 : Mn.quoOf (Mn.sumFrom f K (n - K)) (Mn.cntFrom f K (n - K)) = QR at *
    generalize hC : Mn.cntFrom f 0 n = CW at *
    generalize hC1 : Mn.cntFrom f 0 K = CL at *
    generalize hC2 : Mn.cntFrom f K (n - K) = CR at *
    have HSC : Hid (Mn.cntFrom f 0 K = CL ∧ Mn.cntFrom f K (n - K) = CR) := ⟨hC1, hC2⟩
    clear hQ hQ1 hQ2 hC hC1 hC2
    obtain ⟨hcw, TM1, TM2, TM3⟩ := TM
    subst hcw
    have HTM : Hid ((CL = 0 → QW = QR) ∧ (CR = 0 → QW = QL) ∧ (CL ≠ 0 → CR ≠ 0 → (QL ≤ QW ∧ QW ≤ QR) ∨ (QR ≤ QW ∧ QW ≤ QL))) := ⟨TM1, TM2, TM3⟩
    clear TM1 TM2 TM3
    go_wp2
    go_loop [17, 18, 19] (fun s r i => ∃ (k y u : Nat), k ≤ n ∧ y ≤ K ∧ u ≤ n ∧ i = .int .i64 (k : Int) ∧ s = .int .i64 (y : Int) ∧ r = .int .i64 (u : Int) ∧ Hid (y = Mn.cntFrom f 0 (min k K) ∧ u = Mn.cntFrom f K (k - K))) (fun _ _ i => n - (intOf i).toNat)
    case atStart => exact ⟨0, 0, 0, Nat.zero_le _, Nat.zero_le _, Nat.zero_le _, rfl, rfl, rfl, ⟨by rw [Nat.zero_min]; rfl, by rw [Nat.zero_sub]; rfl⟩⟩
    case round =>
      obtain ⟨k, y, u, hk, hy, hu, rfl, rfl, rfl, HX⟩ := hrel
      by_cases hlt : k < n
      · by_cases hkm : k < m
        · rcases HB2.out with h0 | ⟨b2, o2, rfl, hc2⟩
          · omega
          have hbk := hc2 k hkm
          clear hc2
          cases hx : h k
          · rw [hx] at hbk
            have HN : f k = none := by rw [HC.out]; exact conf_none_has hx
            have HY : Hid (y = Mn.cntFrom f 0 (min (k + 1) K) ∧ u = Mn.cntFrom f K (k + 1 - K)) := step_none HN HX.out
            clear hx HN HX
            go_wp2
            go_round
            case rel => exact ⟨k + 1, y, u, by omega, by omega, by omega, by go_num, rfl, rfl, HY⟩
            case measure => simp [intOf]; omega
          · rw [hx] at hbk
            have HN : f k = some (z k) := by rw [HC.out]; exact conf_some hlt hkm hx
            by_cases hkK : k < K
            · have HY : Hid (y + 1 = Mn.cntFrom f 0 (min (k + 1) K) ∧ u = Mn.cntFrom f K (k + 1 - K)) := step_left HN hkK HX.out
              have hy1 : y + 1 ≤ K := by
                have h1 := HY.out.1
                have h2 := Mn.cnt_le f 0 (min (k + 1) K)
                omega
              clear hx HN HX
              go_wp2
              go_round
              case rel => exact ⟨k + 1, y + 1, u, by omega, hy1, by omega, by go_num, by go_num, rfl, HY⟩
              case measure => simp [intOf]; omega
            · have HY : Hid (y = Mn.cntFrom f 0 (min (k + 1) K) ∧ u + 1 = Mn.cntFrom f K (k + 1 - K)) := step_right HN hkK HX.out
              have hu1 : u + 1 ≤ n := by
                have h1 := HY.out.2
                have h2 := Mn.cnt_le f K (k + 1 - K)
                omega
              clear hx HN HX
              go_wp2
              go_round
              case rel => exact ⟨k + 1, y, u + 1, by omega, by omega, hu1, by go_num, rfl, by go_num, HY⟩
              case measure => simp [intOf]; omega
        · have hkm' : ¬ (k : Int) < (m : Int) := by omega
          have HN : f k = none := by rw [HC.out]; exact conf_none_len hkm
          have HY : Hid (y = Mn.cntFrom f 0 (min (k + 1) K) ∧ u = Mn.cntFrom f K (k + 1 - K)) := step_none HN HX.out
          clear HN HX
          go_wp2
          go_round
          case rel => exact ⟨k + 1, y, u, by omega, by omega, by omega, by go_num, rfl, rfl, HY⟩
          case measure => simp [intOf]; omega
      · obtain rfl : k = n := by omega
        obtain rfl : y = CL := by rw [HX.out.1, Nat.min_eq_right hK]; exact HSC.out.1
        obtain rfl : u = CR := by rw [HX.out.2]; exact HSC.out.2
        clear HX HSC
        obtain ⟨T1, T2, T3⟩ := HTM.out
        clear HTM
        by_cases hy0 : y = 0
        · have h1 : ((y : Int) == 0) = true := beq_iff_eq.2 (by omega)
          have h2 : (QW == QR) = true := beq_iff_eq.2 (T1 hy0)
          clear T1 T2 T3 hy0
          go_wp2
          go_ret
          exact ⟨rfl, hbw⟩
        · have h1 : ((y : Int) == 0) = false := beq_eq_false_iff_ne.2 (by omega)
          by_cases hu0 : u = 0
          · have h2 : ((u : Int) == 0) = true := beq_iff_eq.2 (by omega)
            have h3 : (QW == QL) = true := beq_iff_eq.2 (T2 hu0)
            clear T1 T2 T3 hy0 hu0
            go_wp2
            go_ret
            exact ⟨rfl, hbw⟩
          · have h2 : ((u : Int) == 0) = false := beq_eq_false_iff_ne.2 (by omega)
            have h3 := T3 hy0 hu0
            clear T1 T2 T3 hy0 hu0
            by_cases hs : QR < QL
            · have g1 : QR ≤ QW := by omega
              have g2 : QW ≤ QL := by omega
              clear h3
              go_wp2
              go_ret
              exact ⟨rfl, hbw⟩
            · have g1 : QL ≤ QW := by omega
              have g2 : QW ≤ QR := by omega
              clear h3
              go_wp2
              go_ret
              exact ⟨rfl, hbw⟩

theorem lawJ_any (p q : Option Addr) (n c m d : Nat) (cut : Int) (z : Nat → Int) (h : Nat → Bool) (w : World) (hn : n ≤ maxLen) (hm : m ≤ maxLen) (HZ : ReadsI w p n z) (HB : ReadsB w q m h) :
    Calls Try.prog 4 #[.slice p n c, .slice q m d, .int .i64 cut] w fun e w' => e = .returned (.bool true) ∧ Below w.heap.size w w' := by
  by_cases hs : n ≤ 65536 ∧ m ≤ 65536
  · by_cases hc : cut < 0 ∨ (n : Int) < cut
    · exact lawJ_out p q n c m d cut w hs.1 hs.2 hc
    · obtain ⟨K, rfl⟩ := Int.eq_ofNat_of_zero_le (show 0 ≤ cut by omega)
      exact lawJ_small p q n c m d K z h w hs.1 hs.2 (by omega) HZ HB
  · exact lawJ_big p q n c m d cut w hn hm (by omega)
end Go.Proofs.Qxb6630546a
