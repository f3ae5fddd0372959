/-
  THE WALK of FnMeanIsTruncatedMeanOfConfirmed (seat b6630546a).
-/
import Derived.Test.Qxb6630546aWalkB
namespace Go.Proofs.Qxb6630546a
open Go.RowKit

theorem conf_bounded {n m : Nat} {z : Nat → Int} {h : Nat → Bool} (hz : ∀ i, i < n → -70368744177664 ≤ z i ∧ z i ≤ 70368744177664) : Mn.Bounded (conf n m z h) := by
  intro i v hv
  unfold conf at hv
  split at hv
  · rename_i hc
    simp at hc
    injection hv with hv
    subst hv
    exact hz i hc.1
  · cases hv

theorem ret_bool {a b : Bool} (h : a = b) : Ending.returned (.bool a) = .returned (.bool b) := by rw [h]

set_option maxHeartbeats 400000 in
theorem lawM_big (fl : Int) (p q lag : Option Addr) (n c m d : Nat) (w : World) (hn : n ≤ maxLen) (hm : m ≤ maxLen) (h : 65536 < n ∨ 65536 < m) :
    Calls Try.prog 3 #[.int .i64 fl, .slice p n c, .slice q m d, .pointer lag] w fun e w' => e = .returned (.bool true) ∧ Below w.heap.size w w' := by
  unfold maxLen at hn hm
  have h2 : 65536 < (n : Int) ∨ (¬ 65536 < (n : Int) ∧ 65536 < (m : Int)) := by omega
  clear h
  rcases h2 with h2 | ⟨h2, h3⟩
  all_goals
    go_enter Try.func3, Try.ntmps3
    go_wp2_with (go_at_call 5; refine (bytes1_some _ _ _ _ _ _ _ _ _).mono ?_; rintro e w' ⟨rfl | rfl, rfl⟩)
    all_goals
      go_ret
      exact ⟨rfl, Below.refl _ _⟩

set_option maxHeartbeats 1000000 in
set_option maxRecDepth 100000 in
theorem lawM_small (fl : Int) (p q lag : Option Addr) (n c m d : Nat) (z : Nat → Int) (h : Nat → Bool) (w : World) (hn : n ≤ 65536) (hm : m ≤ 65536) (HZ : Hid (ReadsI w p n z)) (HB : Hid (ReadsB w q m h)) (hl : lag = none ∨ ∃ lb lo v, lag = some ⟨lb, lo, none⟩ ∧ w.cell? ⟨lb, lo, none⟩ = some (.int .i64 v)) :
    Calls Try.prog 3 #[.int .i64 fl, .slice p n c, .slice q m d, .pointer lag] w fun e w' => e = .returned (.bool true) ∧ Below w.heap.size w w' := by
  go_enter Try.func3, Try.ntmps3
  go_wp2_with (go_at_call 5; fail)
  refine (bytes1_some _ _ _ _ _ _ _ _ _).mono ?_
  rintro e w' ⟨rfl | rfl, rfl⟩
  · go_wp2
    go_ret
    exact ⟨rfl, Below.refl _ _⟩
  obtain ⟨N, hN⟩ : ∃ N : Int, (n : Int) = N := ⟨_, rfl⟩
  obtain ⟨M, hM⟩ : ∃ N : Int, (m : Int) = N := ⟨_, rfl⟩
  have hN0 : 0 ≤ N ∧ N ≤ 65536 := by omega
  have hM0 : 0 ≤ M ∧ M ≤ 65536 := by omega
  have h5 : ¬ 1048576 < 8 * N + M + 8 := by omega
  go_wp2_with (go_at_call 6; fail)
  clear hN hM h5 hN0 hM0
  refine (fits_any p n c z _ hn HZ).mono ?_
  rintro e w' ⟨rfl | ⟨rfl, HF⟩, rfl⟩
  · go_wp2
    go_ret
    exact ⟨rfl, Below.refl _ _⟩
  go_wp2_with (go_at_call 7; fail)
  refine (build_any p q n c m d z h _ hn HZ HB).mono ?_
  rintro e w1 ⟨rfl, HT, hb1⟩
  have HFB : Hid (Mn.Bounded (conf n m z h)) := conf_bounded HF.out
  have HZ1 : Hid (ReadsI w1 p n z) := HZ.out.up hb1
  have HB1 : Hid (ReadsB w1 q m h) := HB.out.up hb1
  clear HF HZ HB
  obtain ⟨f, hf⟩ : ∃ f, f = conf n m z h := ⟨_, rfl⟩
  rw [← hf] at HT HFB
  have HC : Hid (f = conf n m z h) := hf
  clear hf
  rcases hl with rfl | ⟨lb, lo, v, rfl, hv⟩
  case' inl =>
    go_wp2_with (go_at_call 8; fail)
    refine (mean_any f HFB _ w'.heap.size 0 n n 0 _ hn (Nat.le_refl _) (by go_simp) (fun i hi => by rw [Nat.zero_add]; exact (HT.out i hi).up ((Below.refl _ _).alloc (Nat.le_refl _) _))).mono ?_
    rintro e w2 ⟨rfl, hb2⟩
    have hb12 : Below w1.heap.size w1 w2 := ((Below.refl _ _).alloc (Nat.le_refl _) _).trans (hb2.mono (by simp))
  case' inr =>
    have hv1 := cell_up hb1 hv
    clear hv
    go_wp2_with (go_at_call 8; fail)
    refine (mean_any f HFB _ w'.heap.size 0 n n 0 _ hn (Nat.le_refl _) (by go_simp) (fun i hi => by rw [Nat.zero_add]; exact (HT.out i hi).up (((Below.refl _ _).alloc (Nat.le_refl _) _).alloc (by simp) _))).mono ?_
    rintro e w2 ⟨rfl, hb2⟩
    have hb12 : Below w1.heap.size w1 w2 := (((Below.refl _ _).alloc (Nat.le_refl _) _).alloc (by simp) _).trans (hb2.mono (by simp; omega))
  all_goals
    clear hb2 HT
    have HZ2 : Hid (ReadsI w2 p n z) := HZ1.out.up hb12
    have HB2 : Hid (ReadsB w2 q m h) := HB1.out.up hb12
    have hbw : Below w'.heap.size w' w2 := hb1.trans (hb12.mono hb1.size)
    clear HZ1 HB1 hb12
    have HS := Mn.sum_bound HFB.out 0 n
    have HCL := Mn.cnt_le f 0 n
    generalize hS : Mn.sumFrom f 0 n = S at *
    generalize hC : Mn.cntFrom f 0 n = C at *
    have HSC : Hid (Mn.sumFrom f 0 n = S ∧ Mn.cntFrom f 0 n = C) := ⟨hS, hC⟩
    clear hS hC
    generalize hQ : Mn.quoOf S C = Q
    have HQ : Hid (Mn.quoOf S C = Q) := hQ
    clear hQ
    go_wp2
    go_loop [15, 16, 17] (fun s q i => ∃ (k y : Nat) (x : Int), k ≤ n ∧ y ≤ k ∧ -(70368744177664 * (y : Int)) ≤ x ∧ x ≤ 70368744177664 * (y : Int) ∧ i = .int .i64 (k : Int) ∧ q = .int .i64 x ∧ s = .int .i64 (y : Int) ∧ Hid (x = Mn.sumFrom f 0 k ∧ y = Mn.cntFrom f 0 k)) (fun _ _ i => n - (intOf i).toNat)
    case atStart => exact ⟨0, 0, 0, Nat.zero_le _, Nat.le_refl _, by omega, by omega, rfl, rfl, rfl, ⟨rfl, rfl⟩⟩
    case round =>
      obtain ⟨k, y, x, hk, hy, hx1, hx2, rfl, rfl, rfl, HX⟩ := hrel
      by_cases hlt : k < n
      · rcases HZ2.out with h0 | ⟨b, o, rfl, hc⟩
        · omega
        have hck := hc k hlt
        clear hc
        by_cases hkm : k < m
        · rcases HB2.out with h0 | ⟨b2, o2, rfl, hc2⟩
          · omega
          have hbk := hc2 k hkm
          clear hc2
          cases hx : h k
          · rw [hx] at hbk
            have HN : f (0 + k) = none := by rw [HC.out, Nat.zero_add]; exact conf_none_has hx
            have HY : Hid (x = Mn.sumFrom f 0 (k + 1) ∧ y = Mn.cntFrom f 0 (k + 1)) := ⟨by rw [Mn.sum_none HN]; exact HX.out.1, by rw [Mn.cnt_none HN]; exact HX.out.2⟩
            clear hx HN HX
            go_wp2
            go_round
            case rel => exact ⟨k + 1, y, x, by omega, by omega, hx1, hx2, by go_num, rfl, rfl, HY⟩
            case measure => simp [intOf]; omega
          · rw [hx] at hbk
            have HN : f (0 + k) = some (z k) := by rw [HC.out, Nat.zero_add]; exact conf_some hlt hkm hx
            have hzb := HFB.out _ _ HN
            have HY : Hid (x + z k = Mn.sumFrom f 0 (k + 1) ∧ y + 1 = Mn.cntFrom f 0 (k + 1)) := ⟨by rw [Mn.sum_some HN, ← HX.out.1], by rw [Mn.cnt_some HN, ← HX.out.2]⟩
            clear hx HN HX
            generalize z k = v at *
            go_wp2
            go_round
            case rel => exact ⟨k + 1, y + 1, x + v, by omega, by omega, by omega, by omega, by go_num, rfl, by go_num, HY⟩
            case measure => simp [intOf]; omega
        · have hkm' : ¬ (k : Int) < (m : Int) := by omega
          have HN : f (0 + k) = none := by rw [HC.out, Nat.zero_add]; exact conf_none_len hkm
          have HY : Hid (x = Mn.sumFrom f 0 (k + 1) ∧ y = Mn.cntFrom f 0 (k + 1)) := ⟨by rw [Mn.sum_none HN]; exact HX.out.1, by rw [Mn.cnt_none HN]; exact HX.out.2⟩
          clear HN HX
          go_wp2
          go_round
          case rel => exact ⟨k + 1, y, x, by omega, by omega, hx1, hx2, by go_num, rfl, rfl, HY⟩
          case measure => simp [intOf]; omega
      · obtain rfl : k = n := by omega
        obtain rfl : x = S := by rw [HX.out.1]; exact HSC.out.1
        obtain rfl : y = C := by rw [HX.out.2]; exact HSC.out.2
        clear HX HSC
        have hy6 : (y : Int) ≤ 65536 := by omega
        by_cases hy0 : y = 0
        · have h1 : ((y : Int) == 0) = true := beq_iff_eq.2 (by omega)
          have h2 : (Q == 0) = true := by
            rw [beq_iff_eq, ← HQ.out, hy0]; rfl
          clear HQ hy0
          go_wp2
          go_ret
          exact ⟨rfl, hbw⟩
        · have h1 : ((y : Int) == 0) = false := beq_eq_false_iff_ne.2 (by omega)
          have hq : Q = x.tdiv (y : Int) := by rw [← HQ.out, Mn.quo_pos x hy0]
          have hr := Mn.tdiv_rem x y (by omega)
          have hb := Mn.tdiv_bound x y (by omega) (70368744177664 * (y : Int)) hx1 hx2
          rw [← hq] at hr hb
          have hy1 : (0 : Int) < (y : Int) := by omega
          clear hq HQ hy0 hy HCL
          obtain ⟨Y, hY⟩ : ∃ Y : Int, (y : Int) = Y := ⟨_, rfl⟩
          rw [hY] at hr hb h1 hy6 hy1 hx1 hx2
          obtain ⟨hr1, hr2⟩ := hr
          by_cases hx0 : 0 ≤ x
          · obtain ⟨r1, r2, r3⟩ := hr1 hx0
            clear hr1 hr2
            go_wp2
            go_ret
            refine ⟨ret_bool ?_, hbw⟩
            simp
          · obtain ⟨r1, r2, r3⟩ := hr2 (by omega)
            clear hr1 hr2
            go_wp2
            go_ret
            refine ⟨ret_bool ?_, hbw⟩
            simp

theorem lawM_any (fl : Int) (p q lag : Option Addr) (n c m d : Nat) (z : Nat → Int) (h : Nat → Bool) (w : World) (hn : n ≤ maxLen) (hm : m ≤ maxLen) (HZ : ReadsI w p n z) (HB : ReadsB w q m h) (hl : lag = none ∨ ∃ lb lo v, lag = some ⟨lb, lo, none⟩ ∧ w.cell? ⟨lb, lo, none⟩ = some (.int .i64 v)) :
    Calls Try.prog 3 #[.int .i64 fl, .slice p n c, .slice q m d, .pointer lag] w fun e w' => e = .returned (.bool true) ∧ Below w.heap.size w w' := by
  by_cases hs : n ≤ 65536 ∧ m ≤ 65536
  · exact lawM_small fl p q lag n c m d z h w hs.1 hs.2 HZ HB hl
  · exact lawM_big fl p q lag n c m d w hn hm (by omega)
end Go.Proofs.Qxb6630546a
