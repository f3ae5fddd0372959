/-
  THE WALK of FnCheckTypesRefusesWholeIffAPartRefuses (seat b6630593aF).
-/
import Derived.Test.Qxb6630593aFmtWalkB
namespace Go.Proofs.Qxb6630593aFmt
open Go.RowKit Go.Extern.Stop Go.Stop Go.Extern

theorem types_err (F : Interp) (p : Option Addr) (n c : Nat) (s : Nat → ByteArray) (w : World) (hF : F.answers w.tape) (hn : n ≤ 1048576) (HS : ReadsS w p n s) (hr : Nm.refuses s 0 n = true) :
    Calls Tryf.prog 6 #[.slice p n c] w fun e w' => (∃ a, e = .returned (.iface 31 (.pointer (some a)))) ∧ Below w.heap.size w w' := by
  have h := types_any F p n c s w hF hn HS
  rw [hr] at h
  exact h
theorem types_nil (F : Interp) (p : Option Addr) (n c : Nat) (s : Nat → ByteArray) (w : World) (hF : F.answers w.tape) (hn : n ≤ 1048576) (HS : ReadsS w p n s) (hr : Nm.refuses s 0 n = false) :
    Calls Tryf.prog 6 #[.slice p n c] w fun e w' => e = .returned .nilIface ∧ Below w.heap.size w w' := by
  have h := types_any F p n c s w hF hn HS
  rw [hr] at h
  exact h

/-- A list is refused exactly when a part of it is. -/
theorem refuses_parts (s : Nat → ByteArray) (K n : Nat) (h0 : 0 < K) (h1 : K < n) : Nm.refuses s 0 n = (Nm.refuses s 0 K || Nm.refuses (fun j => s (K + j)) 0 (n - K)) := by
  rw [Nm.refuses_pos (by omega), Nm.refuses_pos (by omega), Nm.refuses_pos (by omega)]
  have h := Nm.all_append s 0 K (n - K)
  rw [show K + (n - K) = n by omega, Nat.zero_add] at h
  have hc : Nm.allFit (fun j => s (K + j)) 0 (n - K) = Nm.allFit s K (n - K) := Nm.all_congr (fun i _ => by simp)
  rw [h, hc, Bool.not_and]

set_option maxHeartbeats 1000000 in
set_option maxRecDepth 100000 in
theorem lawR_nil (cut : Int) (w : World) :
    Calls Tryf.prog 3 #[.slice none 0 0, .int .i64 cut] w fun e w' => e = .returned (.bool true) ∧ Below w.heap.size w w' := by
  have hnil := fun wx => run_neq_slice_nil_any (P := Tryf.prog) wx 22 9 (none : Option Addr) 0 0 0 0 Tryf.underlying22
  go_enter Tryf.func3, Tryf.ntmps3
  go_wp2_with (go_at_call 5; fail)
  refine (bytes5_some none 0 0 cut (fun _ => ⟨#[]⟩) _ (Nat.zero_le _) (Or.inl rfl)).mono ?_
  rintro e w' ⟨rfl | ⟨rfl, _⟩, rfl⟩
  · go_wp2
    go_ret
    exact ⟨rfl, Below.refl _ _⟩
  go_wp2
  go_loop [6, 7] (fun t i => t = .int .i64 0 ∧ i = .int .i64 0) (fun _ _ => 0)
  case atStart => exact ⟨rfl, rfl⟩
  case round =>
    obtain ⟨rfl, rfl⟩ := hrel
    by_cases h1 : cut < 0
    · go_wp2
      go_ret
      exact ⟨rfl, Below.refl _ _⟩
    · by_cases h2 : 0 < cut
      · go_wp2
        go_ret
        exact ⟨rfl, Below.refl _ _⟩
      · obtain rfl : cut = 0 := by omega
        clear h1 h2
        go_wp2_with (go_at_call 6; fail)
        refine (types_zero _ _ _).mono ?_
        rintro e w1 ⟨⟨a, rfl⟩, hb1⟩
        go_wp2_with (go_at_call 6; fail)
        refine (types_zero _ _ _).mono ?_
        rintro e w2 ⟨⟨a2, rfl⟩, hb2⟩
        go_wp2_with (go_at_call 7; fail)
        refine (allNames_zero _ _ _).mono ?_
        rintro e w3 ⟨rfl, rfl⟩
        go_wp2
        go_ret
        exact ⟨rfl, hb1.trans (hb2.mono hb1.size)⟩

set_option maxHeartbeats 2000000 in
set_option maxRecDepth 100000 in
theorem lawR_some (F : Interp) (a : Addr) (n c : Nat) (cut : Int) (s : Nat → ByteArray) (w : World) (hF : F.answers w.tape) (hn : n ≤ maxLen) (HS : Hid (ReadsS w (some a) n s)) :
    Calls Tryf.prog 3 #[.slice (some a) n c, .int .i64 cut] w fun e w' => e = .returned (.bool true) ∧ Below w.heap.size w w' := by
  have hnil := fun wx => run_neq_slice_nil_any (P := Tryf.prog) wx 22 9 (some a) n c 0 0 Tryf.underlying22
  go_enter Tryf.func3, Tryf.ntmps3
  go_wp2_with (go_at_call 5; fail)
  refine (bytes5_some (some a) n c cut s _ hn HS).mono ?_
  rintro e w' ⟨rfl | ⟨rfl, HN⟩, rfl⟩
  · go_wp2
    go_ret
    exact ⟨rfl, Below.refl _ _⟩
  have hn2 : n ≤ 1048576 := HN.out
  clear hn HN
  have hmk := make_run n hn2
  obtain ⟨w1, hcp, hc1, hb1⟩ := copied a n c s _ HS.out
  have HC : Hid (∀ j, j < n → w1.cell? ⟨w'.heap.size, 0 + j, none⟩ = some (.string (s j))) := hc1
  have HF1 : Hid (F.answers w1.tape) := by
    show F.answers w1.tape
    rw [hb1.tape]; exact hF
  clear hc1 HS hF
  go_wp2
  go_loop [6, 7] (fun t i => ∃ k y : Nat, k ≤ n ∧ y ≤ 1048576 ∧ i = .int .i64 (k : Int) ∧ t = .int .i64 (y : Int)) (fun _ i => n - (intOf i).toNat)
  case atStart => exact ⟨0, 0, Nat.zero_le _, Nat.zero_le _, rfl, rfl⟩
  case round =>
    obtain ⟨k, y, hk, hy, rfl, rfl⟩ := hrel
    by_cases hlt : k < n
    · have hck := HC.out k hlt
      rw [Nat.zero_add] at hck
      generalize s k = x at *
      by_cases hx : 1048576 < x.size
      · have h1 : 1048576 < (x.size : Int) := by omega
        go_wp2
        go_ret
        exact ⟨rfl, hb1⟩
      · by_cases hs : 1048576 < y + (16 + x.size)
        · have h1 : 1048576 < (y : Int) + (16 + (x.size : Int)) := by omega
          go_wp2
          go_ret
          exact ⟨rfl, hb1⟩
        · go_wp2
          go_round
          case rel => exact ⟨k + 1, y + (16 + x.size), by omega, by omega, by go_num, by go_num⟩
          case measure => simp [intOf]; omega
    · clear hcp hmk hnil
      have hk1 : ¬ (k : Int) < (n : Int) := by omega
      by_cases h1 : cut < 0
      · go_wp2
        go_ret
        exact ⟨rfl, hb1⟩
      by_cases h2 : (n : Int) < cut
      · go_wp2
        go_ret
        exact ⟨rfl, hb1⟩
      obtain ⟨K, rfl⟩ := Int.eq_ofNat_of_zero_le (show 0 ≤ cut by omega)
      have hK : K ≤ n := by omega
      clear h1 h2
      have RS : ReadsS w1 (some ⟨w'.heap.size, 0, none⟩) n s := Or.inr ⟨_, _, rfl, HC.out⟩
      have hFup : ∀ {wx : World}, Below w1.heap.size w1 wx → F.answers wx.tape := fun hb => by rw [hb.tape]; exact HF1.out
      have B1 : Below w1.heap.size w1 w1 := Below.refl _ _
      clear hk1 hk hy
      have hkk : ¬ (k : Int) < (n : Int) := by omega
      by_cases hn0 : n = 0
      · obtain rfl : K = 0 := by omega
        have HW : Hid (Nm.refuses s 0 n = true) := by rw [hn0]; rfl
        have g1 : ((n : Int) == 0) = true := beq_iff_eq.2 (by omega)
        have g2 : ¬ (0 : Int) < (n : Int) := by omega
        clear hn0
        go_wp2_with (go_at_call 6; fail)
        refine (types_err F _ n n s _ (hFup B1) hn2 (RS.up B1) HW.out).mono ?_
        rintro e w2 ⟨⟨q2, rfl⟩, hb2⟩
        have B2 : Below w1.heap.size w1 w2 := B1.trans (hb2.mono B1.size)
        clear hb2
        go_wp2_with (go_at_call 6; fail)
        refine (types_zero _ _ _).mono ?_
        rintro e w3 ⟨⟨q3, rfl⟩, hb3⟩
        have B3 : Below w1.heap.size w1 w3 := B2.trans (hb3.mono B2.size)
        clear hb3
        go_wp2_with (go_at_call 7; fail)
        refine (allNames_any _ n n s _ hn2 (RS.up B3)).mono ?_
        rw [HW.out]
        rintro e w4 ⟨rfl, rfl⟩
        go_wp2
        go_ret
        exact ⟨rfl, hb1.trans (B3.mono hb1.size)⟩
      · have g1 : ((n : Int) == 0) = false := beq_eq_false_iff_ne.2 (by omega)
        by_cases hK0 : K = 0
        · subst hK0
          have g2 : (0 : Int) < (n : Int) := by omega
          clear hn0
          cases hW : Nm.refuses s 0 n
          · have HW : Hid (Nm.refuses s 0 n = false) := hW
            clear hW
            go_wp2_with (go_at_call 6; fail)
            refine (types_nil F _ n n s _ (hFup B1) hn2 (RS.up B1) HW.out).mono ?_
            rintro e w2 ⟨rfl, hb2⟩
            have B2 : Below w1.heap.size w1 w2 := B1.trans (hb2.mono B1.size)
            clear hb2
            go_wp2_with (go_at_call 6; fail)
            refine (types_zero _ _ _).mono ?_
            rintro e w3 ⟨⟨q3, rfl⟩, hb3⟩
            have B3 : Below w1.heap.size w1 w3 := B2.trans (hb3.mono B2.size)
            clear hb3
            go_wp2_with (go_at_call 6; fail)
            refine (types_nil F _ n n s _ (hFup B3) hn2 (RS.up B3) HW.out).mono ?_
            rintro e w4 ⟨rfl, hb4⟩
            have B4 : Below w1.heap.size w1 w4 := B3.trans (hb4.mono B3.size)
            clear hb4
            go_wp2_with (go_at_call 7; fail)
            refine (allNames_any _ n n s _ hn2 (RS.up B4)).mono ?_
            rw [HW.out]
            rintro e w5 ⟨rfl, rfl⟩
            go_wp2
            go_ret
            exact ⟨rfl, hb1.trans (B4.mono hb1.size)⟩
          · have HW : Hid (Nm.refuses s 0 n = true) := hW
            clear hW
            go_wp2_with (go_at_call 6; fail)
            refine (types_err F _ n n s _ (hFup B1) hn2 (RS.up B1) HW.out).mono ?_
            rintro e w2 ⟨⟨q2, rfl⟩, hb2⟩
            have B2 : Below w1.heap.size w1 w2 := B1.trans (hb2.mono B1.size)
            clear hb2
            go_wp2_with (go_at_call 6; fail)
            refine (types_zero _ _ _).mono ?_
            rintro e w3 ⟨⟨q3, rfl⟩, hb3⟩
            have B3 : Below w1.heap.size w1 w3 := B2.trans (hb3.mono B2.size)
            clear hb3
            go_wp2_with (go_at_call 6; fail)
            refine (types_err F _ n n s _ (hFup B3) hn2 (RS.up B3) HW.out).mono ?_
            rintro e w4 ⟨⟨q4, rfl⟩, hb4⟩
            have B4 : Below w1.heap.size w1 w4 := B3.trans (hb4.mono B3.size)
            clear hb4
            go_wp2_with (go_at_call 7; fail)
            refine (allNames_any _ n n s _ hn2 (RS.up B4)).mono ?_
            rw [HW.out]
            rintro e w5 ⟨rfl, rfl⟩
            go_wp2
            go_ret
            exact ⟨rfl, hb1.trans (B4.mono hb1.size)⟩
        · have g3 : (0 : Int) < (K : Int) := by omega
          by_cases hKn : K = n
          · subst hKn
            clear hK0 hn0
            cases hW : Nm.refuses s 0 K
            · have HW : Hid (Nm.refuses s 0 K = false) := hW
              clear hW
              go_wp2_with (go_at_call 6; fail)
              refine (types_nil F _ K K s _ (hFup B1) hn2 (RS.up B1) HW.out).mono ?_
              rintro e w2 ⟨rfl, hb2⟩
              have B2 : Below w1.heap.size w1 w2 := B1.trans (hb2.mono B1.size)
              clear hb2
              go_wp2_with (go_at_call 6; fail)
              refine (types_zero _ _ _).mono ?_
              rintro e w3 ⟨⟨q3, rfl⟩, hb3⟩
              have B3 : Below w1.heap.size w1 w3 := B2.trans (hb3.mono B2.size)
              clear hb3
              go_wp2_with (go_at_call 6; fail)
              refine (types_nil F _ K K s _ (hFup B3) hn2 (RS.up B3) HW.out).mono ?_
              rintro e w4 ⟨rfl, hb4⟩
              have B4 : Below w1.heap.size w1 w4 := B3.trans (hb4.mono B3.size)
              clear hb4
              go_wp2_with (go_at_call 7; fail)
              refine (allNames_any _ K K s _ hn2 (RS.up B4)).mono ?_
              rw [HW.out]
              rintro e w5 ⟨rfl, rfl⟩
              go_wp2
              go_ret
              exact ⟨rfl, hb1.trans (B4.mono hb1.size)⟩
            · have HW : Hid (Nm.refuses s 0 K = true) := hW
              clear hW
              go_wp2_with (go_at_call 6; fail)
              refine (types_err F _ K K s _ (hFup B1) hn2 (RS.up B1) HW.out).mono ?_
              rintro e w2 ⟨⟨q2, rfl⟩, hb2⟩
              have B2 : Below w1.heap.size w1 w2 := B1.trans (hb2.mono B1.size)
              clear hb2
              go_wp2_with (go_at_call 6; fail)
              refine (types_zero _ _ _).mono ?_
              rintro e w3 ⟨⟨q3, rfl⟩, hb3⟩
              have B3 : Below w1.heap.size w1 w3 := B2.trans (hb3.mono B2.size)
              clear hb3
              go_wp2_with (go_at_call 6; fail)
              refine (types_err F _ K K s _ (hFup B3) hn2 (RS.up B3) HW.out).mono ?_
              rintro e w4 ⟨⟨q4, rfl⟩, hb4⟩
              have B4 : Below w1.heap.size w1 w4 := B3.trans (hb4.mono B3.size)
              clear hb4
              go_wp2_with (go_at_call 7; fail)
              refine (allNames_any _ K K s _ hn2 (RS.up B4)).mono ?_
              rw [HW.out]
              rintro e w5 ⟨rfl, rfl⟩
              go_wp2
              go_ret
              exact ⟨rfl, hb1.trans (B4.mono hb1.size)⟩
          · have g4 : (K : Int) < (n : Int) := by omega
            have RL : ReadsS w1 (some ⟨w'.heap.size, 0, none⟩) K s := Or.inr ⟨_, _, rfl, fun j hj => HC.out j (by omega)⟩
            have RR : ReadsS w1 (some ⟨w'.heap.size, K, none⟩) (n - K) (fun j => s (K + j)) := Or.inr ⟨_, _, rfl, fun j hj => by have := HC.out (K + j) (by omega); rw [Nat.zero_add] at this; exact this⟩
            have hlaw := refuses_parts s K n (by omega) (by omega)
            clear hn0 hK0 hKn
            cases hL : Nm.refuses s 0 K
            · cases hR : Nm.refuses (fun j => s (K + j)) 0 (n - K)
              · have HW : Hid (Nm.refuses s 0 n = false) := by rw [hL, hR] at hlaw; exact hlaw
                have HL : Hid (Nm.refuses s 0 K = false) := hL
                have HR : Hid (Nm.refuses (fun j => s (K + j)) 0 (n - K) = false) := hR
                clear hlaw hL hR
                go_wp2_with (go_at_call 6; fail)
                refine (types_nil F _ n n s _ (hFup B1) hn2 (RS.up B1) HW.out).mono ?_
                rintro e w2 ⟨rfl, hb2⟩
                have B2 : Below w1.heap.size w1 w2 := B1.trans (hb2.mono B1.size)
                clear hb2
                go_wp2_with (go_at_call 6; fail)
                refine (types_zero _ _ _).mono ?_
                rintro e w3 ⟨⟨q3, rfl⟩, hb3⟩
                have B3 : Below w1.heap.size w1 w3 := B2.trans (hb3.mono B2.size)
                clear hb3
                go_wp2_with (go_at_call 6; fail)
                refine (types_nil F _ K n s _ (hFup B3) (by omega) (RL.up B3) HL.out).mono ?_
                rintro e w4 ⟨rfl, hb4⟩
                have B4 : Below w1.heap.size w1 w4 := B3.trans (hb4.mono B3.size)
                clear hb4
                go_wp2_with (go_at_call 6; fail)
                refine (types_nil F _ (n - K) (n - K) (fun j => s (K + j)) _ (hFup B4) (by omega) (RR.up B4) HR.out).mono ?_
                rintro e w5 ⟨rfl, hb5⟩
                have B5 : Below w1.heap.size w1 w5 := B4.trans (hb5.mono B4.size)
                clear hb5
                go_wp2_with (go_at_call 7; fail)
                refine (allNames_any _ n n s _ hn2 (RS.up B5)).mono ?_
                rw [HW.out]
                rintro e w6 ⟨rfl, rfl⟩
                go_wp2
                go_ret
                exact ⟨rfl, hb1.trans (B5.mono hb1.size)⟩
              · have HW : Hid (Nm.refuses s 0 n = true) := by rw [hL, hR] at hlaw; exact hlaw
                have HL : Hid (Nm.refuses s 0 K = false) := hL
                have HR : Hid (Nm.refuses (fun j => s (K + j)) 0 (n - K) = true) := hR
                clear hlaw hL hR
                go_wp2_with (go_at_call 6; fail)
                refine (types_err F _ n n s _ (hFup B1) hn2 (RS.up B1) HW.out).mono ?_
                rintro e w2 ⟨⟨q2, rfl⟩, hb2⟩
                have B2 : Below w1.heap.size w1 w2 := B1.trans (hb2.mono B1.size)
                clear hb2
                go_wp2_with (go_at_call 6; fail)
                refine (types_zero _ _ _).mono ?_
                rintro e w3 ⟨⟨q3, rfl⟩, hb3⟩
                have B3 : Below w1.heap.size w1 w3 := B2.trans (hb3.mono B2.size)
                clear hb3
                go_wp2_with (go_at_call 6; fail)
                refine (types_nil F _ K n s _ (hFup B3) (by omega) (RL.up B3) HL.out).mono ?_
                rintro e w4 ⟨rfl, hb4⟩
                have B4 : Below w1.heap.size w1 w4 := B3.trans (hb4.mono B3.size)
                clear hb4
                go_wp2_with (go_at_call 6; fail)
                refine (types_err F _ (n - K) (n - K) (fun j => s (K + j)) _ (hFup B4) (by omega) (RR.up B4) HR.out).mono ?_
                rintro e w5 ⟨⟨q5, rfl⟩, hb5⟩
                have B5 : Below w1.heap.size w1 w5 := B4.trans (hb5.mono B4.size)
                clear hb5
                go_wp2_with (go_at_call 7; fail)
                refine (allNames_any _ n n s _ hn2 (RS.up B5)).mono ?_
                rw [HW.out]
                rintro e w6 ⟨rfl, rfl⟩
                go_wp2
                go_ret
                exact ⟨rfl, hb1.trans (B5.mono hb1.size)⟩
            · cases hR : Nm.refuses (fun j => s (K + j)) 0 (n - K)
              · have HW : Hid (Nm.refuses s 0 n = true) := by rw [hL, hR] at hlaw; exact hlaw
                have HL : Hid (Nm.refuses s 0 K = true) := hL
                have HR : Hid (Nm.refuses (fun j => s (K + j)) 0 (n - K) = false) := hR
                clear hlaw hL hR
                go_wp2_with (go_at_call 6; fail)
                refine (types_err F _ n n s _ (hFup B1) hn2 (RS.up B1) HW.out).mono ?_
                rintro e w2 ⟨⟨q2, rfl⟩, hb2⟩
                have B2 : Below w1.heap.size w1 w2 := B1.trans (hb2.mono B1.size)
                clear hb2
                go_wp2_with (go_at_call 6; fail)
                refine (types_zero _ _ _).mono ?_
                rintro e w3 ⟨⟨q3, rfl⟩, hb3⟩
                have B3 : Below w1.heap.size w1 w3 := B2.trans (hb3.mono B2.size)
                clear hb3
                go_wp2_with (go_at_call 6; fail)
                refine (types_err F _ K n s _ (hFup B3) (by omega) (RL.up B3) HL.out).mono ?_
                rintro e w4 ⟨⟨q4, rfl⟩, hb4⟩
                have B4 : Below w1.heap.size w1 w4 := B3.trans (hb4.mono B3.size)
                clear hb4
                go_wp2_with (go_at_call 6; fail)
                refine (types_nil F _ (n - K) (n - K) (fun j => s (K + j)) _ (hFup B4) (by omega) (RR.up B4) HR.out).mono ?_
                rintro e w5 ⟨rfl, hb5⟩
                have B5 : Below w1.heap.size w1 w5 := B4.trans (hb5.mono B4.size)
                clear hb5
                go_wp2_with (go_at_call 7; fail)
                refine (allNames_any _ n n s _ hn2 (RS.up B5)).mono ?_
                rw [HW.out]
                rintro e w6 ⟨rfl, rfl⟩
                go_wp2
                go_ret
                exact ⟨rfl, hb1.trans (B5.mono hb1.size)⟩
              · have HW : Hid (Nm.refuses s 0 n = true) := by rw [hL, hR] at hlaw; exact hlaw
                have HL : Hid (Nm.refuses s 0 K = true) := hL
                have HR : Hid (Nm.refuses (fun j => s (K + j)) 0 (n - K) = true) := hR
                clear hlaw hL hR
                go_wp2_with (go_at_call 6; fail)
                refine (types_err F _ n n s _ (hFup B1) hn2 (RS.up B1) HW.out).mono ?_
                rintro e w2 ⟨⟨q2, rfl⟩, hb2⟩
                have B2 : Below w1.heap.size w1 w2 := B1.trans (hb2.mono B1.size)
                clear hb2
                go_wp2_with (go_at_call 6; fail)
                refine (types_zero _ _ _).mono ?_
                rintro e w3 ⟨⟨q3, rfl⟩, hb3⟩
                have B3 : Below w1.heap.size w1 w3 := B2.trans (hb3.mono B2.size)
                clear hb3
                go_wp2_with (go_at_call 6; fail)
                refine (types_err F _ K n s _ (hFup B3) (by omega) (RL.up B3) HL.out).mono ?_
                rintro e w4 ⟨⟨q4, rfl⟩, hb4⟩
                have B4 : Below w1.heap.size w1 w4 := B3.trans (hb4.mono B3.size)
                clear hb4
                go_wp2_with (go_at_call 6; fail)
                refine (types_err F _ (n - K) (n - K) (fun j => s (K + j)) _ (hFup B4) (by omega) (RR.up B4) HR.out).mono ?_
                rintro e w5 ⟨⟨q5, rfl⟩, hb5⟩
                have B5 : Below w1.heap.size w1 w5 := B4.trans (hb5.mono B4.size)
                clear hb5
                go_wp2_with (go_at_call 7; fail)
                refine (allNames_any _ n n s _ hn2 (RS.up B5)).mono ?_
                rw [HW.out]
                rintro e w6 ⟨rfl, rfl⟩
                go_wp2
                go_ret
                exact ⟨rfl, hb1.trans (B5.mono hb1.size)⟩

theorem lawR_any (F : Interp) (p : Option Addr) (n c : Nat) (cut : Int) (s : Nat → ByteArray) (w : World) (hF : F.answers w.tape) (hn : n ≤ maxLen) (hp : p = none → n = 0 ∧ c = 0) (HS : ReadsS w p n s) :
    Calls Tryf.prog 3 #[.slice p n c, .int .i64 cut] w fun e w' => e = .returned (.bool true) ∧ Below w.heap.size w w' := by
  cases p with
  | none =>
    obtain ⟨rfl, rfl⟩ := hp rfl
    exact lawR_nil cut w
  | some a => exact lawR_some F a n c cut s w hF hn HS
end Go.Proofs.Qxb6630593aFmt
