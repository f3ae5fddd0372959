/-
  THE WALKS of CheckBytes, typeNameFits, CheckTypes, allTypeNamesFit (seat b6630593aF).
-/
import Derived.Test.Qxb6630593aFmtPlain
import Derived.Test.Qxb6630593aFmtFmt
import Derived.WalkSpells
import Derived.WalkLawsBesides
import Derived.Lib.AtoiErrMem
namespace Go.Proofs.Qxb6630593aFmt
open Go.RowKit Go.Extern.Stop Go.Stop Go.Extern

theorem ret_bool {a b : Bool} (h : a = b) : Ending.returned (.bool a) = .returned (.bool b) := by rw [h]
theorem cell_up {w w' : World} (hb : Below w.heap.size w w') {p : Addr} {v : Value} (h : w.cell? p = some v) : w'.cell? p = some v := by
  rw [hb.cell (Lib.lt_of_cell h)]; exact h

/-- A row of strings that a slice reads. -/
def ReadsS (w : World) (p : Option Addr) (n : Nat) (s : Nat → ByteArray) : Prop := n = 0 ∨ ∃ b o, p = some ⟨b, o, none⟩ ∧ ∀ j, j < n → w.cell? ⟨b, o + j, none⟩ = some (.string (s j))
theorem ReadsS.up {w w' : World} (hb : Below w.heap.size w w') {p : Option Addr} {n : Nat} {s : Nat → ByteArray} (h : ReadsS w p n s) : ReadsS w' p n s := by
  rcases h with h | ⟨b, o, hp, hc⟩
  · exact Or.inl h
  · exact Or.inr ⟨b, o, hp, fun j hj => cell_up hb (hc j hj)⟩

/-- What an error that came or did not come says. -/
def Said (r : Bool) (e : Ending) : Prop := if r then ∃ a, e = .returned (.iface 31 (.pointer (some a))) else e = .returned .nilIface

theorem fits_yes {s : ByteArray} (h : Nm.fits s = true) : 1 ≤ s.size ∧ s.size ≤ 255 := by simpa [Nm.fits] using h
theorem fits_no {s : ByteArray} (h : Nm.fits s = false) : s.size < 1 ∨ 255 < s.size := by
  simp [Nm.fits] at h
  omega

set_option maxHeartbeats 400000 in
theorem checkBytes_yes (fl s : ByteArray) (w : World) (h : Nm.fits s = true) :
    Calls Tryf.prog 9 #[.string fl, .string s, .int .i64 255] w fun e w' => e = .returned .nilIface ∧ w' = w := by
  obtain ⟨h1, h2⟩ := fits_yes h
  clear h
  go_enter Tryf.func9, Tryf.ntmps9
  go_wp2
  go_ret
  exact ⟨rfl, rfl⟩

set_option maxHeartbeats 400000 in
theorem checkBytes_no (F : Interp) (fl s : ByteArray) (w : World) (hF : F.answers w.tape) (h : Nm.fits s = false) :
    Calls Tryf.prog 9 #[.string fl, .string s, .int .i64 255] w fun e w' => (∃ a, e = .returned (.iface 31 (.pointer (some a)))) ∧ Below w.heap.size w w' := by
  have hF' := hF
  unfold Interp.answers at hF'
  rcases fits_no h with h1 | h1
  all_goals
    clear h
    go_enter Tryf.func9, Tryf.ntmps9
    go_wp2
    go_ret
    exact ⟨⟨_, rfl⟩, (((Below.refl _ _).alloc (Nat.le_refl _) _).alloc (by simp) _).drew⟩

theorem checkBytes_any (F : Interp) (fl s : ByteArray) (w : World) (hF : F.answers w.tape) :
    Calls Tryf.prog 9 #[.string fl, .string s, .int .i64 255] w fun e w' => Said (!Nm.fits s) e ∧ Below w.heap.size w w' := by
  cases h : Nm.fits s
  · exact checkBytes_no F fl s w hF h
  · refine (checkBytes_yes fl s w h).mono ?_
    rintro e w' ⟨rfl, rfl⟩
    exact ⟨rfl, Below.refl _ _⟩

set_option maxHeartbeats 400000 in
theorem nameFits_any (s : ByteArray) (w : World) :
    Calls Tryf.prog 10 #[.string s] w fun e w' => e = .returned (.bool (Nm.fits s)) ∧ w' = w := by
  by_cases h1 : 1 ≤ s.size
  · by_cases h2 : s.size ≤ 255
    · have hf : Nm.fits s = true := by simp [Nm.fits, h1, h2]
      rw [hf]
      clear hf
      go_enter Tryf.func10, Tryf.ntmps10
      go_wp2
      go_ret
      exact ⟨ret_bool (by simp; omega), rfl⟩
    · have hf : Nm.fits s = false := by simp [Nm.fits, h2]
      rw [hf]
      clear hf
      go_enter Tryf.func10, Tryf.ntmps10
      go_wp2
      go_ret
      exact ⟨ret_bool (by simp; omega), rfl⟩
  · have hf : Nm.fits s = false := by simp [Nm.fits]; omega
    rw [hf]
    clear hf
    go_enter Tryf.func10, Tryf.ntmps10
    go_wp2
    go_ret
    exact ⟨rfl, rfl⟩

set_option maxHeartbeats 400000 in
theorem types_zero (p : Option Addr) (c : Nat) (w : World) :
    Calls Tryf.prog 6 #[.slice p 0 c] w fun e w' => (∃ a, e = .returned (.iface 31 (.pointer (some a)))) ∧ Below w.heap.size w w' := by
  go_enter Tryf.func6, Tryf.ntmps6
  go_wp2
  go_ret
  exact ⟨⟨_, rfl⟩, (Below.refl _ _).alloc (Nat.le_refl _) _⟩

set_option maxHeartbeats 1000000 in
theorem types_pos (F : Interp) (b o n c : Nat) (s : Nat → ByteArray) (w : World) (hF : F.answers w.tape) (h0 : n ≠ 0) (hn : n ≤ 1048576) (HS : Hid (∀ j, j < n → w.cell? ⟨b, o + j, none⟩ = some (.string (s j)))) :
    Calls Tryf.prog 6 #[.slice (some ⟨b, o, none⟩) n c] w fun e w' => Said (!Nm.allFit s 0 n) e ∧ Below w.heap.size w w' := by
  have h1 : ((n : Int) == 0) = false := beq_eq_false_iff_ne.2 (by omega)
  clear h0
  go_enter Tryf.func6, Tryf.ntmps6
  go_wp2
  go_loop [14] (fun i => ∃ k : Nat, k ≤ n ∧ i = .int .i64 (k : Int) ∧ Hid (Nm.allFit s 0 k = true)) (fun i => n - (intOf i).toNat)
  case atStart => exact ⟨0, Nat.zero_le _, rfl, rfl⟩
  case round =>
    obtain ⟨k, hk, rfl, HA⟩ := hrel
    by_cases hlt : k < n
    · have hc := HS.out k hlt
      cases hf : Nm.fits (s k)
      · have HE : Hid (Nm.allFit s 0 n = false) := Nm.all_false hlt (by rw [Nat.zero_add]; exact hf)
        have HF : Hid (Nm.fits (s k) = false) := hf
        clear hf HA
        generalize s k = x at *
        go_wp2_with (go_at_call 9; refine (checkBytes_no F _ _ _ hF HF.out).mono ?_; rintro e w' ⟨⟨a, rfl⟩, hb⟩)
        go_ret
        refine ⟨?_, hb⟩
        rw [HE.out]
        exact ⟨a, rfl⟩
      · have HE0 : Nm.allFit s 0 (k + 1) = true := by
          rw [Nm.all_succ, HA.out, Nat.zero_add, hf]; rfl
        have HE : Hid (Nm.allFit s 0 (k + 1) = true) := HE0
        have HF : Hid (Nm.fits (s k) = true) := hf
        clear hf HA HE0
        generalize s k = x at *
        go_wp2_with (go_at_call 9; refine (checkBytes_yes _ _ _ HF.out).mono ?_; rintro e w' ⟨rfl, rfl⟩)
        go_round
        case rel => exact ⟨k + 1, by omega, by go_num, HE⟩
        case measure => simp [intOf]; omega
    · obtain rfl : k = n := by omega
      go_wp2
      go_ret
      refine ⟨?_, Below.refl _ _⟩
      rw [HA.out]
      rfl

theorem types_any (F : Interp) (p : Option Addr) (n c : Nat) (s : Nat → ByteArray) (w : World) (hF : F.answers w.tape) (hn : n ≤ 1048576) (HS : ReadsS w p n s) :
    Calls Tryf.prog 6 #[.slice p n c] w fun e w' => Said (Nm.refuses s 0 n) e ∧ Below w.heap.size w w' := by
  by_cases h0 : n = 0
  · subst h0
    exact types_zero p c w
  · rcases HS with h | ⟨b, o, rfl, hc⟩
    · exact absurd h h0
    · rw [Nm.refuses_pos h0]
      exact types_pos F b o n c s w hF h0 hn hc

set_option maxHeartbeats 1000000 in
theorem allNames_pos (b o n c : Nat) (s : Nat → ByteArray) (w : World) (h0 : n ≠ 0) (hn : n ≤ 1048576) (HS : Hid (∀ j, j < n → w.cell? ⟨b, o + j, none⟩ = some (.string (s j)))) :
    Calls Tryf.prog 7 #[.slice (some ⟨b, o, none⟩) n c] w fun e w' => e = .returned (.bool (Nm.allFit s 0 n)) ∧ w' = w := by
  have h1 : ((n : Int) == 0) = false := beq_eq_false_iff_ne.2 (by omega)
  clear h0
  go_enter Tryf.func7, Tryf.ntmps7
  go_wp2
  go_loop [3] (fun i => ∃ k : Nat, k ≤ n ∧ i = .int .i64 (k : Int) ∧ Hid (Nm.allFit s 0 k = true)) (fun i => n - (intOf i).toNat)
  case atStart => exact ⟨0, Nat.zero_le _, rfl, rfl⟩
  case round =>
    obtain ⟨k, hk, rfl, HA⟩ := hrel
    by_cases hlt : k < n
    · have hc := HS.out k hlt
      cases hf : Nm.fits (s k)
      · have HE : Hid (Nm.allFit s 0 n = false) := Nm.all_false hlt (by rw [Nat.zero_add]; exact hf)
        have HF : Hid (Nm.fits (s k) = false) := hf
        clear hf HA
        generalize s k = x at *
        go_wp2_with (go_at_call 10; refine (nameFits_any _ _).mono ?_; rintro e w' ⟨rfl, rfl⟩; rw [HF.out])
        go_ret
        exact ⟨by rw [HE.out]; rfl, rfl⟩
      · have HE0 : Nm.allFit s 0 (k + 1) = true := by
          rw [Nm.all_succ, HA.out, Nat.zero_add, hf]; rfl
        have HE : Hid (Nm.allFit s 0 (k + 1) = true) := HE0
        have HF : Hid (Nm.fits (s k) = true) := hf
        clear hf HA HE0
        generalize s k = x at *
        go_wp2_with (go_at_call 10; refine (nameFits_any _ _).mono ?_; rintro e w' ⟨rfl, rfl⟩; rw [HF.out])
        go_round
        case rel => exact ⟨k + 1, by omega, by go_num, HE⟩
        case measure => simp [intOf]; omega
    · obtain rfl : k = n := by omega
      go_wp2
      go_ret
      exact ⟨by rw [HA.out]; rfl, rfl⟩

set_option maxHeartbeats 400000 in
theorem allNames_zero (p : Option Addr) (c : Nat) (w : World) :
    Calls Tryf.prog 7 #[.slice p 0 c] w fun e w' => e = .returned (.bool false) ∧ w' = w := by
  go_enter Tryf.func7, Tryf.ntmps7
  go_wp2
  go_ret
  exact ⟨rfl, rfl⟩

theorem allNames_any (p : Option Addr) (n c : Nat) (s : Nat → ByteArray) (w : World) (hn : n ≤ 1048576) (HS : ReadsS w p n s) :
    Calls Tryf.prog 7 #[.slice p n c] w fun e w' => e = .returned (.bool (!Nm.refuses s 0 n)) ∧ w' = w := by
  by_cases h0 : n = 0
  · subst h0
    exact allNames_zero p c w
  · rcases HS with h | ⟨b, o, rfl, hc⟩
    · exact absurd h h0
    · rw [Nm.refuses_pos h0, Bool.not_not]
      exact allNames_pos b o n c s w h0 hn hc
end Go.Proofs.Qxb6630593aFmt
