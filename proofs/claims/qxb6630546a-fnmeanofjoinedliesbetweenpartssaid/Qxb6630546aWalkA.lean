/-
  THE WALK of (*Result).Mean (seat b6630546a).
-/
import Derived.Test.Qxb6630546aPlain
import Derived.Test.Qxb6630546aRows
import Derived.WalkKit
import Derived.WalkSpells
import Derived.WalkLawsBesides
import Derived.Lib.AtoiErrMem
namespace Go.Proofs.Qxb6630546a
open Go.RowKit

/-- Transaction i of the row that begins at ⟨T, off⟩: unconfirmed, or confirmed with the latency v. -/
def TxAt (w : World) (T off i : Nat) (o : Option Int) : Prop :=
  (match o with
    | none => w.cell? ⟨T, off + i * 4, none⟩ = some (.pointer none)
    | some v => ∃ b, b ≠ T ∧ w.cell? ⟨T, off + i * 4, none⟩ = some (.pointer (some ⟨b, 0, none⟩)) ∧ w.cell? ⟨b, 0, none⟩ = some (.int .i64 v)) ∧
  w.cell? ⟨T, off + i * 4 + 1, none⟩ = some (.pointer none) ∧ w.cell? ⟨T, off + i * 4 + 2, none⟩ = some (.pointer none) ∧ w.cell? ⟨T, off + i * 4 + 3, none⟩ = some (.pointer none)

theorem cell_up {w w' : World} (hb : Below w.heap.size w w') {p : Addr} {v : Value} (h : w.cell? p = some v) : w'.cell? p = some v := by
  rw [hb.cell (Lib.lt_of_cell h)]; exact h

theorem TxAt.up {w w' : World} (hb : Below w.heap.size w w') {T off i : Nat} {o : Option Int} (h : TxAt w T off i o) : TxAt w' T off i o := by
  obtain ⟨h0, h1, h2, h3⟩ := h
  refine ⟨?_, cell_up hb h1, cell_up hb h2, cell_up hb h3⟩
  cases o with
  | none => exact cell_up hb h0
  | some v =>
    obtain ⟨b, g0, g1, g2⟩ := h0
    exact ⟨b, g0, cell_up hb g1, cell_up hb g2⟩

theorem ret_two {k k' : IntKind} {a b a' b' : Int} (h : a = b) (h' : a' = b') : Ending.returned (.tuple #[.int k a, .int k' a']) = .returned (.tuple #[.int k b, .int k' b']) := by rw [h, h']

set_option maxHeartbeats 1000000 in
theorem mean_any (f : Nat → Option Int) (hf : Hid (Mn.Bounded f)) (R T off n c a : Nat) (w : World) (hn : n ≤ 65536) (hnc : n ≤ c) (hR : w.cell? ⟨R, 1, none⟩ = some (.slice (some ⟨T, off, none⟩) n c)) (HT : Hid (∀ i, i < n → TxAt w T off i (f (a + i)))) :
    Calls Try.prog 8 #[.pointer (some ⟨R, 0, none⟩)] w fun e w' => e = .returned (.tuple #[.int .i64 (Mn.quoOf (Mn.sumFrom f a n) (Mn.cntFrom f a n)), .int .i64 (Mn.cntFrom f a n : Int)]) ∧ Below w.heap.size w w' := by
  go_enter Try.func8, Try.ntmps8
  go_wp2
  go_loopw [4, 5, 13] (fun s q i wr => ∃ (k m : Nat) (x : Int), k ≤ n ∧ m ≤ k ∧ -(70368744177664 * (m : Int)) ≤ x ∧ x ≤ 70368744177664 * (m : Int) ∧ i = .int .i64 (k : Int) ∧ s = .int .i64 x ∧ q = .int .i64 (m : Int) ∧ Hid (x = Mn.sumFrom f a k ∧ m = Mn.cntFrom f a k) ∧ Below w.heap.size w wr) (fun _ _ i _ => n - (intOf i).toNat)
  case atStart => exact ⟨0, 0, 0, Nat.zero_le _, Nat.le_refl _, by omega, by omega, rfl, rfl, rfl, ⟨rfl, rfl⟩, Below.refl _ _⟩
  case round =>
    obtain ⟨k, m, x, hk, hm, hx1, hx2, rfl, rfl, rfl, HX, hb⟩ := hrel
    by_cases hlt : k < n
    · cases hfk : f (a + k) with
      | none =>
        have ht := (HT.out k hlt).up hb
        rw [hfk] at ht
        obtain ⟨h0, h1, h2, h3⟩ := ht
        simp only at h0
        have HY : Hid (x = Mn.sumFrom f a (k + 1) ∧ m = Mn.cntFrom f a (k + 1)) := ⟨by rw [Mn.sum_none hfk]; exact HX.out.1, by rw [Mn.cnt_none hfk]; exact HX.out.2⟩
        clear hfk HX
        go_wp2
        go_roundw
        case rel => exact ⟨k + 1, m, x, by omega, by omega, hx1, hx2, by go_num, rfl, rfl, HY, hb.alloc hb.size _⟩
        case measure => simp [intOf]; omega
      | some v =>
        have ht := (HT.out k hlt).up hb
        rw [hfk] at ht
        obtain ⟨⟨b, _, h0, hv⟩, h1, h2, h3⟩ := ht
        have hvb := hf.out _ _ hfk
        have HY : Hid (x + v = Mn.sumFrom f a (k + 1) ∧ m + 1 = Mn.cntFrom f a (k + 1)) := ⟨by rw [Mn.sum_some hfk, ← HX.out.1], by rw [Mn.cnt_some hfk, ← HX.out.2]⟩
        have hbl := Lib.lt_of_cell hv
        simp only at hbl
        clear hfk HX
        go_wp2
        go_roundw
        case rel => exact ⟨k + 1, m + 1, x + v, by omega, by omega, by omega, by omega, by go_num, rfl, by go_num, HY, hb.alloc hb.size _⟩
        case measure => simp [intOf]; omega
    · obtain rfl : k = n := by omega
      by_cases hm0 : m = 0
      · subst hm0
        go_wp2
        go_ret2
        refine ⟨ret_two ?_ ?_, hb⟩
        · rw [← HX.out.2]; rfl
        · rw [← HX.out.2]; rfl
      · have h0 : ((m : Int) == 0) = false := beq_eq_false_iff_ne.2 (by omega)
        have hd := Mn.tdiv_bound x m (by omega) (70368744177664 * (m : Int)) hx1 hx2
        go_wp2
        go_ret2
        refine ⟨ret_two ?_ ?_, hb⟩
        · rw [← HX.out.2, ← HX.out.1, Mn.quo_pos x hm0]
        · rw [← HX.out.2]

set_option maxHeartbeats 400000 in
theorem mean_empty (p : Option Addr) (R c : Nat) (w : World) (hR : w.cell? ⟨R, 1, none⟩ = some (.slice p 0 c)) :
    Calls Try.prog 8 #[.pointer (some ⟨R, 0, none⟩)] w fun e w' => e = .returned (.tuple #[.int .i64 0, .int .i64 0]) ∧ w' = w := by
  go_enter Try.func8, Try.ntmps8
  go_wp2
  go_loopw [4, 5, 13] (fun s q i wr => s = .int .i64 0 ∧ q = .int .i64 0 ∧ i = .int .i64 0 ∧ wr = w) (fun _ _ _ _ => 0)
  case atStart => exact ⟨rfl, rfl, rfl, rfl⟩
  case round =>
    obtain ⟨rfl, rfl, rfl, rfl⟩ := hrel
    go_wp2
    go_ret2
    exact ⟨rfl, rfl⟩

/-- A row of int64 that an argument's slice reads. -/
def ReadsI (w : World) (p : Option Addr) (n : Nat) (z : Nat → Int) : Prop := n = 0 ∨ ∃ b o, p = some ⟨b, o, none⟩ ∧ ∀ j, j < n → w.cell? ⟨b, o + j, none⟩ = some (.int .i64 (z j))
/-- A row of bools that an argument's slice reads. -/
def ReadsB (w : World) (p : Option Addr) (n : Nat) (z : Nat → Bool) : Prop := n = 0 ∨ ∃ b o, p = some ⟨b, o, none⟩ ∧ ∀ j, j < n → w.cell? ⟨b, o + j, none⟩ = some (.bool (z j))
theorem ReadsI.up {w w' : World} (hb : Below w.heap.size w w') {p : Option Addr} {n : Nat} {z : Nat → Int} (h : ReadsI w p n z) : ReadsI w' p n z := by
  rcases h with h | ⟨b, o, hp, hc⟩
  · exact Or.inl h
  · exact Or.inr ⟨b, o, hp, fun j hj => cell_up hb (hc j hj)⟩
theorem ReadsB.up {w w' : World} (hb : Below w.heap.size w w') {p : Option Addr} {n : Nat} {z : Nat → Bool} (h : ReadsB w p n z) : ReadsB w' p n z := by
  rcases h with h | ⟨b, o, hp, hc⟩
  · exact Or.inl h
  · exact Or.inr ⟨b, o, hp, fun j hj => cell_up hb (hc j hj)⟩

/-! ### zzLatFits -/
set_option maxHeartbeats 400000 in
theorem fits_any (p : Option Addr) (n c : Nat) (z : Nat → Int) (w : World) (hn : n ≤ 65536) (HR : Hid (ReadsI w p n z)) :
    Calls Try.prog 6 #[.slice p n c] w fun e w' => (e = .returned (.bool false) ∨ e = .returned (.bool true) ∧ Hid (∀ i, i < n → -70368744177664 ≤ z i ∧ z i ≤ 70368744177664)) ∧ w' = w := by
  go_enter Try.func6, Try.ntmps6
  go_wp2
  go_loop [3] (fun i => ∃ k : Nat, k ≤ n ∧ i = .int .i64 (k : Int) ∧ Hid (∀ j, j < k → -70368744177664 ≤ z j ∧ z j ≤ 70368744177664)) (fun i => n - (intOf i).toNat)
  case atStart => exact ⟨0, Nat.zero_le _, rfl, fun j hj => by omega⟩
  case round =>
    obtain ⟨k, hk, rfl, HB⟩ := hrel
    by_cases hlt : k < n
    · rcases HR.out with h0 | ⟨b, o, rfl, hc⟩
      · omega
      · have hck := hc k hlt
        clear hc HR
        obtain ⟨v, hv⟩ : ∃ v, v = z k := ⟨_, rfl⟩
        rw [← hv] at hck
        have HV : Hid (v = z k) := hv
        clear hv
        by_cases h1 : v < -70368744177664
        · go_wp2
          go_ret
          exact ⟨Or.inl rfl, rfl⟩
        · by_cases h2 : 70368744177664 < v
          · go_wp2
            go_ret
            exact ⟨Or.inl rfl, rfl⟩
          · go_wp2
            go_round
            case rel =>
              refine ⟨k + 1, by omega, by go_num, fun j hj => ?_⟩
              by_cases hjk : j < k
              · exact HB.out j hjk
              · obtain rfl : j = k := by omega
                rw [← HV.out]
                omega
            case measure => simp [intOf]; omega
    · go_wp2
      go_ret
      exact ⟨Or.inr ⟨rfl, fun i hi => HB.out i (by omega)⟩, rfl⟩

set_option maxHeartbeats 400000 in
theorem bytes1_some (fl : Int) (p q lag : Option Addr) (n c m d : Nat) (w : World) :
    Calls Try.prog 5 #[.int .i64 fl, .slice p n c, .slice q m d, .pointer lag] w fun e w' => (e = .returned (.bool false) ∨ e = .returned (.bool true)) ∧ w' = w := by
  go_enter Try.func5, Try.ntmps5
  go_wp2
  all_goals
    go_ret
    first | exact ⟨Or.inl rfl, rfl⟩ | exact ⟨Or.inr rfl, rfl⟩
set_option maxHeartbeats 400000 in
theorem bytes2_some (p q : Option Addr) (n c m d : Nat) (cut : Int) (w : World) :
    Calls Try.prog 9 #[.slice p n c, .slice q m d, .int .i64 cut] w fun e w' => (e = .returned (.bool false) ∨ e = .returned (.bool true)) ∧ w' = w := by
  go_enter Try.func9, Try.ntmps9
  go_wp2
  all_goals
    go_ret
    first | exact ⟨Or.inl rfl, rfl⟩ | exact ⟨Or.inr rfl, rfl⟩
end Go.Proofs.Qxb6630546a
