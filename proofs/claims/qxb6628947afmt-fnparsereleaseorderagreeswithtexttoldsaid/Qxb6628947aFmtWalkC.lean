/-
  THE WALKS of zzDigitCount, zzTextLess, zzReleaseShapeAgrees, zzBytes (seat b6628947aF, the second law).
-/
import Derived.Test.Qxb6628947aFmtWalkA
namespace Go.Proofs.Qxb6628947aFmt
open Go.RowKit Go.Extern.Stop Go.Stop Go.Extern

theorem ret_int {k : IntKind} {a b : Int} (h : a = b) : Ending.returned (.int k a) = .returned (.int k b) := by rw [h]
theorem ret_bool {a b : Bool} (h : a = b) : Ending.returned (.bool a) = .returned (.bool b) := by rw [h]

set_option maxHeartbeats 400000 in
theorem digitCount_any (m : List UInt8) (w : World) (hd : Rel.Digs m) (hz : ∀ c r, m = c :: r → c.toNat = 48 → r = []) (hne : m ≠ []) (hv : Rel.val 0 m < 9223372036854775808) (hlen : m.length ≤ 1048576) :
    Calls Tryf.prog 13 #[.int .i64 (Rel.val 0 m : Int)] w fun e w' => e = .returned (.int .i64 (m.length : Int)) ∧ w' = w := by
  have HD : Hid (Rel.Digs m) := hd
  have HZ : Hid (∀ c r, m = c :: r → c.toNat = 48 → r = []) := hz
  have HN : Hid (m ≠ []) := hne
  clear hd hz hne
  go_enter Tryf.func13, Tryf.ntmps13
  go_wp2
  go_loop [0, 3] (fun n c => ∃ (p q : List UInt8) (v : Nat), Hid (m = p ++ q ∧ Rel.Digs p ∧ (∀ c r, p = c :: r → c.toNat = 48 → r = []) ∧ p ≠ [] ∧ v = Rel.val 0 p) ∧ q.length ≤ 1048576 ∧ v < 9223372036854775808 ∧ n = .int .i64 (v : Int) ∧ c = .int .i64 (1 + (q.length : Int))) (fun n _ => (intOf n).toNat)
  case atStart => exact ⟨m, [], Rel.val 0 m, ⟨by simp, HD, HZ, HN, rfl⟩, by simp, hv, rfl, rfl⟩
  case round =>
    obtain ⟨p, q, v, HP, hq, hvv, rfl, rfl⟩ := hrel
    rcases Rel.pre_split HP.2.1 HP.2.2.1 HP.2.2.2.1 with ⟨h10, hl1⟩ | ⟨p', c, hp', hne', h10, hdiv, hd', hz'⟩
    · have hlt : (v : Int) < 10 := by have := HP.2.2.2.2; omega
      go_wp2
      go_ret
      refine ⟨ret_int ?_, rfl⟩
      have := HP.1
      rw [this, List.length_append, hl1]
      omega
    · have hge : ¬ (v : Int) < 10 := by have := HP.2.2.2.2; omega
      have HQ : Hid (m = p' ++ c :: q ∧ Rel.Digs p' ∧ (∀ c r, p' = c :: r → c.toNat = 48 → r = []) ∧ p' ≠ [] ∧ v / 10 = Rel.val 0 p') := ⟨by rw [HP.1, hp']; simp, hd', hz', hne', by rw [HP.2.2.2.2]; exact hdiv⟩
      have hql : (c :: q).length ≤ 1048576 := by
        have h1 := congrArg List.length HQ.1
        simp at h1
        simp
        omega
      clear h10 hdiv hd' hz' hne' hp'
      go_wp2
      go_round
      case rel => exact ⟨p', c :: q, v / 10, HQ, hql, by omega, by go_num, by simp; omega⟩
      case measure => simp [intOf]; omega

theorem byte_at (s : ByteArray) (k : Nat) (h : k < s.size) : s.data.toList.drop k = s[k] :: s.data.toList.drop (k + 1) := by
  obtain ⟨⟨l⟩⟩ := s
  have h' : k < l.length := by simpa [ByteArray.size] using h
  show l.drop k = l[k] :: l.drop (k + 1)
  exact List.drop_eq_getElem_cons h'

theorem lex_step (a b : ByteArray) (k : Nat) (ha : k < a.size) (hb : k < b.size) : Rel.lexLt (a.data.toList.drop k) (b.data.toList.drop k) = if (a[k].toNat : Int) = (b[k].toNat : Int) then Rel.lexLt (a.data.toList.drop (k + 1)) (b.data.toList.drop (k + 1)) else decide ((a[k].toNat : Int) < (b[k].toNat : Int)) := by
  rw [byte_at a k ha, byte_at b k hb]
  simp only [Rel.lexLt]
  by_cases h : a[k].toNat = b[k].toNat
  · rw [if_pos h, if_pos (by omega)]
  · rw [if_neg h, if_neg (by omega)]
    simp

set_option maxHeartbeats 400000 in
theorem textLess_len (a b : ByteArray) (w : World) (h : ¬ a.size = b.size) :
    Calls Tryf.prog 9 #[.string a, .string b] w fun e w' => e = .returned (.bool (decide (a.size < b.size))) ∧ w' = w := by
  have h1 : ((a.size : Int) == (b.size : Int)) = false := beq_eq_false_iff_ne.2 (by omega)
  go_enter Tryf.func9, Tryf.ntmps9
  go_wp2
  go_ret
  exact ⟨ret_bool (by simp), rfl⟩

set_option maxHeartbeats 400000 in
theorem textLess_same (a b : ByteArray) (w : World) (ha : a.size ≤ 1048576) (h : a.size = b.size) :
    Calls Tryf.prog 9 #[.string a, .string b] w fun e w' => e = .returned (.bool (Rel.lexLt a.data.toList b.data.toList)) ∧ Below w.heap.size w w' := by
  have h1 : ((a.size : Int) == (b.size : Int)) = true := beq_iff_eq.2 (by omega)
  have HS : Hid (a.size = b.size) := h
  clear h
  go_enter Tryf.func9, Tryf.ntmps9
  go_wp2
  go_loopw [5] (fun i w' => ∃ k : Nat, k ≤ a.size ∧ i = .int .i64 (k : Int) ∧ Hid (Rel.lexLt a.data.toList b.data.toList = Rel.lexLt (a.data.toList.drop k) (b.data.toList.drop k)) ∧ Below w.heap.size w w') (fun i _ => a.size - (intOf i).toNat)
  case atStart => exact ⟨0, Nat.zero_le _, rfl, rfl, Below.refl _ _⟩
  case round =>
    obtain ⟨k, hk, rfl, HX, hbel⟩ := hrel
    by_cases hlt : k < a.size
    · have hltb : k < b.size := by have := HS.out; omega
      have HL := lex_step a b k hlt hltb
      by_cases he : (a[k].toNat : Int) = (b[k].toNat : Int)
      · have HE : Hid (Rel.lexLt a.data.toList b.data.toList = Rel.lexLt (a.data.toList.drop (k + 1)) (b.data.toList.drop (k + 1))) := by
          rw [if_pos he] at HL
          exact HX.out.trans HL
        clear HL HX
        go_wp2
        go_quiet (fail)
        go_wp2
        go_roundw
        case rel => exact ⟨k + 1, by omega, by go_num, HE, below_drewN hbel _⟩
        case measure => simp [intOf]; omega
      · have HE : Hid (Rel.lexLt a.data.toList b.data.toList = decide ((a[k].toNat : Int) < (b[k].toNat : Int))) := by
          rw [if_neg he] at HL
          exact HX.out.trans HL
        clear HL HX
        go_wp2
        go_quiet (fail)
        go_wp2
        go_quiet (fail)
        go_wp2
        go_ret
        refine ⟨?_, below_drewN (below_drewN hbel _) _⟩
        rw [HE.out]
        exact ret_bool (by simp)
    · have HE0 : Rel.lexLt a.data.toList b.data.toList = false := by
        rw [HX.out, List.drop_eq_nil_of_le (by rw [← Lib.size_eq]; omega)]
        simp [Rel.lexLt]
      have HE : Hid (Rel.lexLt a.data.toList b.data.toList = false) := HE0
      clear HX HE0
      go_wp2
      go_ret
      exact ⟨by rw [HE.out]; rfl, hbel⟩

/-! ### zzReleaseShapeAgrees -/
set_option maxHeartbeats 400000 in
theorem shape_no (s : ByteArray) (w : World) :
    Calls Tryf.prog 8 #[.string s, .int .i64 0, .bool false] w fun e w' => e = .returned (.bool true) ∧ w' = w := by
  go_enter Tryf.func8, Tryf.ntmps8
  go_wp2
  go_ret
  exact ⟨rfl, rfl⟩

set_option maxHeartbeats 400000 in
theorem shape_walk (s : ByteArray) (n k : Nat) (w : World) (hp : 0 < s.size) (hl : s.size ≤ 1048576) (hk : k ≤ 1048576) (hn : n < 9223372036854775808) (HL : Hid ((s[s.size - 1].toNat : Int) = 48 + (n : Int) % 10)) (h5 : ((s.size : Int) == (k : Int) + 2) = true)
    (HD : Hid (Calls Tryf.prog 13 #[.int .i64 (n : Int)] w fun e w' => e = .returned (.int .i64 (k : Int)) ∧ w' = w)) :
    Calls Tryf.prog 8 #[.string s, .int .i64 (n : Int), .bool true] w fun e w' => e = .returned (.bool true) ∧ w' = w := by
  go_enter Tryf.func8, Tryf.ntmps8
  go_wp2_with (go_at_call 13; refine (HD.out).mono ?_; rintro e w' ⟨rfl, rfl⟩)
  go_ret
  refine ⟨?_, rfl⟩
  refine ret_bool ?_
  have h := HL.out
  simp [h]

theorem shape_yes (s : ByteArray) (n : Nat) (w : World) (hl : s.size ≤ 1048576) (h : Rel.relOf s.data.toList = some n) :
    Calls Tryf.prog 8 #[.string s, .int .i64 (n : Int), .bool true] w fun e w' => e = .returned (.bool true) ∧ w' = w := by
  obtain ⟨m, hm, hg, hn⟩ := Rel.relOf_some.1 h
  have hn63 := Rel.rel_lt h
  obtain ⟨z1, z2, z3⟩ := Rel.good_zero hg
  obtain ⟨q, c, hq, hc⟩ := Rel.good_last hg
  have hsz : s.size = m.length + 2 := by rw [Lib.size_eq, hm]; simp
  have hp : 0 < s.size := by omega
  refine shape_walk s n m.length w hp hl (by omega) hn63 ?_ (beq_iff_eq.2 (by omega)) ?_
  · have hs := byte_at s (s.size - 1) (by omega)
    have h2 : s.data.toList = (49 :: 46 :: q) ++ [c] := by rw [hm, hq]; simp
    have h3 : s.size - 1 = (49 :: 46 :: q : List UInt8).length := by rw [hsz, hq]; simp
    have h4 : s.data.toList.drop (s.size - 1) = [c] := by
      rw [h2, h3, List.drop_left]
    rw [h4] at hs
    injection hs with hs1 hs2
    show (s[s.size - 1].toNat : Int) = 48 + (n : Int) % 10
    rw [← hs1, hc, hn]
    omega
  · show Calls _ _ _ _ _
    rw [hn]
    exact digitCount_any m w z1 z2 z3 (by omega) (by omega)
end Go.Proofs.Qxb6628947aFmt
