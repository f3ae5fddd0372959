/-
  THE WALK of FnParseReleaseOrderAgreesWithText, way by way, and the whole law as a contract (seat b6628947aF).
-/
import Derived.Test.Qxb6628947aFmtWalkB
import Derived.Test.Qxb6628947aFmtWalkC
namespace Go.Proofs.Qxb6628947aFmt
open Go.RowKit Go.Extern.Stop Go.Stop Go.Extern

def ordB (a b : ByteArray) : Bool := if a.size = b.size then Rel.lexLt a.data.toList b.data.toList else decide (a.size < b.size)

theorem textLess_any (a b : ByteArray) (w : World) (ha : a.size ≤ 1048576) :
    Calls Tryf.prog 9 #[.string a, .string b] w fun e w' => e = .returned (.bool (ordB a b)) ∧ Below w.heap.size w w' := by
  unfold ordB
  by_cases h : a.size = b.size
  · rw [if_pos h]; exact textLess_same a b w ha h
  · rw [if_neg h]
    refine (textLess_len a b w h).mono ?_
    rintro e w' ⟨rfl, rfl⟩
    exact ⟨rfl, Below.refl _ _⟩

set_option maxHeartbeats 400000 in
theorem bytesB_yes (a b : ByteArray) (w : World) (ha : a.size ≤ 65536) (hb : b.size ≤ 65536) :
    Calls Tryf.prog 7 #[.string a, .string b] w fun e w' => e = .returned (.bool true) ∧ w' = w := by
  go_enter Tryf.func7, Tryf.ntmps7
  go_wp2
  go_ret
  exact ⟨rfl, rfl⟩
set_option maxHeartbeats 400000 in
theorem bytesB_some (a b : ByteArray) (w : World) :
    Calls Tryf.prog 7 #[.string a, .string b] w fun e w' => (∃ x, e = .returned (.bool x)) ∧ w' = w := by
  go_enter Tryf.func7, Tryf.ntmps7
  go_wp2
  all_goals
    go_ret
    exact ⟨⟨_, rfl⟩, rfl⟩
set_option maxHeartbeats 400000 in
theorem lawB_big (a b : ByteArray) (w : World) (h : 65536 < a.size ∨ 65536 < b.size) :
    Calls Tryf.prog 4 #[.string a, .string b] w fun e w' => e = .returned (.bool true) ∧ Below w.heap.size w w' := by
  have HB := fun x => bytesB_some a b x
  have HB2 : Hid (∀ x, Calls Tryf.prog 7 #[.string a, .string b] x fun e w' => (∃ x, e = .returned (.bool x)) ∧ w' = x) := HB
  clear HB
  have h2 : 65536 < (a.size : Int) ∨ (¬ 65536 < (a.size : Int) ∧ 65536 < (b.size : Int)) := by omega
  rcases h2 with h2 | ⟨h2, h3⟩
  all_goals
    go_enter Tryf.func4, Tryf.ntmps4
    go_wp2_with (go_at_call 7; refine (HB2.out _).mono ?_; rintro e w' ⟨⟨x, rfl⟩, rfl⟩; cases x)
    all_goals
      go_wp2
      go_ret
      exact ⟨rfl, Below.refl _ _⟩

set_option maxHeartbeats 1000000 in
theorem lawB_nn (F : Interp) (a b : ByteArray) (w : World) (hF : F.answers w.tape) (ha : a.size ≤ 65536) (hb : b.size ≤ 65536) (HA : Hid (Rel.relOf a.data.toList = none)) (HB : Hid (Rel.relOf b.data.toList = none)) (t0 t1 : TypeId) (p0 p1 : Value) (hv0 : w.var? Tryf.prog "strconv.ErrSyntax" = some #[.iface t0 p0]) (hv1 : w.var? Tryf.prog "strconv.ErrRange" = some #[.iface t1 p1]) :
    Calls Tryf.prog 4 #[.string a, .string b] w fun e w' => e = .returned (.bool true) ∧ Below w.heap.size w w' := by
  go_enter Tryf.func4, Tryf.ntmps4
  go_wp2_with (first | (go_at_call 7; refine (bytesB_yes _ _ _ ha hb).mono ?_; rintro e w' ⟨rfl, rfl⟩) | (go_at_call 6; fail))
  refine (rel_no F a _ hF (by omega) HA t0 t1 p0 p1 hv0 hv1).mono ?_
  rintro e w1 ⟨⟨q1, rfl⟩, hb1⟩
  go_wp2_with (go_at_call 6; fail)
  refine (rel_no F b _ (by rw [← hb1.tape] at hF; exact hF) (by omega) HB t0 t1 p0 p1 (var_later g0 hb1 hv0) (var_later g1 hb1 hv1)).mono ?_
  rintro e w2 ⟨⟨q2, rfl⟩, hb2⟩
  go_wp2_with (go_at_call 8; fail)
  refine (shape_no a _).mono ?_
  rintro e w3 ⟨rfl, rfl⟩
  go_wp2_with (go_at_call 8; fail)
  refine (shape_no b _).mono ?_
  rintro e w3 ⟨rfl, rfl⟩
  go_wp2
  go_ret
  exact ⟨rfl, hb1.trans (hb2.mono hb1.size)⟩

set_option maxHeartbeats 1000000 in
theorem lawB_yn (F : Interp) (a b : ByteArray) (w : World) (hF : F.answers w.tape) (ha : a.size ≤ 65536) (hb : b.size ≤ 65536) (x : Nat) (HA : Hid (Rel.relOf a.data.toList = some x)) (HB : Hid (Rel.relOf b.data.toList = none)) (t0 t1 : TypeId) (p0 p1 : Value) (hv0 : w.var? Tryf.prog "strconv.ErrSyntax" = some #[.iface t0 p0]) (hv1 : w.var? Tryf.prog "strconv.ErrRange" = some #[.iface t1 p1]) :
    Calls Tryf.prog 4 #[.string a, .string b] w fun e w' => e = .returned (.bool true) ∧ Below w.heap.size w w' := by
  go_enter Tryf.func4, Tryf.ntmps4
  go_wp2_with (first | (go_at_call 7; refine (bytesB_yes _ _ _ ha hb).mono ?_; rintro e w' ⟨rfl, rfl⟩) | (go_at_call 6; fail))
  refine (rel_yes a _ (by omega) x HA t0 t1 p0 p1 hv0 hv1).mono ?_
  rintro e w1 ⟨rfl, hb1⟩
  go_wp2_with (go_at_call 6; fail)
  refine (rel_no F b _ (by rw [← hb1.tape] at hF; exact hF) (by omega) HB t0 t1 p0 p1 (var_later g0 hb1 hv0) (var_later g1 hb1 hv1)).mono ?_
  rintro e w2 ⟨⟨q2, rfl⟩, hb2⟩
  go_wp2_with (go_at_call 8; fail)
  refine (shape_yes a x _ (by omega) HA).mono ?_
  rintro e w3 ⟨rfl, rfl⟩
  go_wp2_with (go_at_call 8; fail)
  refine (shape_no b _).mono ?_
  rintro e w3 ⟨rfl, rfl⟩
  go_wp2
  go_ret
  exact ⟨rfl, hb1.trans (hb2.mono hb1.size)⟩

set_option maxHeartbeats 1000000 in
theorem lawB_ny (F : Interp) (a b : ByteArray) (w : World) (hF : F.answers w.tape) (ha : a.size ≤ 65536) (hb : b.size ≤ 65536) (y : Nat) (HA : Hid (Rel.relOf a.data.toList = none)) (HB : Hid (Rel.relOf b.data.toList = some y)) (t0 t1 : TypeId) (p0 p1 : Value) (hv0 : w.var? Tryf.prog "strconv.ErrSyntax" = some #[.iface t0 p0]) (hv1 : w.var? Tryf.prog "strconv.ErrRange" = some #[.iface t1 p1]) :
    Calls Tryf.prog 4 #[.string a, .string b] w fun e w' => e = .returned (.bool true) ∧ Below w.heap.size w w' := by
  go_enter Tryf.func4, Tryf.ntmps4
  go_wp2_with (first | (go_at_call 7; refine (bytesB_yes _ _ _ ha hb).mono ?_; rintro e w' ⟨rfl, rfl⟩) | (go_at_call 6; fail))
  refine (rel_no F a _ hF (by omega) HA t0 t1 p0 p1 hv0 hv1).mono ?_
  rintro e w1 ⟨⟨q1, rfl⟩, hb1⟩
  go_wp2_with (go_at_call 6; fail)
  refine (rel_yes b _ (by omega) y HB t0 t1 p0 p1 (var_later g0 hb1 hv0) (var_later g1 hb1 hv1)).mono ?_
  rintro e w2 ⟨rfl, hb2⟩
  go_wp2_with (go_at_call 8; fail)
  refine (shape_no a _).mono ?_
  rintro e w3 ⟨rfl, rfl⟩
  go_wp2_with (go_at_call 8; fail)
  refine (shape_yes b y _ (by omega) HB).mono ?_
  rintro e w3 ⟨rfl, rfl⟩
  go_wp2
  go_ret
  exact ⟨rfl, hb1.trans (hb2.mono hb1.size)⟩

set_option maxHeartbeats 1000000 in
theorem lawB_yy (F : Interp) (a b : ByteArray) (w : World) (hF : F.answers w.tape) (ha : a.size ≤ 65536) (hb : b.size ≤ 65536) (x y : Nat) (HA : Hid (Rel.relOf a.data.toList = some x)) (HB : Hid (Rel.relOf b.data.toList = some y)) (h1 : (decide ((x : Int) < (y : Int)) == ordB a b) = true) (h2 : (((x : Int) == (y : Int)) == (a.toList == b.toList)) = true) (t0 t1 : TypeId) (p0 p1 : Value) (hv0 : w.var? Tryf.prog "strconv.ErrSyntax" = some #[.iface t0 p0]) (hv1 : w.var? Tryf.prog "strconv.ErrRange" = some #[.iface t1 p1]) :
    Calls Tryf.prog 4 #[.string a, .string b] w fun e w' => e = .returned (.bool true) ∧ Below w.heap.size w w' := by
  go_enter Tryf.func4, Tryf.ntmps4
  go_wp2_with (first | (go_at_call 7; refine (bytesB_yes _ _ _ ha hb).mono ?_; rintro e w' ⟨rfl, rfl⟩) | (go_at_call 6; fail))
  refine (rel_yes a _ (by omega) x HA t0 t1 p0 p1 hv0 hv1).mono ?_
  rintro e w1 ⟨rfl, hb1⟩
  go_wp2_with (go_at_call 6; fail)
  refine (rel_yes b _ (by omega) y HB t0 t1 p0 p1 (var_later g0 hb1 hv0) (var_later g1 hb1 hv1)).mono ?_
  rintro e w2 ⟨rfl, hb2⟩
  go_wp2_with (go_at_call 8; fail)
  refine (shape_yes a x _ (by omega) HA).mono ?_
  rintro e w3 ⟨rfl, rfl⟩
  go_wp2_with (go_at_call 8; fail)
  refine (shape_yes b y _ (by omega) HB).mono ?_
  rintro e w3 ⟨rfl, rfl⟩
  go_wp2_with (go_at_call 9; fail)
  refine (textLess_any a b _ (by omega)).mono ?_
  rintro e w4 ⟨rfl, hb4⟩
  go_wp2
  · go_ret
    exact ⟨rfl, (hb1.trans (hb2.mono hb1.size)).trans (hb4.mono (Nat.le_trans hb1.size hb2.size))⟩
  · rename_i hcon
    exact absurd (by simpa using h1) hcon

theorem lawB_any (F : Interp) (a b : ByteArray) (w : World) (hF : F.answers w.tape) (t0 t1 : TypeId) (p0 p1 : Value) (hv0 : w.var? Tryf.prog "strconv.ErrSyntax" = some #[.iface t0 p0]) (hv1 : w.var? Tryf.prog "strconv.ErrRange" = some #[.iface t1 p1]) :
    Calls Tryf.prog 4 #[.string a, .string b] w fun e w' => e = .returned (.bool true) ∧ Below w.heap.size w w' := by
  by_cases hs : 65536 < a.size ∨ 65536 < b.size
  · exact lawB_big a b w hs
  · have ha : a.size ≤ 65536 := by omega
    have hb : b.size ≤ 65536 := by omega
    cases h1 : Rel.relOf a.data.toList with
    | none =>
      cases h2 : Rel.relOf b.data.toList with
      | none => exact lawB_nn F a b w hF ha hb h1 h2 t0 t1 p0 p1 hv0 hv1
      | some y => exact lawB_ny F a b w hF ha hb y h1 h2 t0 t1 p0 p1 hv0 hv1
    | some x =>
      cases h2 : Rel.relOf b.data.toList with
      | none => exact lawB_yn F a b w hF ha hb x h1 h2 t0 t1 p0 p1 hv0 hv1
      | some y =>
        obtain ⟨o1, o2⟩ := Rel.rel_order h1 h2
        refine lawB_yy F a b w hF ha hb x y h1 h2 ?_ ?_ t0 t1 p0 p1 hv0 hv1
        · have e1 : decide ((x : Int) < (y : Int)) = decide (x < y) := by simp
          rw [e1, o1, beq_iff_eq]
          unfold ordB
          rw [Lib.size_eq a, Lib.size_eq b]
        · have e1 : ((x : Int) == (y : Int)) = decide (x = y) := by
            rw [Bool.eq_iff_iff, beq_iff_eq, decide_eq_true_eq]
            omega
          have e2 : (a.toList == b.toList) = decide (a.data.toList = b.data.toList) := by
            rw [Lib.toList_data, Lib.toList_data, Bool.eq_iff_iff, beq_iff_eq, decide_eq_true_eq]
          rw [e1, e2, o2, beq_iff_eq]
end Go.Proofs.Qxb6628947aFmt
