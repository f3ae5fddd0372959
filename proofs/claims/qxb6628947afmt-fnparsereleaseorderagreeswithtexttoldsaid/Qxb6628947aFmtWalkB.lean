/-
  THE WALK of FnParseReleaseByLastDigit, way by way, and the whole law as a contract (seat b6628947aF).
-/
import Derived.Test.Qxb6628947aFmtWalkA
namespace Go.Proofs.Qxb6628947aFmt
open Go.RowKit Go.Extern.Stop Go.Stop Go.Extern

set_option maxHeartbeats 400000 in
theorem bytesA_yes (s : ByteArray) (w : World) (hl : s.size ≤ 1048576) :
    Calls Tryf.prog 5 #[.string s] w fun e w' => e = .returned (.bool true) ∧ w' = w := by
  go_enter Tryf.func5, Tryf.ntmps5
  go_wp2
  go_ret
  exact ⟨rfl, rfl⟩
set_option maxHeartbeats 400000 in
theorem bytesA_no (s : ByteArray) (w : World) (hl : 1048576 < s.size) :
    Calls Tryf.prog 5 #[.string s] w fun e w' => e = .returned (.bool false) ∧ w' = w := by
  go_enter Tryf.func5, Tryf.ntmps5
  go_wp2
  go_ret
  exact ⟨rfl, rfl⟩
set_option maxHeartbeats 400000 in
theorem lawA_big (s : ByteArray) (w : World) (hl : 1048576 < s.size) :
    Calls Tryf.prog 3 #[.string s] w fun e w' => e = .returned (.bool true) ∧ Below w.heap.size w w' := by
  go_enter Tryf.func3, Tryf.ntmps3
  go_wp2_with (go_at_call 5; refine (bytesA_no _ _ hl).mono ?_; rintro e w' ⟨rfl, rfl⟩)
  go_ret
  exact ⟨rfl, Below.refl _ _⟩


theorem g0 : Tryf.prog.globalNamed "strconv.ErrSyntax" = some 0 := by kernel_rfl
theorem g1 : Tryf.prog.globalNamed "strconv.ErrRange" = some 1 := by kernel_rfl
theorem var_later {n : String} {g : Nat} (hg : Tryf.prog.globalNamed n = some g) {w w1 : World} {T : TypeId} {p : Value} (hb : Below w.heap.size w w1) (hv : w.var? Tryf.prog n = some #[.iface T p]) : w1.var? Tryf.prog n = some #[.iface T p] := by
  have hc := World.var?_cell hg hv 0
  have hlt : g < w.heap.size := by
    have h1 : w.cell? ⟨g, 0, none⟩ = some (.iface T p) := by simpa using hc
    exact Lib.lt_of_cell h1
  exact var?_below hb hg hlt hv

set_option maxHeartbeats 400000 in
theorem lawA_nil (F : Interp) (s : ByteArray) (w : World) (hF : F.answers w.tape) (hp : s.size = 0) (t0 t1 : TypeId) (p0 p1 : Value) (hv0 : w.var? Tryf.prog "strconv.ErrSyntax" = some #[.iface t0 p0]) (hv1 : w.var? Tryf.prog "strconv.ErrRange" = some #[.iface t1 p1]) :
    Calls Tryf.prog 3 #[.string s] w fun e w' => e = .returned (.bool true) ∧ Below w.heap.size w w' := by
  have hl : s.size ≤ 1048576 := by omega
  have e0 : s.data.toList = [] := List.eq_nil_of_length_eq_zero (by rw [← Lib.size_eq]; exact hp)
  have H : Hid (Rel.relOf s.data.toList = none) := by rw [e0]; exact Rel.relOf_nil
  have hp' : ((s.size : Int) == 0) = true := by rw [hp]; rfl
  clear e0
  go_enter Tryf.func3, Tryf.ntmps3
  go_wp2_with (first | (go_at_call 5; refine (bytesA_yes _ _ hl).mono ?_; rintro e w' ⟨rfl, rfl⟩) | (go_at_call 6; refine (rel_no F s _ hF hl H t0 t1 p0 p1 hv0 hv1).mono ?_; rintro e w1 ⟨⟨a, rfl⟩, hb⟩))
  go_ret
  exact ⟨rfl, hb⟩

set_option maxHeartbeats 400000 in
theorem lawA_other (F : Interp) (s : ByteArray) (w : World) (hF : F.answers w.tape) (hl : s.size ≤ 1048576) (hp : 0 < s.size) (hd : s[s.size - 1].toNat < 48 ∨ 57 < s[s.size - 1].toNat) (h : Rel.relOf s.data.toList = none) (t0 t1 : TypeId) (p0 p1 : Value) (hv0 : w.var? Tryf.prog "strconv.ErrSyntax" = some #[.iface t0 p0]) (hv1 : w.var? Tryf.prog "strconv.ErrRange" = some #[.iface t1 p1]) :
    Calls Tryf.prog 3 #[.string s] w fun e w' => e = .returned (.bool true) ∧ Below w.heap.size w w' := by
  have H : Hid (Rel.relOf s.data.toList = none) := h
  clear h
  rcases hd with hd | hd
  · have h1 : (s[s.size - 1].toNat : Int) < 48 := by omega
    go_enter Tryf.func3, Tryf.ntmps3
    go_wp2_with (first | (go_at_call 5; refine (bytesA_yes _ _ hl).mono ?_; rintro e w' ⟨rfl, rfl⟩) | (go_at_call 6; refine (rel_no F s _ hF hl H t0 t1 p0 p1 hv0 hv1).mono ?_; rintro e w1 ⟨⟨a, rfl⟩, hb⟩))
    go_ret
    exact ⟨rfl, hb⟩
  · have h1 : 57 < (s[s.size - 1].toNat : Int) := by omega
    go_enter Tryf.func3, Tryf.ntmps3
    go_wp2_with (first | (go_at_call 5; refine (bytesA_yes _ _ hl).mono ?_; rintro e w' ⟨rfl, rfl⟩) | (go_at_call 6; refine (rel_no F s _ hF hl H t0 t1 p0 p1 hv0 hv1).mono ?_; rintro e w1 ⟨⟨a, rfl⟩, hb⟩))
    go_ret
    exact ⟨rfl, hb⟩

set_option maxHeartbeats 400000 in
theorem lawA_first (F : Interp) (s : ByteArray) (w : World) (hF : F.answers w.tape) (hl : s.size ≤ 1048576) (hp : 0 < s.size) (h48 : 48 ≤ (s[s.size - 1].toNat : Int)) (h57 : (s[s.size - 1].toNat : Int) ≤ 57) (n : Nat) (hn : ((n : Int) == (s[s.size - 1].toNat : Int) - 48) = true) (h : Rel.relOf s.data.toList = some n)
    (ht : Rel.relOf (s.extract 0 (s.size - 1)).data.toList = none) (h1 : ((s.extract 0 (s.size - 1)).toList == [49, 46]) = true) (t0 t1 : TypeId) (p0 p1 : Value) (hv0 : w.var? Tryf.prog "strconv.ErrSyntax" = some #[.iface t0 p0]) (hv1 : w.var? Tryf.prog "strconv.ErrRange" = some #[.iface t1 p1]) :
    Calls Tryf.prog 3 #[.string s] w fun e w' => e = .returned (.bool true) ∧ Below w.heap.size w w' := by
  have H : Hid (Rel.relOf s.data.toList = some n) := h
  have HT : Hid (Rel.relOf (s.extract 0 (s.size - 1)).data.toList = none) := ht
  have hlt : (s.extract 0 (s.size - 1)).size ≤ 1048576 := by simp; omega
  clear h ht
  go_enter Tryf.func3, Tryf.ntmps3
  go_wp2_with (first | (go_at_call 5; refine (bytesA_yes _ _ hl).mono ?_; rintro e w' ⟨rfl, rfl⟩) | (go_at_call 6; fail))
  refine (rel_yes s _ hl n H t0 t1 p0 p1 hv0 hv1).mono ?_
  rintro e w1 ⟨rfl, hb⟩
  go_wp2_with (go_at_call 6; fail)
  refine (rel_no F _ _ (by rw [← hb.tape] at hF; exact hF) hlt HT t0 t1 p0 p1 (var_later g0 hb hv0) (var_later g1 hb hv1)).mono ?_
  rintro e w2 ⟨⟨a, rfl⟩, hb2⟩
  go_wp2
  go_ret
  exact ⟨rfl, hb.trans (hb2.mono hb.size)⟩

set_option maxHeartbeats 400000 in
theorem lawA_none (F : Interp) (s : ByteArray) (w : World) (hF : F.answers w.tape) (hl : s.size ≤ 1048576) (hp : 0 < s.size) (h48 : 48 ≤ (s[s.size - 1].toNat : Int)) (h57 : (s[s.size - 1].toNat : Int) ≤ 57) (H : Hid (Rel.relOf s.data.toList = none)) (HT : Hid (Rel.relOf (s.extract 0 (s.size - 1)).data.toList = none)) (h1 : ((s.extract 0 (s.size - 1)).toList == [49, 46]) = false) (t0 t1 : TypeId) (p0 p1 : Value) (hv0 : w.var? Tryf.prog "strconv.ErrSyntax" = some #[.iface t0 p0]) (hv1 : w.var? Tryf.prog "strconv.ErrRange" = some #[.iface t1 p1]) :
    Calls Tryf.prog 3 #[.string s] w fun e w' => e = .returned (.bool true) ∧ Below w.heap.size w w' := by
  have hlt : (s.extract 0 (s.size - 1)).size ≤ 1048576 := by simp; omega
  go_enter Tryf.func3, Tryf.ntmps3
  go_wp2_with (first | (go_at_call 5; refine (bytesA_yes _ _ hl).mono ?_; rintro e w' ⟨rfl, rfl⟩) | (go_at_call 6; fail))
  refine (rel_no F s _ hF hl H t0 t1 p0 p1 hv0 hv1).mono ?_
  rintro e w1 ⟨⟨a1, rfl⟩, hb⟩
  go_wp2_with (go_at_call 6; fail)
  refine (rel_no F _ _ (by rw [← hb.tape] at hF; exact hF) hlt HT t0 t1 p0 p1 (var_later g0 hb hv0) (var_later g1 hb hv1)).mono ?_
  rintro e w2 ⟨⟨a, rfl⟩, hb2⟩
  go_wp2
  go_ret
  exact ⟨rfl, hb.trans (hb2.mono hb.size)⟩

set_option maxHeartbeats 400000 in
theorem lawA_zero (F : Interp) (s : ByteArray) (w : World) (hF : F.answers w.tape) (hl : s.size ≤ 1048576) (hp : 0 < s.size) (h48 : 48 ≤ (s[s.size - 1].toNat : Int)) (h57 : (s[s.size - 1].toNat : Int) ≤ 57) (m : Nat) (H : Hid (Rel.relOf s.data.toList = none)) (HT : Hid (Rel.relOf (s.extract 0 (s.size - 1)).data.toList = some m)) (hm : ((m : Int) == 0) = true) (t0 t1 : TypeId) (p0 p1 : Value) (hv0 : w.var? Tryf.prog "strconv.ErrSyntax" = some #[.iface t0 p0]) (hv1 : w.var? Tryf.prog "strconv.ErrRange" = some #[.iface t1 p1]) :
    Calls Tryf.prog 3 #[.string s] w fun e w' => e = .returned (.bool true) ∧ Below w.heap.size w w' := by
  have hlt : (s.extract 0 (s.size - 1)).size ≤ 1048576 := by simp; omega
  go_enter Tryf.func3, Tryf.ntmps3
  go_wp2_with (first | (go_at_call 5; refine (bytesA_yes _ _ hl).mono ?_; rintro e w' ⟨rfl, rfl⟩) | (go_at_call 6; fail))
  refine (rel_no F s _ hF hl H t0 t1 p0 p1 hv0 hv1).mono ?_
  rintro e w1 ⟨⟨a1, rfl⟩, hb⟩
  go_wp2_with (go_at_call 6; fail)
  refine (rel_yes _ _ hlt m HT t0 t1 p0 p1 (var_later g0 hb hv0) (var_later g1 hb hv1)).mono ?_
  rintro e w2 ⟨rfl, hb2⟩
  go_wp2
  go_ret
  exact ⟨rfl, hb.trans (hb2.mono hb.size)⟩

set_option maxHeartbeats 400000 in
theorem lawA_over (F : Interp) (s : ByteArray) (w : World) (hF : F.answers w.tape) (hl : s.size ≤ 1048576) (hp : 0 < s.size) (h48 : 48 ≤ (s[s.size - 1].toNat : Int)) (h57 : (s[s.size - 1].toNat : Int) ≤ 57) (m : Nat) (H : Hid (Rel.relOf s.data.toList = none)) (HT : Hid (Rel.relOf (s.extract 0 (s.size - 1)).data.toList = some m)) (hm : ((m : Int) == 0) = false) (hm1 : (9223372036854775807 - ((s[s.size - 1].toNat : Int) - 48)) / 10 < (m : Int)) (t0 t1 : TypeId) (p0 p1 : Value) (hv0 : w.var? Tryf.prog "strconv.ErrSyntax" = some #[.iface t0 p0]) (hv1 : w.var? Tryf.prog "strconv.ErrRange" = some #[.iface t1 p1]) :
    Calls Tryf.prog 3 #[.string s] w fun e w' => e = .returned (.bool true) ∧ Below w.heap.size w w' := by
  have hlt : (s.extract 0 (s.size - 1)).size ≤ 1048576 := by simp; omega
  go_enter Tryf.func3, Tryf.ntmps3
  go_wp2_with (first | (go_at_call 5; refine (bytesA_yes _ _ hl).mono ?_; rintro e w' ⟨rfl, rfl⟩) | (go_at_call 6; fail))
  refine (rel_no F s _ hF hl H t0 t1 p0 p1 hv0 hv1).mono ?_
  rintro e w1 ⟨⟨a1, rfl⟩, hb⟩
  go_wp2_with (go_at_call 6; fail)
  refine (rel_yes _ _ hlt m HT t0 t1 p0 p1 (var_later g0 hb hv0) (var_later g1 hb hv1)).mono ?_
  rintro e w2 ⟨rfl, hb2⟩
  go_wp2
  go_ret
  exact ⟨rfl, hb.trans (hb2.mono hb.size)⟩

set_option maxHeartbeats 400000 in
theorem lawA_fits (F : Interp) (s : ByteArray) (w : World) (hF : F.answers w.tape) (hl : s.size ≤ 1048576) (hp : 0 < s.size) (h48 : 48 ≤ (s[s.size - 1].toNat : Int)) (h57 : (s[s.size - 1].toNat : Int) ≤ 57) (m n : Nat) (H : Hid (Rel.relOf s.data.toList = some n)) (HT : Hid (Rel.relOf (s.extract 0 (s.size - 1)).data.toList = some m)) (hm : ((m : Int) == 0) = false) (hm0 : ¬ (m : Int) < 0) (hm1 : ¬ (9223372036854775807 - ((s[s.size - 1].toNat : Int) - 48)) / 10 < (m : Int)) (hn : ((n : Int) == 10 * (m : Int) + ((s[s.size - 1].toNat : Int) - 48)) = true) (t0 t1 : TypeId) (p0 p1 : Value) (hv0 : w.var? Tryf.prog "strconv.ErrSyntax" = some #[.iface t0 p0]) (hv1 : w.var? Tryf.prog "strconv.ErrRange" = some #[.iface t1 p1]) :
    Calls Tryf.prog 3 #[.string s] w fun e w' => e = .returned (.bool true) ∧ Below w.heap.size w w' := by
  have hlt : (s.extract 0 (s.size - 1)).size ≤ 1048576 := by simp; omega
  go_enter Tryf.func3, Tryf.ntmps3
  go_wp2_with (first | (go_at_call 5; refine (bytesA_yes _ _ hl).mono ?_; rintro e w' ⟨rfl, rfl⟩) | (go_at_call 6; fail))
  refine (rel_yes s _ hl n H t0 t1 p0 p1 hv0 hv1).mono ?_
  rintro e w1 ⟨rfl, hb⟩
  go_wp2_with (go_at_call 6; fail)
  refine (rel_yes _ _ hlt m HT t0 t1 p0 p1 (var_later g0 hb hv0) (var_later g1 hb hv1)).mono ?_
  rintro e w2 ⟨rfl, hb2⟩
  go_wp2
  go_ret
  exact ⟨rfl, hb.trans (hb2.mono hb.size)⟩

theorem split_last (s : ByteArray) (hp : 0 < s.size) : s.data.toList = (s.extract 0 (s.size - 1)).data.toList ++ [s[s.size - 1]] := by
  obtain ⟨⟨l⟩⟩ := s
  have hp' : 0 < l.length := by simpa [ByteArray.size] using hp
  have e1 : (ByteArray.mk ⟨l⟩).size = l.length := by simp [ByteArray.size]
  have e2 : ((ByteArray.mk ⟨l⟩).extract 0 (l.length - 1)).data.toList = l.take (l.length - 1) := by
    simp [ByteArray.data_extract]
    exact List.dropLast_eq_take
  have e3 : (ByteArray.mk ⟨l⟩)[l.length - 1]'(by rw [e1]; omega) = l[l.length - 1] := rfl
  simp only [e1, e2, e3]
  have h := List.take_append_drop (l.length - 1) l
  have hd : l.drop (l.length - 1) = [l[l.length - 1]] := by
    rw [List.drop_eq_getElem_cons (by omega)]
    congr 1
    exact List.drop_eq_nil_of_le (by omega)
  rw [hd] at h
  exact h.symm

theorem lawA_any (F : Interp) (s : ByteArray) (w : World) (hF : F.answers w.tape) (t0 t1 : TypeId) (p0 p1 : Value) (hv0 : w.var? Tryf.prog "strconv.ErrSyntax" = some #[.iface t0 p0]) (hv1 : w.var? Tryf.prog "strconv.ErrRange" = some #[.iface t1 p1]) :
    Calls Tryf.prog 3 #[.string s] w fun e w' => e = .returned (.bool true) ∧ Below w.heap.size w w' := by
  by_cases hl : s.size ≤ 1048576
  · by_cases hp : 0 < s.size
    · have hs := split_last s hp
      have hTl := Lib.toList_data (s.extract 0 (s.size - 1))
      by_cases hd : 48 ≤ s[s.size - 1].toNat ∧ s[s.size - 1].toNat ≤ 57
      · have h48 : 48 ≤ (s[s.size - 1].toNat : Int) := by omega
        have h57 : (s[s.size - 1].toNat : Int) ≤ 57 := by omega
        have h16 : s[s.size - 1].toNat % 16 = s[s.size - 1].toNat - 48 := by omega
        cases ht : Rel.relOf (s.extract 0 (s.size - 1)).data.toList with
        | none =>
          by_cases h1 : (s.extract 0 (s.size - 1)).data.toList = [49, 46]
          · have h := Rel.rel_first s[s.size - 1] hd
            rw [← h1, ← hs] at h
            refine lawA_first F s w hF hl hp h48 h57 _ ?_ h ht ?_ t0 t1 p0 p1 hv0 hv1
            · rw [beq_iff_eq]; omega
            · rw [hTl, h1]; rfl
          · have h := Rel.rel_none _ s[s.size - 1] hd ht h1
            rw [← hs] at h
            refine lawA_none F s w hF hl hp h48 h57 h ht ?_ t0 t1 p0 p1 hv0 hv1
            rw [hTl]
            exact beq_eq_false_iff_ne.2 h1
        | some m =>
          by_cases h0 : m = 0
          · subst h0
            have h := Rel.rel_zero _ s[s.size - 1] hd ht
            rw [← hs] at h
            exact lawA_zero F s w hF hl hp h48 h57 0 h ht rfl t0 t1 p0 p1 hv0 hv1
          · have hm : ((m : Int) == 0) = false := beq_eq_false_iff_ne.2 (by omega)
            by_cases hb : 9223372036854775808 ≤ 10 * m + s[s.size - 1].toNat % 16
            · have h := Rel.rel_big _ s[s.size - 1] m hd ht hb
              rw [← hs] at h
              exact lawA_over F s w hF hl hp h48 h57 m h ht hm (by omega) t0 t1 p0 p1 hv0 hv1
            · have h := Rel.rel_more _ s[s.size - 1] m hd ht (by omega) (by omega)
              rw [← hs] at h
              refine lawA_fits F s w hF hl hp h48 h57 m _ h ht hm (by omega) (by omega) ?_ t0 t1 p0 p1 hv0 hv1
              rw [beq_iff_eq]; omega
      · have h := Rel.rel_nondigit (s.extract 0 (s.size - 1)).data.toList s[s.size - 1] hd
        rw [← hs] at h
        exact lawA_other F s w hF hl hp (by omega) h t0 t1 p0 p1 hv0 hv1
    · exact lawA_nil F s w hF (by omega) t0 t1 p0 p1 hv0 hv1
  · exact lawA_big s w (by omega)
end Go.Proofs.Qxb6628947aFmt
