/-
  THE WALKS of parseMinor, fmt.Errorf and ParseRelease (seat b6628947aF).
-/
import Derived.Test.Qxb6628947aFmtPlain
import Derived.Test.Qxb6628947aFmtShelf
import Derived.Test.Qxb6628947aFmtFmt
import Derived.WalkSpells
import Derived.WalkLawsBesides
import Derived.BigQuiet
import Derived.Deep.QuietTactic
namespace Go.Proofs.Qxb6628947aFmt
open Go.RowKit Go.Extern.Stop Go.Stop Go.Extern

theorem head_eq {s : ByteArray} {c : UInt8} {r : List UInt8} (h : s.data.toList = c :: r) : ∃ hp : 0 < s.size, s[0]'hp = c := by
  obtain ⟨⟨l⟩⟩ := s
  simp only at h
  subst h
  exact ⟨by simp [ByteArray.size], rfl⟩

set_option maxHeartbeats 400000 in
theorem minor_no (s : ByteArray) (w : World) (h : Rel.badHead s.data.toList = true) :
    Calls Tryf.prog 11 #[.string s] w fun e w' => e = .returned (.tuple #[.int .i64 0, .bool false]) ∧ w' = w := by
  have ht := Lib.toList_data s
  cases hcr : s.data.toList with
  | nil =>
    have he : s.toList = [] := by rw [ht, hcr]
    clear ht hcr h
    go_enter Tryf.func11, Tryf.ntmps11
    go_wp2
    go_ret2
    exact ⟨rfl, rfl⟩
  | cons c r =>
    rw [hcr] at h ht
    obtain ⟨hp, hc⟩ := head_eq hcr
    have he : s.toList.isEmpty = false := by rw [ht]; rfl
    have hne : ¬ s.toList = [] := by rw [ht]; simp
    have hcc : c.toNat < 48 ∨ (57 < c.toNat ∧ ¬ c.toNat < 48) ∨ (c.toNat = 48 ∧ r ≠ []) := by
      simp only [Rel.badHead, Bool.or_eq_true, Bool.and_eq_true, decide_eq_true_eq, Bool.not_eq_true', List.isEmpty_eq_false_iff] at h
      by_cases h48 : c.toNat < 48
      · exact Or.inl h48
      · rcases h with (h | h) | h
        · exact Or.inl h
        · exact Or.inr (Or.inl ⟨h, h48⟩)
        · exact Or.inr (Or.inr h)
    rcases hcc with h1 | ⟨h1, h2⟩ | ⟨h1, h2⟩
    · have h1' : (s[0].toNat : Int) < 48 := by rw [hc]; omega
      clear ht hcr h hc
      go_enter Tryf.func11, Tryf.ntmps11
      go_wp2
      go_ret2
      exact ⟨rfl, rfl⟩
    · have h1' : 57 < (s[0].toNat : Int) := by rw [hc]; omega
      have h2' : ¬ (s[0].toNat : Int) < 48 := by rw [hc]; omega
      clear ht hcr h hc
      go_enter Tryf.func11, Tryf.ntmps11
      go_wp2
      go_ret2
      exact ⟨rfl, rfl⟩
    · have h1' : (s[0].toNat : Int) = 48 := by rw [hc]; omega
      have h3 : (s.toList == [48]) = false := by
        rw [ht]
        simp
        intro _ hr
        exact h2 hr
      clear ht hcr h hc
      go_enter Tryf.func11, Tryf.ntmps11
      go_wp2
      go_ret2
      exact ⟨rfl, rfl⟩

set_option maxHeartbeats 400000 in
theorem minor_go (s : ByteArray) (w : World) (hl : s.size ≤ 1048576) (h : Rel.badHead s.data.toList = false) (t0 t1 : TypeId) (p0 p1 : Value) (hv0 : w.var? Tryf.prog "strconv.ErrSyntax" = some #[.iface t0 p0]) (hv1 : w.var? Tryf.prog "strconv.ErrRange" = some #[.iface t1 p1]) :
    Calls Tryf.prog 11 #[.string s] w fun e w' => (match Rel.minorOf s.data.toList with
      | some n => e = .returned (.tuple #[.int .i64 (n : Int), .bool true])
      | none => ∃ n, e = .returned (.tuple #[.int .i64 n, .bool false])) ∧ Below w.heap.size w w' := by
  have ht := Lib.toList_data s
  cases hcr : s.data.toList with
  | nil => rw [hcr] at h; cases h
  | cons c r =>
    have hat := Rel.minor_atoi (by rw [hcr] at h; exact h)
    rw [hcr] at h ht
    obtain ⟨hp, hc⟩ := head_eq hcr
    have he : s.toList.isEmpty = false := by rw [ht]; rfl
    have hne : ¬ s.toList = [] := by rw [ht]; simp
    have hcc : (48 ≤ c.toNat ∧ c.toNat ≤ 57) ∧ (c.toNat = 48 → r = []) := by
      simp only [Rel.badHead, Bool.or_eq_false_iff, Bool.and_eq_false_iff, decide_eq_false_iff_not, Bool.not_eq_false', List.isEmpty_iff] at h
      refine ⟨by omega, fun h4 => ?_⟩
      rcases h.2 with h5 | h5
      · exact absurd h4 h5
      · exact h5
    have h1 : ¬ (s[0].toNat : Int) < 48 := by rw [hc]; omega
    have h2 : ¬ 57 < (s[0].toNat : Int) := by rw [hc]; omega
    have h3 : ((s[0].toNat : Int) = 48 ∧ (s.toList == [48]) = true) ∨ ¬ (s[0].toNat : Int) = 48 := by
      by_cases h48 : c.toNat = 48
      · refine Or.inl ⟨by rw [hc]; omega, ?_⟩
        rw [ht, hcc.2 h48]
        have : c = 48 := UInt8.toNat_inj.1 h48
        rw [this]; rfl
      · exact Or.inr (by rw [hc]; omega)
    by_cases hok : ∃ v, Lib.atoiAll s.data.toList = .ok v
    · obtain ⟨v, hv⟩ := hok
      obtain ⟨n, rfl, hn, hm⟩ := hat.1 v (by rw [← hcr]; exact hv)
      rw [hm]
      have HA : Hid (Lib.atoiAll s.data.toList = .ok (n : Int)) := hv
      clear hat hv hm ht hcr h hc hcc
      rcases h3 with ⟨h3, h4⟩ | h3
      all_goals
        go_enter Tryf.func11, Tryf.ntmps11
        go_wp2_with (go_at_call 15; refine (atoi_yes s (by omega) n HA _).mono ?_; rintro e w1 ⟨rfl, hb⟩)
        go_quiet (fail)
        go_wp2
        go_ret2
        exact ⟨rfl, below_drewN hb _⟩
    · have hno : ∀ v, Lib.atoiAll s.data.toList ≠ .ok v := fun v hv => hok ⟨v, hv⟩
      have hm := hat.2 (by rw [← hcr]; exact hno)
      rw [hm]
      have HA : Hid (∀ v, Lib.atoiAll s.data.toList ≠ .ok v) := hno
      clear hat hok hno hm ht hcr h hc hcc
      rcases h3 with ⟨h3, h4⟩ | h3
      all_goals
        go_enter Tryf.func11, Tryf.ntmps11
        go_wp2_with (go_at_call 15; refine (atoi_no s (by omega) HA t0 t1 p0 p1 _ hv0 hv1).mono ?_; rintro e w1 ⟨n, a, rfl, hb⟩)
        go_quiet (fail)
        go_wp2
        go_ret2
        exact ⟨⟨n, rfl⟩, below_drewN hb _⟩

theorem minor_yes (s : ByteArray) (w : World) (hl : s.size ≤ 1048576) (n : Nat) (h : Rel.minorOf s.data.toList = some n) (t0 t1 : TypeId) (p0 p1 : Value) (hv0 : w.var? Tryf.prog "strconv.ErrSyntax" = some #[.iface t0 p0]) (hv1 : w.var? Tryf.prog "strconv.ErrRange" = some #[.iface t1 p1]) :
    Calls Tryf.prog 11 #[.string s] w fun e w' => e = .returned (.tuple #[.int .i64 (n : Int), .bool true]) ∧ Below w.heap.size w w' := by
  cases hb : Rel.badHead s.data.toList with
  | true => rw [Rel.minor_badHead hb] at h; cases h
  | false =>
    refine (minor_go s w hl hb t0 t1 p0 p1 hv0 hv1).mono ?_
    rw [h]
    exact fun e w' h => h

theorem minor_none (s : ByteArray) (w : World) (hl : s.size ≤ 1048576) (h : Rel.minorOf s.data.toList = none) (t0 t1 : TypeId) (p0 p1 : Value) (hv0 : w.var? Tryf.prog "strconv.ErrSyntax" = some #[.iface t0 p0]) (hv1 : w.var? Tryf.prog "strconv.ErrRange" = some #[.iface t1 p1]) :
    Calls Tryf.prog 11 #[.string s] w fun e w' => (∃ n, e = .returned (.tuple #[.int .i64 n, .bool false])) ∧ Below w.heap.size w w' := by
  cases hb : Rel.badHead s.data.toList with
  | true =>
    refine (minor_no s w hb).mono ?_
    rintro e w' ⟨rfl, rfl⟩
    exact ⟨⟨0, rfl⟩, Below.refl _ _⟩
  | false =>
    refine (minor_go s w hl hb t0 t1 p0 p1 hv0 hv1).mono ?_
    rw [h]
    exact fun e w' h => h

theorem minor_some (s : ByteArray) (w : World) (hl : s.size ≤ 1048576) (t0 t1 : TypeId) (p0 p1 : Value) (hv0 : w.var? Tryf.prog "strconv.ErrSyntax" = some #[.iface t0 p0]) (hv1 : w.var? Tryf.prog "strconv.ErrRange" = some #[.iface t1 p1]) :
    Calls Tryf.prog 11 #[.string s] w fun e w' => (∃ n b, e = .returned (.tuple #[.int .i64 n, .bool b])) ∧ Below w.heap.size w w' := by
  cases h : Rel.minorOf s.data.toList with
  | some n =>
    refine (minor_yes s w hl n h t0 t1 p0 p1 hv0 hv1).mono ?_
    rintro e w' ⟨rfl, hb⟩
    exact ⟨⟨_, _, rfl⟩, hb⟩
  | none =>
    refine (minor_none s w hl h t0 t1 p0 p1 hv0 hv1).mono ?_
    rintro e w' ⟨⟨n, rfl⟩, hb⟩
    exact ⟨⟨_, _, rfl⟩, hb⟩

/-! ### ParseRelease -/
theorem pre_yes {l m : List UInt8} (h : l = 49 :: 46 :: m) : Lib.hasPrefix l [49, 46] = true ∧ Lib.trimPrefix l [49, 46] = m := by
  subst h
  constructor
  · simp [Lib.hasPrefix]
  · simp [Lib.trimPrefix, Lib.hasPrefix]
theorem pre_no {l : List UInt8} (h : ∀ m, l ≠ 49 :: 46 :: m) : Lib.hasPrefix l [49, 46] = false ∧ Lib.trimPrefix l [49, 46] = l := by
  have h1 : Lib.hasPrefix l [49, 46] = false := by
    cases hh : Lib.hasPrefix l [49, 46] with
    | false => rfl
    | true =>
      exfalso
      simp [Lib.hasPrefix] at hh
      obtain ⟨t, ht⟩ := hh
      exact h t ht.symm
  exact ⟨h1, by simp [Lib.trimPrefix, h1]⟩

set_option maxHeartbeats 400000 in
theorem rel_yes (s : ByteArray) (w : World) (hl : s.size ≤ 1048576) (n : Nat) (h : Rel.relOf s.data.toList = some n) (t0 t1 : TypeId) (p0 p1 : Value) (hv0 : w.var? Tryf.prog "strconv.ErrSyntax" = some #[.iface t0 p0]) (hv1 : w.var? Tryf.prog "strconv.ErrRange" = some #[.iface t1 p1]) :
    Calls Tryf.prog 6 #[.string s] w fun e w' => e = .returned (.tuple #[.int .i64 (n : Int), .nilIface]) ∧ Below w.heap.size w w' := by
  obtain ⟨m, hm, hg, hn⟩ := Rel.relOf_some.1 h
  have hmm : Rel.minorOf m = some n := Rel.minorOf_some.2 ⟨hg, hn⟩
  obtain ⟨e1, e2⟩ := pre_yes hm
  have hsz : (⟨m.toArray⟩ : ByteArray).size ≤ 1048576 := by
    have h1 : (⟨m.toArray⟩ : ByteArray).size = m.length := by simp [ByteArray.size]
    have h2 := Lib.size_eq s
    rw [hm] at h2
    simp at h2
    omega
  have hmm' : Rel.minorOf (⟨m.toArray⟩ : ByteArray).data.toList = some n := by simpa using hmm
  have HC : Hid (∀ w, Calls Tryf.prog 10 #[.string s, .string ⟨#[49, 46]⟩] w fun e w' => e = .returned (.tuple #[.string ⟨m.toArray⟩, .bool true]) ∧ w' = w) := by
    intro w
    have hc := cutPrefix_any s ⟨#[49, 46]⟩ w
    rw [e1, e2] at hc
    exact hc
  have HM : Hid (Rel.minorOf (⟨m.toArray⟩ : ByteArray).data.toList = some n) := hmm'
  clear e1 e2 hmm hmm' hm hg hn h
  go_enter Tryf.func6, Tryf.ntmps6
  go_wp2_with (first | (go_at_call 10; go_must (refine (HC.out _).mono ?_; rintro e w' ⟨rfl, rfl⟩)) | (go_at_call 11; go_must (refine (minor_yes _ _ hsz n HM.out t0 t1 p0 p1 hv0 hv1).mono ?_; rintro e w1 ⟨rfl, hb⟩)))
  go_ret2
  exact ⟨rfl, hb⟩

set_option maxHeartbeats 400000 in
theorem errorf_any (F : Interp) (s : ByteArray) (b : Nat) (w : World) (hF : F.answers w.tape) (hc : w.cell? ⟨b, 0, none⟩ = some (.iface 9 (.string s))) :
    Calls Tryf.prog 12 #[.string ⟨#[105, 110, 118, 97, 108, 105, 100, 32, 71, 111, 32, 114, 101, 108, 101, 97, 115, 101, 32, 37, 113, 58, 32, 119, 97, 110, 116, 32, 49, 46, 78, 44, 32, 115, 117, 99, 104, 32, 97, 115, 32, 49, 46, 50, 54]⟩, .slice (some ⟨b, 0, none⟩) 1 1] w fun e w' => (∃ a, e = .returned (.iface 39 (.pointer (some a)))) ∧ Below w.heap.size w w' := by
  have hF' := hF
  unfold Interp.answers at hF'
  go_enter Tryf.func12, Tryf.ntmps12
  go_wp2
  go_ret
  exact ⟨⟨_, rfl⟩, ((Below.refl _ _).alloc (Nat.le_refl _) _).drew⟩

set_option maxHeartbeats 400000 in
theorem rel_no (F : Interp) (s : ByteArray) (w : World) (hF : F.answers w.tape) (hl : s.size ≤ 1048576) (h : Rel.relOf s.data.toList = none) (t0 t1 : TypeId) (p0 p1 : Value) (hv0 : w.var? Tryf.prog "strconv.ErrSyntax" = some #[.iface t0 p0]) (hv1 : w.var? Tryf.prog "strconv.ErrRange" = some #[.iface t1 p1]) :
    Calls Tryf.prog 6 #[.string s] w fun e w' => (∃ a, e = .returned (.tuple #[.int .i64 0, .iface 39 (.pointer (some a))])) ∧ Below w.heap.size w w' := by
  by_cases hp : ∃ m, s.data.toList = 49 :: 46 :: m
  · obtain ⟨m, hm⟩ := hp
    have hmm : Rel.minorOf m = none := by rw [hm, Rel.relOf_two] at h; simpa using h
    obtain ⟨e1, e2⟩ := pre_yes hm
    have hsz : (⟨m.toArray⟩ : ByteArray).size ≤ 1048576 := by
      have h1 : (⟨m.toArray⟩ : ByteArray).size = m.length := by simp [ByteArray.size]
      have h2 := Lib.size_eq s
      rw [hm] at h2
      simp at h2
      omega
    have hmm' : Rel.minorOf (⟨m.toArray⟩ : ByteArray).data.toList = none := by simpa using hmm
    have HC : Hid (∀ w, Calls Tryf.prog 10 #[.string s, .string ⟨#[49, 46]⟩] w fun e w' => e = .returned (.tuple #[.string ⟨m.toArray⟩, .bool true]) ∧ w' = w) := by
      intro w
      have hc := cutPrefix_any s ⟨#[49, 46]⟩ w
      rw [e1, e2] at hc
      exact hc
    have HM : Hid (Rel.minorOf (⟨m.toArray⟩ : ByteArray).data.toList = none) := hmm'
    clear e1 e2 hmm hmm' hm h
    go_enter Tryf.func6, Tryf.ntmps6
    go_wp2_with (first | (go_at_call 10; go_must (refine (HC.out _).mono ?_; rintro e w' ⟨rfl, rfl⟩)) | (go_at_call 11; go_must (refine (minor_none _ _ hsz HM.out t0 t1 p0 p1 hv0 hv1).mono ?_; rintro e w1 ⟨⟨n, rfl⟩, hb⟩)) | (go_at_call 12; fail))
    refine (errorf_any F s _ _ (by rw [← hb.tape] at hF; exact hF) (by go_simp)).mono ?_
    rintro e w2 ⟨⟨a, rfl⟩, hb2⟩
    go_wp2
    go_ret2
    exact ⟨⟨a, rfl⟩, (hb.alloc hb.size _).trans (hb2.mono (by have := hb.size; simp; omega))⟩
  · have hp' : ∀ m, s.data.toList ≠ 49 :: 46 :: m := fun m hm => hp ⟨m, hm⟩
    obtain ⟨e1, e2⟩ := pre_no hp'
    have es : (⟨s.data.toList.toArray⟩ : ByteArray) = s := by cases s; simp
    have HC : Hid (∀ w, Calls Tryf.prog 10 #[.string s, .string ⟨#[49, 46]⟩] w fun e w' => e = .returned (.tuple #[.string s, .bool false]) ∧ w' = w) := by
      intro w
      have hc := cutPrefix_any s ⟨#[49, 46]⟩ w
      rw [e1, e2, es] at hc
      exact hc
    clear e1 e2 hp hp' h es
    go_enter Tryf.func6, Tryf.ntmps6
    go_wp2_with (first | (go_at_call 10; go_must (refine (HC.out _).mono ?_; rintro e w' ⟨rfl, rfl⟩)) | (go_at_call 11; go_must (refine (minor_some _ _ hl t0 t1 p0 p1 hv0 hv1).mono ?_; rintro e w1 ⟨⟨n, b, rfl⟩, hb⟩)) | (go_at_call 12; fail))
    refine (errorf_any F s _ _ (by rw [← hb.tape] at hF; exact hF) (by go_simp)).mono ?_
    rintro e w2 ⟨⟨a, rfl⟩, hb2⟩
    go_wp2
    go_ret2
    exact ⟨⟨a, rfl⟩, (hb.alloc hb.size _).trans (hb2.mono (by have := hb.size; simp; omega))⟩
end Go.Proofs.Qxb6628947aFmt
