/-
  PLAIN MATHEMATICS for seat b6628947aF: what a release text spells. No program in it.
-/
import Derived.Lib.AtoiAllCases
namespace Go.Proofs.Qxb6628947aFmt.Rel
open Go.Lib

/-- What a row of digits spells behind 'acc'. -/
def val (acc : Nat) : List UInt8 → Nat
  | [] => acc
  | c :: r => val (acc * 10 + c.toNat % 16) r
theorem val_nil (acc : Nat) : val acc [] = acc := rfl
theorem val_cons (acc : Nat) (c : UInt8) (r : List UInt8) : val acc (c :: r) = val (acc * 10 + c.toNat % 16) r := rfl

/-- Digits alone. -/
def Digs (l : List UInt8) : Prop := ∀ c, c ∈ l → 48 ≤ c.toNat ∧ c.toNat ≤ 57

theorem digs_nil : Digs [] := fun c h => by cases h
theorem digs_cons {c : UInt8} {r : List UInt8} : Digs (c :: r) ↔ (48 ≤ c.toNat ∧ c.toNat ≤ 57) ∧ Digs r := by
  constructor
  · intro h
    exact ⟨h c (by simp), fun d hd => h d (by simp [hd])⟩
  · rintro ⟨h1, h2⟩ d hd
    rcases List.mem_cons.1 hd with rfl | hd
    · exact h1
    · exact h2 d hd
theorem digs_snoc {c : UInt8} {r : List UInt8} : Digs (r ++ [c]) ↔ Digs r ∧ (48 ≤ c.toNat ∧ c.toNat ≤ 57) := by
  constructor
  · intro h
    exact ⟨fun d hd => h d (by simp [hd]), h c (by simp)⟩
  · rintro ⟨h1, h2⟩ d hd
    rcases List.mem_append.1 hd with hd | hd
    · exact h1 d hd
    · rw [List.mem_singleton.1 hd]; exact h2

theorem val_le (l : List UInt8) : ∀ acc : Nat, acc ≤ val acc l := by
  induction l with
  | nil => intro acc; exact Nat.le_refl _
  | cons c r ih =>
    intro acc
    have := ih (acc * 10 + c.toNat % 16)
    rw [val_cons]
    omega
theorem val_append (a : List UInt8) (b : List UInt8) : ∀ acc : Nat, val acc (a ++ b) = val (val acc a) b := by
  induction a with
  | nil => intro acc; rfl
  | cons c r ih =>
    intro acc
    rw [List.cons_append, val_cons, val_cons]
    exact ih _
theorem val_snoc (a : List UInt8) (c : UInt8) (acc : Nat) : val acc (a ++ [c]) = val acc a * 10 + c.toNat % 16 := by
  rw [val_append]; rfl

theorem parse_ok (l : List UInt8) : ∀ acc u : Nat, acc < 18446744073709551616 →
    (parseUint10 acc l = .ok u ↔ Digs l ∧ val acc l < 18446744073709551616 ∧ u = val acc l) := by
  induction l with
  | nil =>
    intro acc u ha
    rw [val_nil]
    simp only [parseUint10]
    constructor
    · intro h
      injection h with h
      exact ⟨digs_nil, ha, h.symm⟩
    · rintro ⟨_, _, rfl⟩
      rfl
  | cons c r ih =>
    intro acc u ha
    rw [val_cons]
    simp only [parseUint10]
    have hle := val_le r (acc * 10 + c.toNat % 16)
    by_cases hd : 48 ≤ c.toNat ∧ c.toNat ≤ 57
    · have e16 : c.toNat - 48 = c.toNat % 16 := by omega
      rw [if_pos hd, e16]
      by_cases h1 : 1844674407370955162 ≤ acc
      · rw [if_pos h1]
        constructor
        · intro h; cases h
        · rintro ⟨_, h, _⟩
          omega
      · rw [if_neg h1]
        by_cases h2 : 18446744073709551616 ≤ acc * 10 + c.toNat % 16
        · rw [if_pos h2]
          constructor
          · intro h; cases h
          · rintro ⟨_, h, _⟩
            omega
        · rw [if_neg h2, ih _ u (by omega), digs_cons]
          constructor
          · rintro ⟨a, b, c⟩; exact ⟨⟨hd, a⟩, b, c⟩
          · rintro ⟨⟨_, a⟩, b, c⟩; exact ⟨a, b, c⟩
    · rw [if_neg hd]
      constructor
      · intro h; cases h
      · rintro ⟨h, _, _⟩
        exact absurd (digs_cons.1 h).1 hd

/-- Atoi at a text that opens with a digit. -/
theorem atoi_ok (c : UInt8) (r : List UInt8) (hc : 48 ≤ c.toNat ∧ c.toNat ≤ 57) (v : Int) :
    atoiAll (c :: r) = .ok v ↔ Digs (c :: r) ∧ val 0 (c :: r) < 9223372036854775808 ∧ v = (val 0 (c :: r) : Int) := by
  rw [atoiAll_plain c r (by omega) (by omega)]
  have hm : parseMag (c :: r) = parseUint10 0 (c :: r) := by simp [parseMag]
  rw [hm]
  have hp := fun u => parse_ok (c :: r) 0 u (by omega)
  cases he : parseUint10 0 (c :: r) with
  | ok u =>
    obtain ⟨h1, h2, h3⟩ := (hp u).1 he
    simp only [signless]
    by_cases hu : 9223372036854775808 ≤ u
    · rw [if_pos hu]
      constructor
      · intro h; cases h
      · rintro ⟨_, h, _⟩; omega
    · rw [if_neg hu]
      constructor
      · intro h
        injection h with h
        exact ⟨h1, by omega, by rw [← h, h3]⟩
      · rintro ⟨_, _, rfl⟩
        rw [h3]
  | _ =>
    simp only [signless]
    constructor
    · intro h; cases h
    · rintro ⟨h1, h2, _⟩
      rw [(hp (val 0 (c :: r))).2 ⟨h1, by omega, rfl⟩] at he
      cases he

/-- A numeral of 'parseMinor': digits, at least one, no leading zero but "0" itself, an int. -/
def goodB (m : List UInt8) : Bool :=
  (m.all fun c => decide (48 ≤ c.toNat) && decide (c.toNat ≤ 57)) && (match m with
    | [] => false
    | c :: r => decide (c.toNat ≠ 48) || r.isEmpty) && decide (val 0 m < 9223372036854775808)

theorem digs_all (m : List UInt8) : (m.all fun c => decide (48 ≤ c.toNat) && decide (c.toNat ≤ 57)) = true ↔ Digs m := by
  simp [Digs]

theorem goodB_cons (c : UInt8) (r : List UInt8) : goodB (c :: r) = true ↔ Digs (c :: r) ∧ (c.toNat = 48 → r = []) ∧ val 0 (c :: r) < 9223372036854775808 := by
  unfold goodB
  rw [Bool.and_eq_true, Bool.and_eq_true, digs_all]
  simp only [Bool.or_eq_true, decide_eq_true_eq, List.isEmpty_iff]
  constructor
  · rintro ⟨⟨a, b⟩, c⟩
    exact ⟨a, fun h => by rcases b with b | b; exact absurd h b; exact b, c⟩
  · rintro ⟨a, b, d⟩
    exact ⟨⟨a, by by_cases h : c.toNat = 48; exact Or.inr (b h); exact Or.inl h⟩, d⟩

theorem goodB_nil : goodB [] = false := rfl

/-- What 'parseMinor' reads. -/
def minorOf (m : List UInt8) : Option Nat := if goodB m then some (val 0 m) else none

/-- What 'ParseRelease' reads. -/
def relOf (s : List UInt8) : Option Nat := match s with
  | c0 :: c1 :: m => if c0 = 49 ∧ c1 = 46 then minorOf m else none
  | _ => none

theorem relOf_nil : relOf [] = none := rfl
theorem relOf_one (c : UInt8) : relOf [c] = none := rfl
theorem relOf_two (c0 c1 : UInt8) (m : List UInt8) : relOf (c0 :: c1 :: m) = if c0 = 49 ∧ c1 = 46 then minorOf m else none := rfl

theorem minorOf_some {m : List UInt8} {n : Nat} : minorOf m = some n ↔ goodB m = true ∧ n = val 0 m := by
  unfold minorOf
  by_cases h : goodB m = true
  · rw [if_pos h]
    constructor
    · intro e; injection e with e; exact ⟨h, e.symm⟩
    · rintro ⟨_, rfl⟩; rfl
  · rw [if_neg h]
    constructor
    · intro e; cases e
    · rintro ⟨e, _⟩; exact absurd e h
theorem minorOf_none {m : List UInt8} : minorOf m = none ↔ goodB m = false := by
  unfold minorOf
  cases h : goodB m <;> simp

theorem relOf_some {s : List UInt8} {n : Nat} : relOf s = some n ↔ ∃ m, s = 49 :: 46 :: m ∧ goodB m = true ∧ n = val 0 m := by
  match s with
  | [] => simp [relOf_nil]
  | [c] => simp [relOf_one]
  | c0 :: c1 :: m =>
    rw [relOf_two]
    by_cases h : c0 = 49 ∧ c1 = 46
    · rw [if_pos h, minorOf_some]
      obtain ⟨rfl, rfl⟩ := h
      constructor
      · intro e; exact ⟨m, rfl, e⟩
      · rintro ⟨m', e, e2⟩
        obtain rfl : m = m' := by simpa using e
        exact e2
    · rw [if_neg h]
      constructor
      · intro e; cases e
      · rintro ⟨m', e, _⟩
        simp at e
        exact absurd ⟨e.1, e.2.1⟩ h

theorem goodB_pos {c : UInt8} {r : List UInt8} (h : goodB (c :: r) = true) (h48 : c.toNat ≠ 48) : 0 < val 0 (c :: r) := by
  obtain ⟨hd, _, _⟩ := (goodB_cons c r).1 h
  have h1 := (digs_cons.1 hd).1
  have := val_le r (0 * 10 + c.toNat % 16)
  rw [val_cons]
  omega

theorem good_snoc (c : UInt8) (r : List UInt8) (d : UInt8) : goodB (c :: r ++ [d]) = true ↔ goodB (c :: r) = true ∧ 0 < val 0 (c :: r) ∧ (48 ≤ d.toNat ∧ d.toNat ≤ 57) ∧ val 0 (c :: r) * 10 + d.toNat % 16 < 9223372036854775808 := by
  have e : c :: r ++ [d] = c :: (r ++ [d]) := rfl
  have ev := val_snoc (c :: r) d 0
  constructor
  · intro h
    rw [e] at h
    obtain ⟨h1, h2, h3⟩ := (goodB_cons _ _).1 h
    rw [← e, digs_snoc] at h1
    rw [← e, ev] at h3
    have h48 : c.toNat ≠ 48 := fun hh => by
      have := h2 hh
      simp at this
    have hg : goodB (c :: r) = true := (goodB_cons _ _).2 ⟨h1.1, fun hh => absurd hh h48, by omega⟩
    exact ⟨hg, goodB_pos hg h48, h1.2, h3⟩
  · rintro ⟨hg, hp, hd, hv⟩
    obtain ⟨h1, h2, h3⟩ := (goodB_cons _ _).1 hg
    rw [e]
    refine (goodB_cons _ _).2 ⟨?_, ?_, ?_⟩
    · rw [← e]; exact digs_snoc.2 ⟨h1, hd⟩
    · intro hh
      have hr := h2 hh
      subst hr
      rw [val_cons, val_nil, hh] at hp
      omega
    · rw [← e, ev]; exact hv

theorem good_one (d : UInt8) : goodB [d] = true ↔ 48 ≤ d.toNat ∧ d.toNat ≤ 57 := by
  rw [goodB_cons, digs_cons, val_cons, val_nil]
  constructor
  · rintro ⟨⟨h, _⟩, _⟩; exact h
  · intro h; exact ⟨⟨h, digs_nil⟩, fun _ => rfl, by omega⟩

/-! ### The first law's facts: a text and its last byte -/
theorem rel_nondigit (t : List UInt8) (c : UInt8) (hc : ¬ (48 ≤ c.toNat ∧ c.toNat ≤ 57)) : relOf (t ++ [c]) = none := by
  cases h : relOf (t ++ [c]) with
  | none => rfl
  | some n =>
    obtain ⟨m, e, hg, _⟩ := relOf_some.1 h
    exfalso
    rcases List.eq_nil_or_concat m with rfl | ⟨m', x, rfl⟩
    · rw [goodB_nil] at hg; cases hg
    · rw [List.concat_eq_append] at e hg
      have e2 : t ++ [c] = (49 :: 46 :: m') ++ [x] := by rw [e]; simp
      have ex : c = x := by
        have := (List.append_inj' e2 rfl).2
        simpa using this
      subst ex
      match m', hg with
      | [], hg => exact hc ((good_one c).1 hg)
      | a :: b, hg => exact hc ((good_snoc a b c).1 hg).2.2.1

theorem rel_first (c : UInt8) (hc : 48 ≤ c.toNat ∧ c.toNat ≤ 57) : relOf ([49, 46] ++ [c]) = some (c.toNat % 16) := by
  refine relOf_some.2 ⟨[c], rfl, (good_one c).2 hc, ?_⟩
  rw [val_cons, val_nil]
  omega

theorem rel_snoc_prefix {t m : List UInt8} {c : UInt8} (hc : 48 ≤ c.toNat ∧ c.toNat ≤ 57) (e : t ++ [c] = 49 :: 46 :: m) : ∃ m', t = 49 :: 46 :: m' ∧ m = m' ++ [c] := by
  match t, e with
  | [], e => simp at e
  | [x], e =>
    simp at e
    have := e.2.1
    subst this
    exact absurd hc (by decide)
  | x :: y :: m', e =>
    simp at e
    obtain ⟨rfl, rfl, rfl⟩ := e
    exact ⟨m', rfl, rfl⟩

theorem rel_none (t : List UInt8) (c : UInt8) (hc : 48 ≤ c.toNat ∧ c.toNat ≤ 57) (ht : relOf t = none) (h1 : t ≠ [49, 46]) : relOf (t ++ [c]) = none := by
  cases h : relOf (t ++ [c]) with
  | none => rfl
  | some n =>
    exfalso
    obtain ⟨m, e, hg, _⟩ := relOf_some.1 h
    obtain ⟨m', rfl, rfl⟩ := rel_snoc_prefix hc e
    match m', hg with
    | [], _ => exact h1 rfl
    | a :: b, hg =>
      have := relOf_some.2 ⟨a :: b, rfl, ((good_snoc a b c).1 hg).1, rfl⟩
      rw [ht] at this
      cases this

theorem rel_zero (t : List UInt8) (c : UInt8) (hc : 48 ≤ c.toNat ∧ c.toNat ≤ 57) (ht : relOf t = some 0) : relOf (t ++ [c]) = none := by
  cases h : relOf (t ++ [c]) with
  | none => rfl
  | some n =>
    exfalso
    obtain ⟨m, e, hg, _⟩ := relOf_some.1 h
    obtain ⟨m', rfl, rfl⟩ := rel_snoc_prefix hc e
    obtain ⟨m2, e2, hg2, hv⟩ := relOf_some.1 ht
    obtain rfl : m' = m2 := by simpa using e2
    match m', hg, hg2, hv with
    | [], _, hg2, _ => rw [goodB_nil] at hg2; cases hg2
    | a :: b, hg, _, hv =>
      have := ((good_snoc a b c).1 hg).2.1
      omega

theorem rel_big (t : List UInt8) (c : UInt8) (m : Nat) (hc : 48 ≤ c.toNat ∧ c.toNat ≤ 57) (ht : relOf t = some m) (hb : 9223372036854775808 ≤ 10 * m + c.toNat % 16) : relOf (t ++ [c]) = none := by
  cases h : relOf (t ++ [c]) with
  | none => rfl
  | some n =>
    exfalso
    obtain ⟨m1, e, hg, _⟩ := relOf_some.1 h
    obtain ⟨m', rfl, rfl⟩ := rel_snoc_prefix hc e
    obtain ⟨m2, e2, hg2, hv⟩ := relOf_some.1 ht
    obtain rfl : m' = m2 := by simpa using e2
    match m', hg, hg2, hv with
    | [], _, hg2, _ => rw [goodB_nil] at hg2; cases hg2
    | a :: b, hg, _, hv =>
      have := ((good_snoc a b c).1 hg).2.2.2
      omega

theorem rel_more (t : List UInt8) (c : UInt8) (m : Nat) (hc : 48 ≤ c.toNat ∧ c.toNat ≤ 57) (ht : relOf t = some m) (hp : 0 < m) (hb : 10 * m + c.toNat % 16 < 9223372036854775808) : relOf (t ++ [c]) = some (10 * m + c.toNat % 16) := by
  obtain ⟨m2, rfl, hg2, hv⟩ := relOf_some.1 ht
  match m2, hg2, hv with
  | [], hg2, _ => rw [goodB_nil] at hg2; cases hg2
  | a :: b, hg2, hv =>
    refine relOf_some.2 ⟨a :: b ++ [c], rfl, (good_snoc a b c).2 ⟨hg2, by omega, hc, by omega⟩, ?_⟩
    rw [val_snoc]
    omega

theorem rel_lt {s : List UInt8} {n : Nat} (h : relOf s = some n) : n < 9223372036854775808 := by
  obtain ⟨m, rfl, hg, rfl⟩ := relOf_some.1 h
  match m, hg with
  | [], hg => rw [goodB_nil] at hg; cases hg
  | a :: b, hg => exact ((goodB_cons a b).1 hg).2.2

/-! ### parseMinor's ways -/
/-- 'parseMinor' refuses by its first test. -/
def badHead (m : List UInt8) : Bool := match m with
  | [] => true
  | c :: r => decide (c.toNat < 48) || decide (57 < c.toNat) || (decide (c.toNat = 48) && !r.isEmpty)

theorem minor_badHead {m : List UInt8} (h : badHead m = true) : minorOf m = none := by
  rw [minorOf_none]
  cases hg : goodB m with
  | false => rfl
  | true =>
    exfalso
    match m, h, hg with
    | [], _, hg => rw [goodB_nil] at hg; cases hg
    | c :: r, h, hg =>
      obtain ⟨h1, h2, _⟩ := (goodB_cons c r).1 hg
      have h3 := (digs_cons.1 h1).1
      simp [badHead] at h
      rcases h with h | h
      · omega
      · exact h.2 (h2 h.1)

theorem minor_atoi {c : UInt8} {r : List UInt8} (h : badHead (c :: r) = false) : (∀ v, atoiAll (c :: r) = .ok v → ∃ n : Nat, v = n ∧ n < 9223372036854775808 ∧ minorOf (c :: r) = some n) ∧ ((∀ v, atoiAll (c :: r) ≠ .ok v) → minorOf (c :: r) = none) := by
  simp [badHead] at h
  obtain ⟨⟨h1, h2⟩, h3⟩ := h
  have hk := atoi_ok c r ⟨h1, h2⟩
  constructor
  · intro v hv
    obtain ⟨a, b, e⟩ := (hk v).1 hv
    exact ⟨val 0 (c :: r), e, b, minorOf_some.2 ⟨(goodB_cons c r).2 ⟨a, h3, b⟩, rfl⟩⟩
  · intro hno
    rw [minorOf_none]
    cases hg : goodB (c :: r) with
    | false => rfl
    | true =>
      obtain ⟨a, _, b⟩ := (goodB_cons c r).1 hg
      exact absurd ((hk _).2 ⟨a, b, rfl⟩) (hno _)

/-! ### The second law's facts -/
theorem val_acc_lt (a : List UInt8) : ∀ (b : List UInt8) (x y : Nat), a.length = b.length → Digs a → Digs b → x < y → val x a < val y b := by
  induction a with
  | nil =>
    intro b x y hl _ _ h
    match b, hl with
    | [], _ => exact h
  | cons c r ih =>
    intro b x y hl ha hb h
    match b, hl, hb with
    | d :: s, hl, hb =>
      rw [val_cons, val_cons]
      have h1 := digs_cons.1 ha
      have h2 := digs_cons.1 hb
      exact ih s _ _ (by simpa using hl) h1.2 h2.2 (by omega)

/-- Byte by byte. -/
def lexLt : List UInt8 → List UInt8 → Bool
  | c :: r, d :: s => if c.toNat = d.toNat then lexLt r s else decide (c.toNat < d.toNat)
  | _, _ => false

theorem val_lex (a : List UInt8) : ∀ (b : List UInt8) (x : Nat), a.length = b.length → Digs a → Digs b → (lexLt a b = decide (val x a < val x b)) ∧ (val x a = val x b → a = b) := by
  induction a with
  | nil =>
    intro b x hl _ _
    match b, hl with
    | [], _ => exact ⟨by simp [lexLt], fun _ => rfl⟩
  | cons c r ih =>
    intro b x hl ha hb
    match b, hl, hb with
    | d :: s, hl, hb =>
      rw [val_cons, val_cons]
      have h1 := digs_cons.1 ha
      have h2 := digs_cons.1 hb
      have hl' : r.length = s.length := by simpa using hl
      by_cases hcd : c.toNat = d.toNat
      · have e : c = d := UInt8.toNat_inj.1 hcd
        subst e
        obtain ⟨i1, i2⟩ := ih s (x * 10 + c.toNat % 16) hl' h1.2 h2.2
        refine ⟨?_, fun h => by rw [i2 h]⟩
        rw [← i1]
        simp [lexLt]
      · rcases Nat.lt_or_gt_of_ne hcd with hlt | hgt
        · have hv := val_acc_lt r s (x * 10 + c.toNat % 16) (x * 10 + d.toNat % 16) hl' h1.2 h2.2 (by omega)
          refine ⟨?_, fun h => by omega⟩
          simp [lexLt, hcd, hlt, hv]
        · have hv := val_acc_lt s r (x * 10 + d.toNat % 16) (x * 10 + c.toNat % 16) hl'.symm h2.2 h1.2 (by omega)
          refine ⟨?_, fun h => by omega⟩
          have n1 : ¬ c.toNat < d.toNat := by omega
          have n2 : ¬ val (x * 10 + c.toNat % 16) r < val (x * 10 + d.toNat % 16) s := by omega
          simp [lexLt, hcd, n1, n2]

theorem good_digs {m : List UInt8} (h : goodB m = true) : Digs m := by
  match m, h with
  | [], h => rw [goodB_nil] at h; cases h
  | a :: b, h => exact ((goodB_cons a b).1 h).1

theorem good_len_lt {a b : List UInt8} (ha : goodB a = true) (hb : goodB b = true) (hl : a.length < b.length) : val 0 a < val 0 b := by
  have ha0 : 0 < a.length := by
    match a, ha with
    | [], ha => rw [goodB_nil] at ha; cases ha
    | x :: y, _ => simp
  have e : b = b.take (b.length - a.length) ++ b.drop (b.length - a.length) := (List.take_append_drop _ _).symm
  have hdb := good_digs hb
  have hpos : 0 < val 0 (b.take (b.length - a.length)) := by
    match b, hb, hl with
    | c :: r, hb, hl =>
      obtain ⟨h1, h2, _⟩ := (goodB_cons c r).1 hb
      have h48 : c.toNat ≠ 48 := fun hh => by
        have e1 : (c :: r).length = 1 := by rw [h2 hh]; rfl
        omega
      have hc := (digs_cons.1 h1).1
      obtain ⟨k, hk⟩ : ∃ k, (c :: r).length - a.length = k + 1 := ⟨(c :: r).length - a.length - 1, by omega⟩
      rw [hk, List.take_succ_cons, val_cons]
      have := val_le (r.take k) (0 * 10 + c.toNat % 16)
      omega
  rw [e, val_append]
  refine val_acc_lt a _ _ _ ?_ (good_digs ha) ?_ hpos
  · rw [List.length_drop]; omega
  · intro c hc
    exact hdb c (List.mem_of_mem_drop hc)

/-- What two accepted texts' numbers have to do with the texts. -/
theorem rel_order {a b : List UInt8} {x y : Nat} (ha : relOf a = some x) (hb : relOf b = some y) :
    (decide (x < y) = if a.length = b.length then lexLt a b else decide (a.length < b.length)) ∧ (decide (x = y) = decide (a = b)) := by
  obtain ⟨m, rfl, hm, rfl⟩ := relOf_some.1 ha
  obtain ⟨k, rfl, hk, rfl⟩ := relOf_some.1 hb
  by_cases hl : m.length = k.length
  · obtain ⟨h1, h2⟩ := val_lex m k 0 hl (good_digs hm) (good_digs hk)
    have e1 : lexLt (49 :: 46 :: m) (49 :: 46 :: k) = lexLt m k := by simp [lexLt]
    rw [if_pos (by simpa using hl), e1, h1]
    refine ⟨rfl, ?_⟩
    by_cases he : m = k
    · subst he; simp
    · have : ¬ val 0 m = val 0 k := fun h => he (h2 h)
      simp [he, this]
  · rw [if_neg (by simpa using hl)]
    have hne : ¬ m = k := fun h => hl (by rw [h])
    rcases Nat.lt_or_gt_of_ne hl with h | h
    · have := good_len_lt hm hk h
      refine ⟨?_, ?_⟩
      · have h2 : m.length + 1 + 1 < k.length + 1 + 1 := by omega
        simp [this, h2]
      · have h3 : ¬ val 0 m = val 0 k := by omega
        simp [h3, hne]
    · have := good_len_lt hk hm h
      refine ⟨?_, ?_⟩
      · have h2 : ¬ m.length < k.length := by omega
        have h4 : ¬ val 0 m < val 0 k := by omega
        simp [h2, h4]
      · have h3 : ¬ val 0 m = val 0 k := by omega
        simp [h3, hne]

/-- A longer prefix has a number of at least ten; a prefix of one digit has not. -/
theorem pre_split {p : List UInt8} (hd : Digs p) (hz : ∀ c r, p = c :: r → c.toNat = 48 → r = []) (hne : p ≠ []) :
    (val 0 p < 10 ∧ p.length = 1) ∨ (∃ q c, p = q ++ [c] ∧ q ≠ [] ∧ 10 ≤ val 0 p ∧ val 0 p / 10 = val 0 q ∧ Digs q ∧ (∀ d r, q = d :: r → d.toNat = 48 → r = [])) := by
  rcases List.eq_nil_or_concat p with rfl | ⟨q, c, rfl⟩
  · exact absurd rfl hne
  · rw [List.concat_eq_append] at *
    have h1 := digs_snoc.1 hd
    rw [val_snoc]
    match q, h1 with
    | [], h1 =>
      left
      rw [val_nil]
      exact ⟨by omega, rfl⟩
    | d :: r, h1 =>
      right
      have h48 : d.toNat ≠ 48 := fun hh => by
        have := hz d (r ++ [c]) rfl hh
        simp at this
      have hpos := val_le r (0 * 10 + d.toNat % 16)
      rw [← val_cons] at hpos
      have h2 := (digs_cons.1 h1.1).1
      refine ⟨d :: r, c, rfl, by simp, by omega, by omega, h1.1, ?_⟩
      intro x y e hh
      injection e with e1 e2
      subst e1
      exact absurd hh h48

theorem good_zero {m : List UInt8} (h : goodB m = true) : Digs m ∧ (∀ c r, m = c :: r → c.toNat = 48 → r = []) ∧ m ≠ [] := by
  match m, h with
  | [], h => rw [goodB_nil] at h; cases h
  | a :: b, h =>
    obtain ⟨h1, h2, _⟩ := (goodB_cons a b).1 h
    refine ⟨h1, ?_, by simp⟩
    intro c r e hh
    injection e with e1 e2
    subst e1 e2
    exact h2 hh

/-- The last byte is the number's last digit. -/
theorem good_last {m : List UInt8} (h : goodB m = true) : ∃ q c, m = q ++ [c] ∧ c.toNat = 48 + val 0 m % 10 := by
  obtain ⟨hd, _, hne⟩ := good_zero h
  rcases List.eq_nil_or_concat m with rfl | ⟨q, c, rfl⟩
  · exact absurd rfl hne
  · rw [List.concat_eq_append] at *
    have h1 := digs_snoc.1 hd
    refine ⟨q, c, rfl, ?_⟩
    rw [val_snoc]
    omega

end Go.Proofs.Qxb6628947aFmt.Rel
