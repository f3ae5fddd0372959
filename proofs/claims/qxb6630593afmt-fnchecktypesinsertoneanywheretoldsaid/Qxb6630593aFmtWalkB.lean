/-
  THE WALKS of the two zzBytes; make and copy of a row of strings (seat b6630593aF).
-/
import Derived.Test.Qxb6630593aFmtWalkA
import Derived.Laws.IdiomCopy
import Derived.Laws.MakeOwn
namespace Go.Proofs.Qxb6630593aFmt
open Go.RowKit Go.Extern.Stop Go.Stop Go.Extern

set_option maxHeartbeats 1000000 in
set_option maxRecDepth 100000 in
theorem bytes5_some (p : Option Addr) (n c : Nat) (cut : Int) (s : Nat → ByteArray) (w : World) (hn : n ≤ maxLen) (HS : Hid (ReadsS w p n s)) :
    Calls Tryf.prog 5 #[.slice p n c, .int .i64 cut] w fun e w' => (e = .returned (.bool false) ∨ e = .returned (.bool true) ∧ Hid (n ≤ 1048576)) ∧ w' = w := by
  unfold maxLen at hn
  by_cases hbig : 1048576 < n
  · have h1 : 1048576 < (n : Int) := by omega
    go_enter Tryf.func5, Tryf.ntmps5
    go_wp2
    go_ret
    exact ⟨Or.inl rfl, rfl⟩
  · have hn2 : n ≤ 1048576 := by omega
    clear hn hbig
    go_enter Tryf.func5, Tryf.ntmps5
    go_wp2
    go_loop [5, 6] (fun t i => ∃ k y : Nat, k ≤ n ∧ y ≤ 1048576 ∧ i = .int .i64 (k : Int) ∧ t = .int .i64 (y : Int)) (fun _ i => n - (intOf i).toNat)
    case atStart => exact ⟨0, n, Nat.zero_le _, hn2, rfl, rfl⟩
    case round =>
      obtain ⟨k, y, hk, hy, rfl, rfl⟩ := hrel
      by_cases hlt : k < n
      · rcases HS.out with h0 | ⟨b, o, rfl, hc⟩
        · omega
        have hck := hc k hlt
        clear hc
        generalize s k = x at *
        by_cases hx : 1048576 < x.size
        · have h1 : 1048576 < (x.size : Int) := by omega
          go_wp2
          go_ret
          exact ⟨Or.inl rfl, rfl⟩
        · by_cases hs : 1048576 < y + x.size
          · have h1 : 1048576 < (y : Int) + (x.size : Int) := by omega
            go_wp2
            go_ret
            exact ⟨Or.inl rfl, rfl⟩
          · go_wp2
            go_round
            case rel => exact ⟨k + 1, y + x.size, by omega, by omega, by go_num, by go_num⟩
            case measure => simp [intOf]; omega
      · go_wp2
        go_ret
        exact ⟨Or.inr ⟨rfl, True.intro⟩, rfl⟩
set_option maxHeartbeats 1000000 in
set_option maxRecDepth 100000 in
theorem bytes8_some (p : Option Addr) (n c : Nat) (x0 : ByteArray) (cut : Int) (s : Nat → ByteArray) (w : World) (hn : n ≤ maxLen) (hx0 : x0.size ≤ maxLen) (HS : Hid (ReadsS w p n s)) :
    Calls Tryf.prog 8 #[.slice p n c, .string x0, .int .i64 cut] w fun e w' => (e = .returned (.bool false) ∨ e = .returned (.bool true) ∧ Hid (n ≤ 1048576 ∧ x0.size ≤ 1048576)) ∧ w' = w := by
  unfold maxLen at hn hx0
  by_cases hbig : 1048576 < n
  · have h1 : 1048576 < (n : Int) := by omega
    go_enter Tryf.func8, Tryf.ntmps8
    go_wp2
    go_ret
    exact ⟨Or.inl rfl, rfl⟩
  · have hn2 : n ≤ 1048576 := by omega
    clear hn hbig
    go_enter Tryf.func8, Tryf.ntmps8
    go_wp2
    go_loop [7, 8] (fun t i => ∃ k y : Nat, k ≤ n ∧ y ≤ 1048576 ∧ i = .int .i64 (k : Int) ∧ t = .int .i64 (y : Int)) (fun _ i => n - (intOf i).toNat)
    case atStart => exact ⟨0, n, Nat.zero_le _, hn2, rfl, rfl⟩
    case round =>
      obtain ⟨k, y, hk, hy, rfl, rfl⟩ := hrel
      by_cases hlt : k < n
      · rcases HS.out with h0 | ⟨b, o, rfl, hc⟩
        · omega
        have hck := hc k hlt
        clear hc
        generalize s k = x at *
        by_cases hx : 1048576 < x.size
        · have h1 : 1048576 < (x.size : Int) := by omega
          go_wp2
          go_ret
          exact ⟨Or.inl rfl, rfl⟩
        · by_cases hs : 1048576 < y + x.size
          · have h1 : 1048576 < (y : Int) + (x.size : Int) := by omega
            go_wp2
            go_ret
            exact ⟨Or.inl rfl, rfl⟩
          · go_wp2
            go_round
            case rel => exact ⟨k + 1, y + x.size, by omega, by omega, by go_num, by go_num⟩
            case measure => simp [intOf]; omega
      · by_cases hx : 1048576 < x0.size
        · have h1 : 1048576 < (x0.size : Int) := by omega
          go_wp2
          go_ret
          exact ⟨Or.inl rfl, rfl⟩
        · have hx2 : x0.size ≤ 1048576 := by omega
          by_cases hs : 1048576 < y + x0.size
          · have h1 : 1048576 < (y : Int) + (x0.size : Int) := by omega
            go_wp2
            go_ret
            exact ⟨Or.inl rfl, rfl⟩
          · go_wp2
            go_ret
            exact ⟨Or.inr ⟨rfl, True.intro⟩, rfl⟩

/-! ### make([]string, n); copy -/
theorem info9 : (Tryf.prog.info? 9).map (fun i => (i.zero, i.size, i.bytes)) = some (some (.string ⟨#[]⟩), 1, 16) := by kernel_rfl

theorem make_run (n : Nat) (hn : n ≤ 1048576) (w : World) : (Instr.makeSlice 22 (.int .i64 (n : Int)) (.int .i64 (n : Int))).run Tryf.prog w = .ok (.slice (some ⟨w.heap.size, 0, none⟩) n n) (w.alloc (.cells (madeCells #[.string ⟨#[]⟩] n) 9)) := by
  obtain ⟨i, hi, h2⟩ := Option.map_eq_some_iff.1 info9
  simp only [Prod.mk.injEq] at h2
  obtain ⟨hz, hs, hb⟩ := h2
  have h := run_make (P := Tryf.prog) w 22 9 i _ Tryf.underlying22 hi hz .i64 .i64 (n : Int) (n : Int) (by omega) (Int.le_refl _) (by rw [hb]; omega) (by omega)
  rw [hs] at h
  simpa [Value.cells] using h

/-- What 'zzc := make([]string, len(types)); copy(zzc, types)' leaves. -/
theorem copied (a : Addr) (n c : Nat) (s : Nat → ByteArray) (w : World) (HS : ReadsS w (some a) n s) :
    ∃ w1, (∀ ty, (Builtin.copy_ #[22, 22] ty #[.slice (some ⟨w.heap.size, 0, none⟩) n n, .slice (some a) n c]).run Tryf.prog (w.alloc (.cells (madeCells #[.string ⟨#[]⟩] n) 9)) = .ok (goInt n) w1) ∧
      (∀ j, j < n → w1.cell? ⟨w.heap.size, 0 + j, none⟩ = some (.string (s j))) ∧ Below w.heap.size w w1 := by
  have hlen : ((List.range n).map fun j => Value.string (s j)).length = n := by simp
  have hmade : ∀ j, j < n → (w.alloc (.cells (madeCells #[.string ⟨#[]⟩] n) 9)).cell? ⟨w.heap.size, 0 + j, none⟩ = some (.string ⟨#[]⟩) := by
    intro j hj
    rw [World.cell?_alloc_at _ _ _ _ rfl, Nat.zero_add]
    have := toList_madeCells_one (.string ⟨#[]⟩) n
    rw [← Array.getElem?_toList, this]
    simp [hj]
  refine ⟨(w.alloc (.cells (madeCells #[.string ⟨#[]⟩] n) 9)).setCells w.heap.size 0 ((List.range n).map fun j => Value.string (s j)), fun ty => ?_, ?_, ?_⟩
  · have h := run_copy_cells (P := Tryf.prog) (w.alloc (.cells (madeCells #[.string ⟨#[]⟩] n) 9)) 22 22 ty 9 w.heap.size 0 n n a n c ((List.range n).map fun j => Value.string (s j)) Tryf.underlying22 (by kernel_rfl) (by rw [hlen]; exact (Nat.min_self n).symm) ?_ ?_ ?_ ?_
    · rw [hlen] at h; exact h
    · intro j v hj
      rcases HS with h0 | ⟨b, o, hp, hc⟩
      · subst h0; simp at hj
      · have hjn : j < n := by
          rcases Nat.lt_or_ge j n with h | h
          · exact h
          · rw [List.getElem?_eq_none (by rw [hlen]; exact h)] at hj; cases hj
        injection hp with hp
        subst hp
        have hv : v = .string (s j) := by
          rw [List.getElem?_map, List.getElem?_range hjn] at hj
          simpa using hj.symm
        rw [hv, Go.WideShapes.add_plain, World.cell?_alloc_past _ _ _ (Lib.lt_of_cell (hc j hjn))]
        exact hc j hjn
    · intro j hj
      rw [hmade j (by rw [hlen] at hj; exact hj)]; rfl
    · intro j _
      exact World.frozen?_alloc_at _ _ _ _ rfl
    · intro v hv
      obtain ⟨j, _, rfl⟩ := List.mem_map.1 hv
      rfl
  · intro j hj
    have h := World.cell?_setCells_in w.heap.size ((List.range n).map fun j => Value.string (s j)) 0 (w.alloc (.cells (madeCells #[.string ⟨#[]⟩] n) 9)) (fun i hi => by rw [hmade i (by rw [hlen] at hi; exact hi)]; rfl) j (by rw [hlen]; exact hj)
    rw [h]
    simp
  · have hset : ∀ (vs : List Value) (o : Nat) (w' : World), Below w.heap.size w w' → Below w.heap.size w (w'.setCells w.heap.size o vs) := by
      intro vs
      induction vs with
      | nil => intro o w' h; exact h
      | cons v r ih => intro o w' h; exact ih (o + 1) _ (h.setCell (Nat.le_refl _) _)
    exact hset _ _ _ ((Below.refl _ _).alloc (Nat.le_refl _) _)
end Go.Proofs.Qxb6630593aFmt
