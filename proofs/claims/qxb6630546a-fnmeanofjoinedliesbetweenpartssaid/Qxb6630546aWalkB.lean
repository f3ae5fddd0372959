/-
  THE WALK of zzBuildTxs (seat b6630546a).
-/
import Derived.Test.Qxb6630546aWalkA
namespace Go.Proofs.Qxb6630546a
open Go.RowKit

/-- Which transactions are confirmed, and with what. -/
def conf (n m : Nat) (z : Nat → Int) (h : Nat → Bool) (i : Nat) : Option Int := if decide (i < n) && (decide (i < m) && h i) then some (z i) else none

theorem info38 : (Try.prog.info? 38).map (fun i => (i.zero, i.size, i.bytes)) = some (some (.agg #[.pointer none, .pointer none, .pointer none, .pointer none]), 4, 32) := by kernel_rfl

/-- The new row of n transactions, each with four nil pointers. -/
def rowN (n : Nat) : Array Value := madeCells #[.pointer none, .pointer none, .pointer none, .pointer none] (n * 4)
theorem rowN_at (n j : Nat) (h : j < n * 4) : (rowN n)[j]? = some (.pointer none) := by
  have h4 : j % 4 < 4 := Nat.mod_lt _ (by decide)
  have e : ∀ r, r < 4 → ([Value.pointer none, .pointer none, .pointer none, .pointer none] : List Value)[r]?.getD default = .pointer none := by
    intro r hr
    match r, hr with
    | 0, _ => rfl
    | 1, _ => rfl
    | 2, _ => rfl
    | 3, _ => rfl
  simp [rowN, madeCells, h]
  exact e _ h4

theorem make_run (n : Nat) (hn : n ≤ 65536) (w : World) : (Instr.makeSlice 27 (.int .i64 (n : Int)) (.int .i64 (n : Int))).run Try.prog w = .ok (.slice (some ⟨w.heap.size, 0, none⟩) n n) (w.alloc (.cells (rowN n) 38)) := by
  obtain ⟨i, hi, h2⟩ := Option.map_eq_some_iff.1 info38
  simp only [Prod.mk.injEq] at h2
  obtain ⟨hz, hs, hb⟩ := h2
  have h := run_make (P := Try.prog) w 27 38 i _ Try.underlying27 hi hz .i64 .i64 (n : Int) (n : Int) (by omega) (Int.le_refl _) (by rw [hb]; omega) (by omega)
  rw [hs] at h
  simpa [rowN, Value.cells] using h

/-- What holds when the first k transactions have been looked at. -/
def Built (wr : World) (T n k : Nat) (f : Nat → Option Int) : Prop :=
  (∀ j, j < k → TxAt wr T 0 j (f j)) ∧ (∀ j, k ≤ j → j < n → TxAt wr T 0 j none) ∧ (∀ j, wr.frozen? ⟨T, j, none⟩ = false)

theorem Built.start (w : World) (n : Nat) (f : Nat → Option Int) : Built (w.alloc (.cells (rowN n) 38)) w.heap.size n 0 f := by
  refine ⟨fun j hj => by omega, fun j _ hj => ?_, fun j => World.frozen?_alloc_at _ _ _ _ rfl⟩
  have h : ∀ r, r < n * 4 → (w.alloc (.cells (rowN n) 38)).cell? ⟨w.heap.size, r, none⟩ = some (.pointer none) := fun r hr => by
    rw [World.cell?_alloc_at _ _ _ _ rfl]; exact rowN_at n r hr
  exact ⟨h _ (by omega), h _ (by omega), h _ (by omega), h _ (by omega)⟩

theorem Built.skip {wr : World} {T n k : Nat} {f : Nat → Option Int} (h : Built wr T n k f) (hk : k < n) (hf : f k = none) : Built wr T n (k + 1) f := by
  obtain ⟨h1, h2, h3⟩ := h
  refine ⟨fun j hj => ?_, fun j hj hn => h2 j (by omega) hn, h3⟩
  by_cases hjk : j < k
  · exact h1 j hjk
  · obtain rfl : j = k := by omega
    rw [hf]
    exact h2 j (Nat.le_refl _) hk

theorem Built.put {wr : World} {T n k : Nat} {f : Nat → Option Int} {v : Int} (h : Built wr T n k f) (hk : k < n) (hf : f k = some v) (hT : T < wr.heap.size) :
    Built ((wr.setCell ⟨T, k * 4, none⟩ (.pointer (some ⟨wr.heap.size, 0, none⟩))).alloc (.cells #[.int .i64 v] 30)) T n (k + 1) f := by
  obtain ⟨h1, h2, h3⟩ := h
  have hold := h2 k (Nat.le_refl _) hk
  have h0 : wr.cell? ⟨T, k * 4, none⟩ = some (.pointer none) := by simpa using hold.1
  -- a cell that is another, in an old block
  have oth : ∀ (B r : Nat) (u : Value), (⟨B, r, none⟩ : Addr) ≠ ⟨T, k * 4, none⟩ → wr.cell? ⟨B, r, none⟩ = some u → ((wr.setCell ⟨T, k * 4, none⟩ (.pointer (some ⟨wr.heap.size, 0, none⟩))).alloc (.cells #[.int .i64 v] 30)).cell? ⟨B, r, none⟩ = some u := by
    intro B r u hne hc
    have hB := Lib.lt_of_cell hc
    rw [World.cell?_alloc_past _ _ _ (by simpa using hB), World.cell?_setCell_other (h := Ne.symm hne)]
    exact hc
  have tx : ∀ j o, j ≠ k → TxAt wr T 0 j o → TxAt ((wr.setCell ⟨T, k * 4, none⟩ (.pointer (some ⟨wr.heap.size, 0, none⟩))).alloc (.cells #[.int .i64 v] 30)) T 0 j o := by
    intro j o hj ht
    obtain ⟨g0, g1, g2, g3⟩ := ht
    refine ⟨?_, oth _ _ _ (by intro e; injection e with e1 e2; omega) g1, oth _ _ _ (by intro e; injection e with e1 e2; omega) g2, oth _ _ _ (by intro e; injection e with e1 e2; omega) g3⟩
    cases o with
    | none => exact oth _ _ _ (by intro e; injection e with e1 e2; omega) g0
    | some x =>
      obtain ⟨b, hb, c1, c2⟩ := g0
      exact ⟨b, hb, oth _ _ _ (by intro e; injection e with e1 e2; omega) c1, oth _ _ _ (by intro e; injection e with e1 e2; omega) c2⟩
  refine ⟨fun j hj => ?_, fun j hj hn => tx j none (by omega) (h2 j (by omega) hn), fun j => ?_⟩
  · by_cases hjk : j < k
    · exact tx j _ (by omega) (h1 j hjk)
    · obtain rfl : j = k := by omega
      obtain ⟨_, g1, g2, g3⟩ := hold
      rw [hf]
      refine ⟨⟨wr.heap.size, by omega, ?_, ?_⟩, oth _ _ _ (by intro e; injection e with e1 e2; omega) g1, oth _ _ _ (by intro e; injection e with e1 e2; omega) g2, oth _ _ _ (by intro e; injection e with e1 e2; omega) g3⟩
      · rw [World.cell?_alloc_past _ _ _ (by simpa using hT), Nat.zero_add, World.cell?_setCell_same (h := h0)]
      · rw [World.cell?_alloc_at _ _ _ _ (by simp)]; rfl
  · rw [World.frozen?_alloc_past _ _ _ (by simpa using hT), World.frozen?_setCell]
    exact h3 j

theorem conf_none_has {n m k : Nat} {z : Nat → Int} {h : Nat → Bool} (hx : h k = false) : conf n m z h k = none := by simp [conf, hx]
theorem conf_none_len {n m k : Nat} {z : Nat → Int} {h : Nat → Bool} (hx : ¬ k < m) : conf n m z h k = none := by simp [conf, hx]
theorem conf_some {n m k : Nat} {z : Nat → Int} {h : Nat → Bool} (h1 : k < n) (h2 : k < m) (hx : h k = true) : conf n m z h k = some (z k) := by simp [conf, h1, h2, hx]

set_option maxHeartbeats 1000000 in
theorem build_any (p q : Option Addr) (n c m d : Nat) (z : Nat → Int) (h : Nat → Bool) (w : World) (hn : n ≤ 65536) (HZ : Hid (ReadsI w p n z)) (HB : Hid (ReadsB w q m h)) :
    Calls Try.prog 7 #[.slice p n c, .slice q m d] w fun e w' => e = .returned (.slice (some ⟨w.heap.size, 0, none⟩) n n) ∧ Hid (∀ i, i < n → TxAt w' w.heap.size 0 i (conf n m z h i)) ∧ Below w.heap.size w w' := by
  have hmk := make_run n hn
  go_enter Try.func7, Try.ntmps7
  go_wp2
  go_loopw [6] (fun i wr => ∃ k : Nat, k ≤ n ∧ i = .int .i64 (k : Int) ∧ w.heap.size < wr.heap.size ∧ Hid (Built wr w.heap.size n k (conf n m z h)) ∧ Below w.heap.size w wr) (fun i _ => n - (intOf i).toNat)
  case atStart => exact ⟨0, Nat.zero_le _, rfl, by simp, Built.start w n _, (Below.refl _ _).alloc (Nat.le_refl _) _⟩
  case round =>
    obtain ⟨k, hk, rfl, hsz, HI, hbel⟩ := hrel
    by_cases hlt : k < n
    · rcases HZ.out.up hbel with h0 | ⟨b, o, rfl, hc⟩
      · omega
      · have hck := hc k hlt
        clear hc
        obtain ⟨v, hv⟩ : ∃ v, v = z k := ⟨_, rfl⟩
        rw [← hv] at hck
        have HV : Hid (v = z k) := hv
        clear hv
        by_cases hkm : k < m
        · rcases HB.out.up hbel with h0 | ⟨b2, o2, rfl, hc2⟩
          · omega
          · have hbk := hc2 k hkm
            have hT := HI.out.2.1 k (Nat.le_refl _) hlt
            simp only [TxAt, Nat.zero_add] at hT
            obtain ⟨t0, t1, t2, t3⟩ := hT
            have hfr := HI.out.2.2 (k * 4)
            clear hc2
            cases hx : h k
            · rw [hx] at hbk
              have HX : Hid (h k = false) := hx
              clear hx
              go_wp2
              go_roundw
              case rel => exact ⟨k + 1, by omega, by go_num, hsz, HI.out.skip hlt (conf_none_has HX.out), hbel⟩
              case measure => simp [intOf]; omega
            · rw [hx] at hbk
              have HX : Hid (h k = true) := hx
              clear hx
              go_wp2
              go_roundw
              case rel => exact ⟨k + 1, by omega, by go_num, by simp; omega, HI.out.put hlt (by rw [conf_some hlt hkm HX.out, HV.out]) hsz, (hbel.setCell (Nat.le_refl _) _).alloc (by simp; omega) _⟩
              case measure => simp [intOf]; omega
        · have hkm' : ¬ (k : Int) < (m : Int) := by omega
          go_wp2
          go_roundw
          case rel => exact ⟨k + 1, by omega, by go_num, hsz, HI.out.skip hlt (conf_none_len hkm), hbel⟩
          case measure => simp [intOf]; omega
    · go_wp2
      go_ret
      obtain rfl : k = n := by omega
      exact ⟨rfl, HI.out.1, hbel⟩
end Go.Proofs.Qxb6630546a
