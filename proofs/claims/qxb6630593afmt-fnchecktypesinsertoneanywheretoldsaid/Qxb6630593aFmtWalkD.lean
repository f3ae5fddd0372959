/-
  THE WALK of FnCheckTypesInsertOneAnywhere (seat b6630593aF).
-/
import Derived.Test.Qxb6630593aFmtWalkC
import Derived.OwnWalk
namespace Go.Proofs.Qxb6630593aFmt
open Go.RowKit Go.Extern.Stop Go.Stop Go.Extern

/-- The list with x put in at place K. -/
def insF (s : Nat → ByteArray) (x : ByteArray) (K : Nat) (j : Nat) : ByteArray := if j < K then s j else if j = K then x else s (j - 1)
theorem ins_lt {s : Nat → ByteArray} {x : ByteArray} {K j : Nat} (h : j < K) : insF s x K j = s j := by simp [insF, h]
theorem ins_at (s : Nat → ByteArray) (x : ByteArray) (K : Nat) : insF s x K K = x := by simp [insF]
theorem ins_gt {s : Nat → ByteArray} {x : ByteArray} {K j : Nat} (h : K ≤ j) : insF s x K (j + 1) = s j := by
  have h1 : ¬ j + 1 < K := by omega
  have h2 : ¬ j + 1 = K := by omega
  simp [insF, h1, h2]

theorem ins_all (s : Nat → ByteArray) (x : ByteArray) (K n : Nat) (h : K ≤ n) : Nm.allFit (insF s x K) 0 (n + 1) = (Nm.allFit s 0 n && Nm.fits x) := by
  have e1 : n + 1 = K + (1 + (n - K)) := by omega
  rw [e1, Nm.all_append, Nm.all_append, Nat.zero_add]
  have h1 : Nm.allFit (insF s x K) 0 K = Nm.allFit s 0 K := Nm.all_congr (fun i hi => by rw [Nat.zero_add]; exact ins_lt hi)
  have h2 : Nm.allFit (insF s x K) (K + 1) (n - K) = Nm.allFit s K (n - K) := Nm.all_congr (fun i _ => by rw [show K + 1 + i = K + i + 1 by omega]; exact ins_gt (by omega))
  have h3 : Nm.allFit (insF s x K) K 1 = Nm.fits x := by
    rw [Nm.all_succ, Nm.all_zero, Nat.add_zero, ins_at]; rfl
  have h4 := Nm.all_append s 0 K (n - K)
  rw [show K + (n - K) = n by omega, Nat.zero_add] at h4
  rw [h1, h2, h3, h4]
  cases Nm.allFit s 0 K <;> cases Nm.fits x <;> simp

/-- The first m of the new list, as cells. -/
def cellsOf (f : Nat → ByteArray) (m : Nat) : List Value := (List.range m).map fun j => .string (f j)
theorem cells_len (f : Nat → ByteArray) (m : Nat) : (cellsOf f m).length = m := by simp [cellsOf]
theorem cells_succ (f : Nat → ByteArray) (m : Nat) : cellsOf f m ++ [.string (f m)] = cellsOf f (m + 1) := by simp [cellsOf, List.range_succ]

theorem owns_reads {w : World} {base : Nat} {v : Value} {m : Nat} {f : Nat → ByteArray} (h : w.ownsRow base 9 1 v m (cellsOf f m)) (hm : m ≠ 0) : ∃ g cap, v = .slice (some ⟨g, 0, none⟩) m cap ∧ ∀ j, j < m → w.cell? ⟨g, 0 + j, none⟩ = some (.string (f j)) := by
  have hc := h
  rcases h.2 with ⟨_, h0⟩ | ⟨g, cap, cur, rfl, _⟩
  · exact absurd h0 hm
  · refine ⟨g, cap, rfl, fun j hj => ?_⟩
    have := hc.cells (g := g) rfl j (.string (f j)) (by simp [cellsOf, hj])
    rw [Go.WideShapes.add_plain] at this
    exact this

theorem below_grown {B : Nat} {W w w' : World} {row : Option Nat} (hb : Below B W w) (hB : B ≤ w.heap.size) (hg : w.grownBy w' row) (hr : ∀ k, row = some k → B ≤ k) : Below B W w' :=
  hb.trans ⟨hg.os, hg.tape, hg.output, hg.size, fun k hk => hg.block k (by omega) (fun e => by have := hr k e.symm; omega)⟩

theorem makeIns_run (n : Nat) (hn : n ≤ 1048576) (w : World) : (Instr.makeSlice 22 (.int .i64 0) (.int .i64 ((n : Int) + 1))).run Tryf.prog w = .ok (.slice (some ⟨w.heap.size, 0, none⟩) 0 (n + 1)) (w.alloc (.cells (madeCells #[.string ⟨#[]⟩] (n + 1)) 9)) := by
  obtain ⟨i, hi, h2⟩ := Option.map_eq_some_iff.1 info9
  simp only [Prod.mk.injEq] at h2
  obtain ⟨hz, hs, hb⟩ := h2
  have h := run_make (P := Tryf.prog) w 22 9 i _ Tryf.underlying22 hi hz .i64 .i64 0 ((n : Int) + 1) (Int.le_refl _) (by omega) (by rw [hb]; omega) (by omega)
  rw [hs, show ((n : Int) + 1).toNat = n + 1 by omega] at h
  simpa [Value.cells] using h

set_option maxHeartbeats 2000000 in
set_option maxRecDepth 100000 in
theorem lawI_some (F : Interp) (a : Addr) (n c : Nat) (x : ByteArray) (cut : Int) (s : Nat → ByteArray) (w : World) (hF : F.answers w.tape) (hn : n ≤ maxLen) (hx : x.size ≤ maxLen) (HS : Hid (ReadsS w (some a) n s)) :
    Calls Tryf.prog 4 #[.slice (some a) n c, .string x, .int .i64 cut] w fun e w' => e = .returned (.bool true) ∧ Below w.heap.size w w' := by
  have hnil := fun wx => run_neq_slice_nil_any (P := Tryf.prog) wx 22 9 (some a) n c 0 0 Tryf.underlying22
  go_enter Tryf.func4, Tryf.ntmps4
  go_wp2_with (go_at_call 8; fail)
  refine (bytes8_some (some a) n c x cut s _ hn hx HS).mono ?_
  rintro e w' ⟨rfl | ⟨rfl, HN⟩, rfl⟩
  · go_wp2
    go_ret
    exact ⟨rfl, Below.refl _ _⟩
  have hn2 : n ≤ 1048576 := HN.out.1
  have hx2 : x.size ≤ 1048576 := HN.out.2
  clear hn hx HN
  have hmk := make_run n hn2
  obtain ⟨w1, hcp, hc1, hb1⟩ := copied a n c s _ HS.out
  have HC : Hid (∀ j, j < n → w1.cell? ⟨w'.heap.size, 0 + j, none⟩ = some (.string (s j))) := hc1
  have HF1 : Hid (F.answers w1.tape) := by
    show F.answers w1.tape
    rw [hb1.tape]; exact hF
  clear hc1 HS hF
  go_wp2
  go_loop [8, 9] (fun t i => ∃ k y : Nat, k ≤ n ∧ y ≤ 2097152 ∧ 16 * k ≤ y ∧ i = .int .i64 (k : Int) ∧ t = .int .i64 (y : Int)) (fun _ i => n - (intOf i).toNat)
  case atStart => exact ⟨0, 16 + x.size, Nat.zero_le _, by omega, by omega, rfl, by go_num⟩
  case round =>
    obtain ⟨k, y, hk, hy, hky, rfl, rfl⟩ := hrel
    by_cases hlt : k < n
    · have hck := HC.out k hlt
      rw [Nat.zero_add] at hck
      generalize s k = z at *
      by_cases hz : 1048576 < z.size
      · have h1 : 1048576 < (z.size : Int) := by omega
        go_wp2
        go_ret
        exact ⟨rfl, hb1⟩
      · by_cases hs : 1048576 < y + (16 + z.size)
        · have h1 : 1048576 < (y : Int) + (16 + (z.size : Int)) := by omega
          go_wp2
          go_ret
          exact ⟨rfl, hb1⟩
        · go_wp2
          go_round
          case rel => exact ⟨k + 1, y + (16 + z.size), by omega, by omega, by omega, by go_num, by go_num⟩
          case measure => simp [intOf]; omega
    · clear hcp hmk hnil
      have hn3 : n ≤ 131072 := by omega
      clear hky
      have hk1 : ¬ (k : Int) < (n : Int) := by omega
      by_cases h1 : cut < 0
      · go_wp2
        go_ret
        exact ⟨rfl, hb1⟩
      by_cases h2 : (n : Int) < cut
      · go_wp2
        go_ret
        exact ⟨rfl, hb1⟩
      obtain ⟨K, rfl⟩ := Int.eq_ofNat_of_zero_le (show 0 ≤ cut by omega)
      have hK : K ≤ n := by omega
      clear h1 h2
      have hmi := makeIns_run n hn2
      obtain ⟨i0, hi, hz0, hz1, hz2⟩ := info_parts info9
      have HI : Hid (Tryf.prog.info? 9 = some i0 ∧ i0.zero = some (.string ⟨#[]⟩) ∧ i0.size = 1 ∧ i0.bytes = 16) := ⟨hi, hz0, hz1, hz2⟩
      clear hi hz0 hz1 hz2
      go_wp2
      clear hmi
      obtain ⟨B, hB⟩ : ∃ B, B = w1.heap.size := ⟨_, rfl⟩
      have HB : Hid (B = w1.heap.size) := hB
      clear hB
      go_loopw [10, 11] (fun v i wr => ∃ m : Nat, m ≤ K ∧ i = .int .i64 (m : Int) ∧ Hid (wr.ownsRow B 9 1 v m (cellsOf (insF s x K) m)) ∧ Below B w1 wr) (fun _ i _ => K - (intOf i).toNat)
      case atStart =>
        refine ⟨0, Nat.zero_le _, rfl, ?_, ?_⟩
        · have h := World.ownsRow_made (e := 9) (size := 1) (base := B) w1 (madeCells #[.string ⟨#[]⟩] (n + 1)) (n + 1) (by rw [HB.out]; exact Nat.le_refl _) (by unfold maxLen; omega) (by rw [size_madeCells, Nat.mul_one])
          exact h
        · rw [HB.out]; exact (Below.refl _ _).alloc (Nat.le_refl _) _
      case round =>
        obtain ⟨m, hm, rfl, HO, hbr⟩ := hrel
        by_cases hmK : m < K
        · have hcm := cell_up (by rw [HB.out] at hbr; exact hbr) (HC.out m (by omega))
          rw [Nat.zero_add] at hcm
          have HV : Hid (s m = insF s x K m) := (ins_lt hmK).symm
          generalize s m = z at *
          go_wp2_with (at_builtin; refine wpList_append_own _ rfl _ _ 22 rfl B 9 i0 (.string ⟨#[]⟩) 1 16 Tryf.underlying22 HI.out.1 HI.out.2.1 HI.out.2.2.1 HI.out.2.2.2 rfl (by decide) _ m (cellsOf (insF s x K) m) rfl (HO.out.alloc _) ⟨wr.heap.size, 0, none⟩ 1 1 [.string z] rfl rfl (cell_one_new _ _ _) (by intro u hu; simp at hu; subst hu; rfl) (by unfold maxLen; omega) (by omega) (by have := hbr.size; rw [← HB.out] at this; simp; omega) ?_)
          intro v' w2 hown' hgrow hne
          have HO2 : Hid (w2.ownsRow B 9 1 v' (m + 1) (cellsOf (insF s x K) (m + 1))) := by
            show w2.ownsRow _ _ _ _ _ _
            rw [← cells_succ, ← HV.out]; exact hown'
          have hszr : B ≤ wr.heap.size := by have := hbr.size; rw [← HB.out] at this; exact this
          have hbr2 : Below B w1 w2 := below_grown (hbr.alloc hszr _) (by simp; omega) hgrow (fun k e => (HO.out.lt k e).1)
          clear hown' hgrow hne HO hbr hszr
          go_wp2
          go_roundw
          case rel => exact ⟨m + 1, by omega, by go_num, HO2, hbr2⟩
          case measure => simp [intOf]; omega
        · obtain rfl : m = K := by omega
          have hmm : ¬ (m : Int) < (m : Int) := by omega
          go_wp2_with (at_builtin; refine wpList_append_own _ rfl _ _ 22 rfl B 9 i0 (.string ⟨#[]⟩) 1 16 Tryf.underlying22 HI.out.1 HI.out.2.1 HI.out.2.2.1 HI.out.2.2.2 rfl (by decide) _ m (cellsOf (insF s x m) m) rfl (HO.out.alloc _) ⟨wr.heap.size, 0, none⟩ 1 1 [.string x] rfl rfl (cell_one_new _ _ _) (by intro u hu; simp at hu; subst hu; rfl) (by unfold maxLen; omega) (by omega) (by have := hbr.size; rw [← HB.out] at this; simp; omega) ?_)
          intro v' w2 hown' hgrow hne
          have HO2 : Hid (w2.ownsRow B 9 1 v' (m + 1) (cellsOf (insF s x m) (m + 1))) := by
            show w2.ownsRow _ _ _ _ _ _
            rw [← cells_succ, ins_at]; exact hown'
          have hszr : B ≤ wr.heap.size := by have := hbr.size; rw [← HB.out] at this; exact this
          have hbr2 : Below B w1 w2 := below_grown (hbr.alloc hszr _) (by simp; omega) hgrow (fun k e => (HO.out.lt k e).1)
          clear hown' hgrow hne HO hbr hszr
          go_wp2
          go_loopw [10, 12] (fun v i wx => ∃ r : Nat, m ≤ r ∧ r ≤ n ∧ i = .int .i64 (r : Int) ∧ Hid (wx.ownsRow B 9 1 v (r + 1) (cellsOf (insF s x m) (r + 1))) ∧ Below B w1 wx) (fun _ i _ => n - (intOf i).toNat)
          case atStart => exact ⟨m, Nat.le_refl _, hK, rfl, HO2, hbr2⟩
          case round =>
            obtain ⟨r, hmr, hrn, rfl, HO3, hb3⟩ := hrel
            by_cases hrlt : r < n
            · have hcr := cell_up (by rw [HB.out] at hb3; exact hb3) (HC.out r hrlt)
              rw [Nat.zero_add] at hcr
              have HV : Hid (s r = insF s x m (r + 1)) := (ins_gt hmr).symm
              generalize s r = z at *
              go_wp2_with (at_builtin; refine wpList_append_own _ rfl _ _ 22 rfl B 9 i0 (.string ⟨#[]⟩) 1 16 Tryf.underlying22 HI.out.1 HI.out.2.1 HI.out.2.2.1 HI.out.2.2.2 rfl (by decide) _ (r + 1) (cellsOf (insF s x m) (r + 1)) rfl (HO3.out.alloc _) ⟨wr.heap.size, 0, none⟩ 1 1 [.string z] rfl rfl (cell_one_new _ _ _) (by intro u hu; simp at hu; subst hu; rfl) (by unfold maxLen; omega) (by omega) (by have := hb3.size; rw [← HB.out] at this; simp; omega) ?_)
              intro v2 w3 hown' hgrow hne
              have HO4 : Hid (w3.ownsRow B 9 1 v2 (r + 1 + 1) (cellsOf (insF s x m) (r + 1 + 1))) := by
                show w3.ownsRow _ _ _ _ _ _
                rw [← cells_succ, ← HV.out]; exact hown'
              have hszr : B ≤ wr.heap.size := by have := hb3.size; rw [← HB.out] at this; exact this
              have hb4 : Below B w1 w3 := below_grown (hb3.alloc hszr _) (by simp; omega) hgrow (fun k e => (HO3.out.lt k e).1)
              clear hown' hgrow hne HO3 hb3 hszr
              go_wp2
              go_roundw
              case rel => exact ⟨r + 1, by omega, by omega, by go_num, HO4, hb4⟩
              case measure => simp [intOf]; omega
            · obtain rfl : r = n := by omega
              have hrr : ¬ (r : Int) < (r : Int) := by omega
              obtain ⟨g, cap, hv, hcg⟩ := owns_reads HO3.out (by omega)
              rw [HB.out] at hb3
              have RI : ReadsS wr (some ⟨g, 0, none⟩) (r + 1) (insF s x m) := Or.inr ⟨_, _, rfl, hcg⟩
              have RT : ReadsS wr (some ⟨w'.heap.size, 0, none⟩) r s := Or.inr ⟨_, _, rfl, fun j hj => cell_up hb3 (HC.out j hj)⟩
              have hFup : ∀ {wx : World}, Below wr.heap.size wr wx → F.answers wx.tape := fun hb => by rw [hb.tape, hb3.tape]; exact HF1.out
              have hbw : Below w'.heap.size w' wr := hb1.trans (hb3.mono hb1.size)
              have C1 : Below wr.heap.size wr wr := Below.refl _ _
              have hall := ins_all s x m r hmr
              subst hv
              clear HO3 hcg hb3 HC HI HF1 hb1 hbr2 HO2 hk1 hmm hmK hm hrlt hrn
              by_cases hn0 : r = 0
              · have hfs : Nm.allFit s 0 r = true := by rw [hn0]; rfl
                have g1 : ¬ (0 : Int) < (r : Int) := by omega
                cases hfx : Nm.fits x
                · have HX : Hid (Nm.fits x = false) := hfx
                  have HI2 : Hid (Nm.refuses (insF s x m) 0 (r + 1) = true) := by
                    show Nm.refuses _ _ _ = _
                    rw [Nm.refuses_pos (by omega), hall, hfs, hfx]; rfl
                  clear hfx hfs hall hn0
                  go_wp2_with (go_at_call 6; fail)
                  refine (types_err F _ (r + 1) cap (insF s x m) _ (hFup C1) (by omega) RI HI2.out).mono ?_
                  rintro e w5 ⟨⟨q5, rfl⟩, hb5⟩
                  have C5 : Below wr.heap.size wr w5 := C1.trans (hb5.mono C1.size)
                  clear hb5
                  go_wp2_with (go_at_call 9; fail)
                  refine (checkBytes_no F _ x _ (hFup C5) HX.out).mono ?_
                  rintro e w7 ⟨⟨q7, rfl⟩, hb7⟩
                  have C7 : Below wr.heap.size wr w7 := C5.trans (hb7.mono C5.size)
                  clear hb7
                  go_wp2_with (go_at_call 10; fail)
                  refine (nameFits_any x _).mono ?_
                  rw [HX.out]
                  rintro e w8 ⟨rfl, rfl⟩
                  go_wp2
                  go_ret
                  exact ⟨rfl, hbw.trans (C7.mono hbw.size)⟩
                · have HX : Hid (Nm.fits x = true) := hfx
                  have HI2 : Hid (Nm.refuses (insF s x m) 0 (r + 1) = false) := by
                    show Nm.refuses _ _ _ = _
                    rw [Nm.refuses_pos (by omega), hall, hfs, hfx]; rfl
                  clear hfx hfs hall hn0
                  go_wp2_with (go_at_call 6; fail)
                  refine (types_nil F _ (r + 1) cap (insF s x m) _ (hFup C1) (by omega) RI HI2.out).mono ?_
                  rintro e w5 ⟨rfl, hb5⟩
                  have C5 : Below wr.heap.size wr w5 := C1.trans (hb5.mono C1.size)
                  clear hb5
                  go_wp2_with (go_at_call 9; fail)
                  refine (checkBytes_yes _ x _ HX.out).mono ?_
                  rintro e w7 ⟨rfl, rfl⟩
                  go_wp2_with (go_at_call 10; fail)
                  refine (nameFits_any x _).mono ?_
                  rw [HX.out]
                  rintro e w8 ⟨rfl, rfl⟩
                  go_wp2
                  go_ret
                  exact ⟨rfl, hbw.trans (C5.mono hbw.size)⟩
              · have g1 : (0 : Int) < (r : Int) := by omega
                cases hfs : Nm.allFit s 0 r
                · cases hfx : Nm.fits x
                  · have HX : Hid (Nm.fits x = false) := hfx
                    have HI2 : Hid (Nm.refuses (insF s x m) 0 (r + 1) = true) := by
                      show Nm.refuses _ _ _ = _
                      rw [Nm.refuses_pos (by omega), hall, hfs, hfx]; rfl
                    have HT2 : Hid (Nm.refuses s 0 r = true) := by
                      show Nm.refuses _ _ _ = _
                      rw [Nm.refuses_pos hn0, hfs]; rfl
                    clear hfx hfs hall hn0
                    go_wp2_with (go_at_call 6; fail)
                    refine (types_err F _ (r + 1) cap (insF s x m) _ (hFup C1) (by omega) RI HI2.out).mono ?_
                    rintro e w5 ⟨⟨q5, rfl⟩, hb5⟩
                    have C5 : Below wr.heap.size wr w5 := C1.trans (hb5.mono C1.size)
                    clear hb5
                    go_wp2_with (go_at_call 6; fail)
                    refine (types_err F _ r r s _ (hFup C5) hn2 (RT.up C5) HT2.out).mono ?_
                    rintro e w6 ⟨⟨q6, rfl⟩, hb6⟩
                    have C6 : Below wr.heap.size wr w6 := C5.trans (hb6.mono C5.size)
                    clear hb6
                    go_wp2_with (go_at_call 9; fail)
                    refine (checkBytes_no F _ x _ (hFup C6) HX.out).mono ?_
                    rintro e w7 ⟨⟨q7, rfl⟩, hb7⟩
                    have C7 : Below wr.heap.size wr w7 := C6.trans (hb7.mono C6.size)
                    clear hb7
                    go_wp2_with (go_at_call 10; fail)
                    refine (nameFits_any x _).mono ?_
                    rw [HX.out]
                    rintro e w8 ⟨rfl, rfl⟩
                    go_wp2
                    go_ret
                    exact ⟨rfl, hbw.trans (C7.mono hbw.size)⟩
                  · have HX : Hid (Nm.fits x = true) := hfx
                    have HI2 : Hid (Nm.refuses (insF s x m) 0 (r + 1) = true) := by
                      show Nm.refuses _ _ _ = _
                      rw [Nm.refuses_pos (by omega), hall, hfs, hfx]; rfl
                    have HT2 : Hid (Nm.refuses s 0 r = true) := by
                      show Nm.refuses _ _ _ = _
                      rw [Nm.refuses_pos hn0, hfs]; rfl
                    clear hfx hfs hall hn0
                    go_wp2_with (go_at_call 6; fail)
                    refine (types_err F _ (r + 1) cap (insF s x m) _ (hFup C1) (by omega) RI HI2.out).mono ?_
                    rintro e w5 ⟨⟨q5, rfl⟩, hb5⟩
                    have C5 : Below wr.heap.size wr w5 := C1.trans (hb5.mono C1.size)
                    clear hb5
                    go_wp2_with (go_at_call 6; fail)
                    refine (types_err F _ r r s _ (hFup C5) hn2 (RT.up C5) HT2.out).mono ?_
                    rintro e w6 ⟨⟨q6, rfl⟩, hb6⟩
                    have C6 : Below wr.heap.size wr w6 := C5.trans (hb6.mono C5.size)
                    clear hb6
                    go_wp2_with (go_at_call 9; fail)
                    refine (checkBytes_yes _ x _ HX.out).mono ?_
                    rintro e w7 ⟨rfl, rfl⟩
                    go_wp2_with (go_at_call 10; fail)
                    refine (nameFits_any x _).mono ?_
                    rw [HX.out]
                    rintro e w8 ⟨rfl, rfl⟩
                    go_wp2
                    go_ret
                    exact ⟨rfl, hbw.trans (C6.mono hbw.size)⟩
                · cases hfx : Nm.fits x
                  · have HX : Hid (Nm.fits x = false) := hfx
                    have HI2 : Hid (Nm.refuses (insF s x m) 0 (r + 1) = true) := by
                      show Nm.refuses _ _ _ = _
                      rw [Nm.refuses_pos (by omega), hall, hfs, hfx]; rfl
                    have HT2 : Hid (Nm.refuses s 0 r = false) := by
                      show Nm.refuses _ _ _ = _
                      rw [Nm.refuses_pos hn0, hfs]; rfl
                    clear hfx hfs hall hn0
                    go_wp2_with (go_at_call 6; fail)
                    refine (types_err F _ (r + 1) cap (insF s x m) _ (hFup C1) (by omega) RI HI2.out).mono ?_
                    rintro e w5 ⟨⟨q5, rfl⟩, hb5⟩
                    have C5 : Below wr.heap.size wr w5 := C1.trans (hb5.mono C1.size)
                    clear hb5
                    go_wp2_with (go_at_call 6; fail)
                    refine (types_nil F _ r r s _ (hFup C5) hn2 (RT.up C5) HT2.out).mono ?_
                    rintro e w6 ⟨rfl, hb6⟩
                    have C6 : Below wr.heap.size wr w6 := C5.trans (hb6.mono C5.size)
                    clear hb6
                    go_wp2_with (go_at_call 9; fail)
                    refine (checkBytes_no F _ x _ (hFup C6) HX.out).mono ?_
                    rintro e w7 ⟨⟨q7, rfl⟩, hb7⟩
                    have C7 : Below wr.heap.size wr w7 := C6.trans (hb7.mono C6.size)
                    clear hb7
                    go_wp2_with (go_at_call 10; fail)
                    refine (nameFits_any x _).mono ?_
                    rw [HX.out]
                    rintro e w8 ⟨rfl, rfl⟩
                    go_wp2
                    go_ret
                    exact ⟨rfl, hbw.trans (C7.mono hbw.size)⟩
                  · have HX : Hid (Nm.fits x = true) := hfx
                    have HI2 : Hid (Nm.refuses (insF s x m) 0 (r + 1) = false) := by
                      show Nm.refuses _ _ _ = _
                      rw [Nm.refuses_pos (by omega), hall, hfs, hfx]; rfl
                    have HT2 : Hid (Nm.refuses s 0 r = false) := by
                      show Nm.refuses _ _ _ = _
                      rw [Nm.refuses_pos hn0, hfs]; rfl
                    clear hfx hfs hall hn0
                    go_wp2_with (go_at_call 6; fail)
                    refine (types_nil F _ (r + 1) cap (insF s x m) _ (hFup C1) (by omega) RI HI2.out).mono ?_
                    rintro e w5 ⟨rfl, hb5⟩
                    have C5 : Below wr.heap.size wr w5 := C1.trans (hb5.mono C1.size)
                    clear hb5
                    go_wp2_with (go_at_call 6; fail)
                    refine (types_nil F _ r r s _ (hFup C5) hn2 (RT.up C5) HT2.out).mono ?_
                    rintro e w6 ⟨rfl, hb6⟩
                    have C6 : Below wr.heap.size wr w6 := C5.trans (hb6.mono C5.size)
                    clear hb6
                    go_wp2_with (go_at_call 9; fail)
                    refine (checkBytes_yes _ x _ HX.out).mono ?_
                    rintro e w7 ⟨rfl, rfl⟩
                    go_wp2_with (go_at_call 10; fail)
                    refine (nameFits_any x _).mono ?_
                    rw [HX.out]
                    rintro e w8 ⟨rfl, rfl⟩
                    go_wp2
                    go_ret
                    exact ⟨rfl, hbw.trans (C6.mono hbw.size)⟩

set_option maxHeartbeats 2000000 in
set_option maxRecDepth 100000 in
theorem lawI_nil (F : Interp) (x : ByteArray) (cut : Int) (w : World) (hF : F.answers w.tape) (hx : x.size ≤ maxLen) :
    Calls Tryf.prog 4 #[.slice none 0 0, .string x, .int .i64 cut] w fun e w' => e = .returned (.bool true) ∧ Below w.heap.size w w' := by
  have hnil := fun wx => run_neq_slice_nil_any (P := Tryf.prog) wx 22 9 (none : Option Addr) 0 0 0 0 Tryf.underlying22
  go_enter Tryf.func4, Tryf.ntmps4
  go_wp2_with (go_at_call 8; fail)
  refine (bytes8_some none 0 0 x cut (fun _ => ⟨#[]⟩) _ (Nat.zero_le _) hx (Or.inl rfl)).mono ?_
  rintro e w' ⟨rfl | ⟨rfl, HN⟩, rfl⟩
  · go_wp2
    go_ret
    exact ⟨rfl, Below.refl _ _⟩
  have hx2 : x.size ≤ 1048576 := HN.out.2
  clear hx HN
  go_wp2
  go_loop [8, 9] (fun t i => t = .int .i64 (16 + (x.size : Int)) ∧ i = .int .i64 0) (fun _ _ => 0)
  case atStart => exact ⟨rfl, rfl⟩
  case round =>
    obtain ⟨rfl, rfl⟩ := hrel
    by_cases h1 : cut < 0
    · go_wp2
      go_ret
      exact ⟨rfl, Below.refl _ _⟩
    · by_cases h2 : 0 < cut
      · go_wp2
        go_ret
        exact ⟨rfl, Below.refl _ _⟩
      · obtain rfl : cut = 0 := by omega
        clear h1 h2 hnil
        have hmi : ∀ wx, (Instr.makeSlice 22 (.int .i64 0) (.int .i64 1)).run Tryf.prog wx = .ok (.slice (some ⟨wx.heap.size, 0, none⟩) 0 1) (wx.alloc (.cells #[.string ⟨#[]⟩] 9)) := fun _ => by kernel_rfl
        go_wp2
        go_loop [10, 11] (fun v i => v = .slice (some ⟨w'.heap.size, 0, none⟩) 0 1 ∧ i = .int .i64 0) (fun _ _ => 0)
        case atStart => exact ⟨rfl, rfl⟩
        case round =>
          obtain ⟨rfl, rfl⟩ := hrel
          go_wp2
          clear hmi
          obtain ⟨w1, hw1⟩ : ∃ w1, w1 = (w'.alloc (.cells #[.string x] 9)).alloc (.cells #[.string x] 9) := ⟨_, rfl⟩
          have hc1 : w1.cell? ⟨w'.heap.size, 0 + 0, none⟩ = some (.string x) := by rw [hw1]; go_simp
          have hb1 : Below w'.heap.size w' w1 := by rw [hw1]; exact ((Below.refl _ _).alloc (Nat.le_refl _) _).alloc (by simp) _
          rw [← hw1]
          clear hw1
          have RI : ReadsS w1 (some ⟨w'.heap.size, 0, none⟩) 1 (fun _ => x) := Or.inr ⟨_, _, rfl, fun j hj => (Nat.lt_one_iff.1 hj) ▸ hc1⟩
          have hFup : ∀ {wx : World}, Below w1.heap.size w1 wx → F.answers wx.tape := fun hb => by rw [hb.tape, hb1.tape]; exact hF
          have C1 : Below w1.heap.size w1 w1 := Below.refl _ _
          clear hc1
          go_loop [10, 12] (fun v i => v = .slice (some ⟨w'.heap.size, 0, none⟩) 1 1 ∧ i = .int .i64 0) (fun _ _ => 0)
          case atStart => exact ⟨rfl, rfl⟩
          case round =>
            obtain ⟨rfl, rfl⟩ := hrel
            cases hfx : Nm.fits x
            · have HX : Hid (Nm.fits x = false) := hfx
              have HI2 : Hid (Nm.refuses (fun _ => x) 0 1 = true) := by
                show Nm.refuses _ _ _ = _
                rw [Nm.refuses_pos (by omega), Nm.all_succ, Nm.all_zero, hfx]; rfl
              clear hfx
              go_wp2_with (go_at_call 6; fail)
              refine (types_err F _ 1 1 (fun _ => x) _ (hFup C1) (by omega) RI HI2.out).mono ?_
              rintro e w5 ⟨⟨q5, rfl⟩, hb5⟩
              have C5 : Below w1.heap.size w1 w5 := C1.trans (hb5.mono C1.size)
              clear hb5
              go_wp2_with (go_at_call 9; fail)
              refine (checkBytes_no F _ x _ (hFup C5) HX.out).mono ?_
              rintro e w7 ⟨⟨q7, rfl⟩, hb7⟩
              have C7 : Below w1.heap.size w1 w7 := C5.trans (hb7.mono C5.size)
              clear hb7
              go_wp2_with (go_at_call 10; fail)
              refine (nameFits_any x _).mono ?_
              rw [HX.out]
              rintro e w8 ⟨rfl, rfl⟩
              go_wp2
              go_ret
              exact ⟨rfl, hb1.trans (C7.mono hb1.size)⟩
            · have HX : Hid (Nm.fits x = true) := hfx
              have HI2 : Hid (Nm.refuses (fun _ => x) 0 1 = false) := by
                show Nm.refuses _ _ _ = _
                rw [Nm.refuses_pos (by omega), Nm.all_succ, Nm.all_zero, hfx]; rfl
              clear hfx
              go_wp2_with (go_at_call 6; fail)
              refine (types_nil F _ 1 1 (fun _ => x) _ (hFup C1) (by omega) RI HI2.out).mono ?_
              rintro e w5 ⟨rfl, hb5⟩
              have C5 : Below w1.heap.size w1 w5 := C1.trans (hb5.mono C1.size)
              clear hb5
              go_wp2_with (go_at_call 9; fail)
              refine (checkBytes_yes _ x _ HX.out).mono ?_
              rintro e w7 ⟨rfl, rfl⟩
              go_wp2_with (go_at_call 10; fail)
              refine (nameFits_any x _).mono ?_
              rw [HX.out]
              rintro e w8 ⟨rfl, rfl⟩
              go_wp2
              go_ret
              exact ⟨rfl, hb1.trans (C5.mono hb1.size)⟩

theorem lawI_any (F : Interp) (p : Option Addr) (n c : Nat) (x : ByteArray) (cut : Int) (s : Nat → ByteArray) (w : World) (hF : F.answers w.tape) (hn : n ≤ maxLen) (hx : x.size ≤ maxLen) (hp : p = none → n = 0 ∧ c = 0) (HS : ReadsS w p n s) :
    Calls Tryf.prog 4 #[.slice p n c, .string x, .int .i64 cut] w fun e w' => e = .returned (.bool true) ∧ Below w.heap.size w w' := by
  cases p with
  | none =>
    obtain ⟨rfl, rfl⟩ := hp rfl
    exact lawI_nil F x cut w hF hx
  | some a => exact lawI_some F a n c x cut s w hF hn hx HS
end Go.Proofs.Qxb6630593aFmt
