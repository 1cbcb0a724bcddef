/-
  Seat b6601894a: Add, zzHas, zzModelAdd.
-/
import Derived.Test.Qxb6601894aAdd
namespace Go.Proofs.Qxb6601894a
open Go.RowKit
attribute [local go_sem ↓] Go.wp_at_zero Go.wp_at_succ

theorem least_same {zs : List Int} {d : Int} {i j : Nat} (h : LeastD zs d i) (k : LeastD zs d j) : j = i := by
  rcases Nat.lt_or_ge i j with h1 | h1
  · have a := k.lo i h1
    have b := h.hi i (Nat.le_refl _) (by have := k.le; omega)
    omega
  · rcases Nat.lt_or_ge j i with h2 | h2
    · have a := h.lo j h2
      have b := k.hi j (Nat.le_refl _) (by have := h.le; omega)
      omega
    · omega
theorem least_to {zs : List Int} (ha : Asc zs) (d : Int) (m : Nat) (hm : m ≤ zs.length) : ∃ i, i ≤ m ∧ (∀ k, k < i → zs.getD k 0 < d) ∧ (∀ k, i ≤ k → k < m → d ≤ zs.getD k 0) := by
  induction m with
  | zero => exact ⟨0, Nat.le_refl _, fun k h => by omega, fun k h h' => by omega⟩
  | succ m ih =>
    obtain ⟨i, hi, h1, h2⟩ := ih (by omega)
    by_cases he : i = m
    · by_cases hd : zs.getD m 0 < d
      · refine ⟨m + 1, Nat.le_refl _, fun k hk => ?_, fun k h h' => by omega⟩
        by_cases hkm : k = m
        · subst hkm; exact hd
        · exact h1 k (by omega)
      · refine ⟨m, by omega, fun k hk => h1 k (by omega), fun k h h' => ?_⟩
        obtain rfl : k = m := by omega
        omega
    · refine ⟨i, by omega, h1, fun k h h' => ?_⟩
      by_cases hkm : k = m
      · subst hkm
        have a := h2 i (Nat.le_refl _) (by omega)
        have b := ha.lt i k (by omega) (by omega)
        omega
      · exact h2 k h (by omega)
theorem least_exists {zs : List Int} (ha : Asc zs) (d : Int) : ∃ i, LeastD zs d i := by
  obtain ⟨i, hi, h1, h2⟩ := least_to ha d zs.length (Nat.le_refl _)
  exact ⟨i, hi, fun k hk => by have := h1 k hk; omega, fun k hk hl => by have := h2 k hk hl; omega⟩

/-! ### Add -/
/-- What Add hands back. -/
abbrev addRes (R : Option Int) : Value := .tuple #[.agg #[.int .i64 (R.getD 0)], .bool R.isSome]

set_option maxHeartbeats 4000000 in
theorem add_any (cv : Value) (zs : List Int) (f t d n : Int) (i : Nat) (w : World) (hc : Cal w cv zs f t) (hl : zs.length ≤ 1073741824) (hh : ∀ i, i < zs.length → Half (zs.getD i 0)) (hd : Half d) (ha : Asc zs) (hL : LeastD zs d i)
    (hn0 : -9223372036854775808 ≤ n) (hn1 : n < 9223372036854775808) :
    Calls Try.prog 13 #[cv, .agg #[.int .i64 d], .int .i64 n] w fun e w' => e = .returned (addRes (addV zs f t d n i)) ∧ Below w.heap.size w w' := by
  have hil := hL.le
  have HUP := hide (fun a b c => @add_up zs f t d n i hl hil hn1 a b c)
  have HRE := hide (fun a b c => @add_rest zs f t d n i hl hil hn0 hn1 a b c)
  have HWN : Hid (0 < n → wrap64 (n - 1) = n - 1) := fun h => wrap_same (by omega) (by omega)
  have HB2 := hide (two_below w (.cells #[.int .i64 d] 29) (.cells #[.int .i64 0] 29))
  have hbx0 : ((w.alloc (.cells #[.int .i64 d] 29)).alloc (.cells #[.int .i64 0] 29)).heap[w.heap.size + 1]? = some (.cells #[.int .i64 0] 29 (0, 0)) := by
    have := heap_alloc_new (w.alloc (.cells #[.int .i64 d] 29)) (.cells #[.int .i64 0] 29)
    simpa using this
  have HBX := hide hbx0
  clear hbx0
  have HC := hide (hc.below HB2.out)
  have HCW := hide (fun w' h => search_any cv zs f t d w' h hl hh hd ha)
  have HL := hide hL
  clear hc hh hd ha hL hn0 hn1
  obtain ⟨B, hB⟩ : ∃ B, cv = .pointer (some ⟨B, 0, none⟩) := by obtain ⟨B, _, h, _⟩ := HC.out; exact ⟨B, h⟩
  subst hB
  go_enter Try.func13, Try.ntmps13
  go_wp2_with fail
  refine (covers_any _ zs f t d _ HC.out).mono ?_
  rintro e w1 ⟨rfl, hb1⟩
  have hbx1 : w1.heap[w.heap.size + 1]? = some (.cells #[.int .i64 0] 29 (0, 0)) := by rw [hb1.block _ (by simp)]; exact HBX.out
  have HBX1 := hide hbx1
  have k1 : w1.cell? ⟨w.heap.size, 0, none⟩ = some (.int .i64 d) := by
    rw [hb1.cell (p := ⟨w.heap.size, 0, none⟩) (by simp; omega)]
    exact cell_first _ _ _ _ _
  have HC1 := hide (HC.out.below hb1)
  have HB1 := hide (HB2.out.trans (hb1.mono HB2.out.size))
  have hsz1 : w.heap.size + 1 < w1.heap.size := by have := hb1.size; simp at this; omega
  clear hb1 HB2 HBX HC hbx1
  cases hcov : holds d (f, t) with
  | false =>
    have HN := hide (add_out (zs := zs) (n := n) (i := i) hcov)
    have r0 : w1.cell? ⟨w.heap.size + 1, 0, none⟩ = some (.int .i64 0) := by rw [cell_of_row w1 _ _ _ _ _ HBX1.out]; rfl
    have f0 : w1.frozen? ⟨w.heap.size + 1, 0, none⟩ = false := frozen_of_row w1 _ _ _ _ HBX1.out
    clear hcov HUP HRE HWN HC1 HBX1 HCW
    go_wp2_with fail
    exact bodyPost_ret (v := addRes none) (by simp [results, Try.results13, go_sem, r0]) rfl ⟨by rw [HN.out], HB1.out.setCell (by simp) _⟩
  | true =>
    have HCOV := hide hcov
    clear hcov
    go_wp2_with fail
    refine (HCW.out _ HC1.out).mono ?_
    rintro e w2 ⟨i', rfl, hL', hb2⟩
    obtain rfl := least_same HL.out hL'
    have hbx2 : w2.heap[w.heap.size + 1]? = some (.cells #[.int .i64 0] 29 (0, 0)) := by rw [hb2.block _ hsz1]; exact HBX1.out
    have HC2 := hide (HC1.out.below hb2)
    have HB2 := hide (HB1.out.trans (hb2.mono HB1.out.size))
    have r0 : w2.cell? ⟨w.heap.size + 1, 0, none⟩ = some (.int .i64 0) := by rw [cell_of_row w2 _ _ _ _ _ hbx2]; rfl
    have f0 : w2.frozen? ⟨w.heap.size + 1, 0, none⟩ = false := frozen_of_row w2 _ _ _ _ hbx2
    clear hL' hb2 HC1 HB1 HBX1 HCW hbx2 k1 HL
    obtain ⟨B', sv, hBB, hblk, hsv⟩ := HC2.out
    obtain rfl : B = B' := by simpa using hBB
    have c0 := cell_of_row w2 B 0 _ _ _ hblk
    simp at c0
    obtain ⟨a, cap, rfl, _, hi0⟩ := hsv
    have HI0 := hide hi0
    clear hi0 hblk hBB HC2
    cases hF : fnd zs d i' with
    | false =>
      by_cases hz : n = 0
      · subst hz
        have HN := hide (add_zero (f := f) (t := t) hF)
        clear hF HUP HRE HWN HI0
        go_wp2_with fail
        exact bodyPost_ret (v := addRes none) (by simp [results, Try.results13, go_sem, r0]) rfl ⟨by rw [HN.out], HB2.out.setCell (by simp) _⟩
      · have hz' : (n == 0) = false := by simp [hz]
        by_cases hp : 0 < n
        · have hp' : decide (0 < n) = true := decide_eq_true hp
          obtain ⟨X, hX⟩ : ∃ X, wrap64 ((i' : Int) + wrap64 (n - 1)) = X := ⟨_, rfl⟩
          have hR : atX zs X = addV zs f t d n i' := by rw [← hX]; exact (by rw [HWN.out hp]; exact HUP.out HCOV.out hp hF)
          have HR := hide hR
          clear hR HUP HRE HWN HCOV
          rcases Int.lt_or_le X 0 with hx0 | hx0
          · have HN := hide (HR.out.symm.trans (atX_low hx0))
            have hd0 : decide (X < 0) = true := decide_eq_true hx0
            clear HR HI0
            go_wp2_with fail
            exact bodyPost_ret (v := addRes none) (by simp [results, Try.results13, go_sem, r0]) rfl ⟨by rw [HN.out], HB2.out.setCell (by simp) _⟩
          · have hd0 : decide (X < 0) = false := decide_eq_false (by omega)
            rcases Int.lt_or_le X zs.length with hx1 | hx1
            · obtain ⟨j, rfl⟩ : ∃ j : Nat, X = j := ⟨X.toNat, by omega⟩
              have hj : j < zs.length := by omega
              have hN := HR.out.symm.trans (atX_some hj)
              obtain ⟨b, off, hxx, hcc⟩ := HI0.out (by omega)
              subst hxx
              have c1 := hcc j hj
              generalize zs.getD j 0 = y at *
              have HN := hide hN
              have g5 : decide ((zs.length : Int) ≤ (j : Int)) = false := decide_eq_false (by omega)
              have g6 : decide (zs.length ≤ j) = false := decide_eq_false (by omega)
              clear hN hcc HR HI0
              go_wp2_with fail
              exact bodyPost_ret (v := addRes (some y)) (by simp [results, Try.results13, go_sem, r0]) rfl ⟨by rw [HN.out], HB2.out.setCell (by simp) _⟩
            · have HN := hide (HR.out.symm.trans (atX_high hx1))
              have hd1 : decide ((zs.length : Int) ≤ X) = true := decide_eq_true hx1
              clear HR HI0
              go_wp2_with fail
              exact bodyPost_ret (v := addRes none) (by simp [results, Try.results13, go_sem, r0]) rfl ⟨by rw [HN.out], HB2.out.setCell (by simp) _⟩
        · have hp' : decide (0 < n) = false := decide_eq_false hp
          obtain ⟨X, hX⟩ : ∃ X, wrap64 ((i' : Int) + n) = X := ⟨_, rfl⟩
          have hR : atX zs X = addV zs f t d n i' := by rw [← hX]; exact HRE.out HCOV.out (fun h => absurd h hz) (fun h => absurd h hp)
          have HR := hide hR
          clear hR HUP HRE HWN HCOV
          rcases Int.lt_or_le X 0 with hx0 | hx0
          · have HN := hide (HR.out.symm.trans (atX_low hx0))
            have hd0 : decide (X < 0) = true := decide_eq_true hx0
            clear HR HI0
            go_wp2_with fail
            exact bodyPost_ret (v := addRes none) (by simp [results, Try.results13, go_sem, r0]) rfl ⟨by rw [HN.out], HB2.out.setCell (by simp) _⟩
          · have hd0 : decide (X < 0) = false := decide_eq_false (by omega)
            rcases Int.lt_or_le X zs.length with hx1 | hx1
            · obtain ⟨j, rfl⟩ : ∃ j : Nat, X = j := ⟨X.toNat, by omega⟩
              have hj : j < zs.length := by omega
              have hN := HR.out.symm.trans (atX_some hj)
              obtain ⟨b, off, hxx, hcc⟩ := HI0.out (by omega)
              subst hxx
              have c1 := hcc j hj
              generalize zs.getD j 0 = y at *
              have HN := hide hN
              have g5 : decide ((zs.length : Int) ≤ (j : Int)) = false := decide_eq_false (by omega)
              have g6 : decide (zs.length ≤ j) = false := decide_eq_false (by omega)
              clear hN hcc HR HI0
              go_wp2_with fail
              exact bodyPost_ret (v := addRes (some y)) (by simp [results, Try.results13, go_sem, r0]) rfl ⟨by rw [HN.out], HB2.out.setCell (by simp) _⟩
            · have HN := hide (HR.out.symm.trans (atX_high hx1))
              have hd1 : decide ((zs.length : Int) ≤ X) = true := decide_eq_true hx1
              clear HR HI0
              go_wp2_with fail
              exact bodyPost_ret (v := addRes none) (by simp [results, Try.results13, go_sem, r0]) rfl ⟨by rw [HN.out], HB2.out.setCell (by simp) _⟩
    | true =>
      by_cases hz : n = 0
      · subst hz
        obtain ⟨hj, hyd⟩ := fnd_yes hF
        have HN := hide (mod_zero HCOV.out hF)
        obtain ⟨b, off, hxx, hcc⟩ := HI0.out (by omega)
        subst hxx
        have c1 := hcc i' hj
        rw [hyd] at c1
        have g4 : decide ((i' : Int) < 0) = false := decide_eq_false (by omega)
        have g5 : decide ((zs.length : Int) ≤ (i' : Int)) = false := decide_eq_false (by omega)
        have g6 : decide (zs.length ≤ i') = false := decide_eq_false (by omega)
        clear hF HUP HRE HWN HI0 hcc hyd
        go_wp2_with fail
        exact bodyPost_ret (v := addRes (some d)) (by simp [results, Try.results13, go_sem, r0]) rfl ⟨by rw [HN.out], HB2.out.setCell (by simp) _⟩
      · have hz' : (n == 0) = false := by simp [hz]
        by_cases hp : 0 < n
        · have hp' : decide (0 < n) = true := decide_eq_true hp
          obtain ⟨X, hX⟩ : ∃ X, wrap64 ((i' : Int) + n) = X := ⟨_, rfl⟩
          have hR : atX zs X = addV zs f t d n i' := by rw [← hX]; exact HRE.out HCOV.out (fun h => absurd h hz) (fun _ => hF)
          have HR := hide hR
          clear hR HUP HRE HWN HCOV
          rcases Int.lt_or_le X 0 with hx0 | hx0
          · have HN := hide (HR.out.symm.trans (atX_low hx0))
            have hd0 : decide (X < 0) = true := decide_eq_true hx0
            clear HR HI0
            go_wp2_with fail
            exact bodyPost_ret (v := addRes none) (by simp [results, Try.results13, go_sem, r0]) rfl ⟨by rw [HN.out], HB2.out.setCell (by simp) _⟩
          · have hd0 : decide (X < 0) = false := decide_eq_false (by omega)
            rcases Int.lt_or_le X zs.length with hx1 | hx1
            · obtain ⟨j, rfl⟩ : ∃ j : Nat, X = j := ⟨X.toNat, by omega⟩
              have hj : j < zs.length := by omega
              have hN := HR.out.symm.trans (atX_some hj)
              obtain ⟨b, off, hxx, hcc⟩ := HI0.out (by omega)
              subst hxx
              have c1 := hcc j hj
              generalize zs.getD j 0 = y at *
              have HN := hide hN
              have g5 : decide ((zs.length : Int) ≤ (j : Int)) = false := decide_eq_false (by omega)
              have g6 : decide (zs.length ≤ j) = false := decide_eq_false (by omega)
              clear hN hcc HR HI0
              go_wp2_with fail
              exact bodyPost_ret (v := addRes (some y)) (by simp [results, Try.results13, go_sem, r0]) rfl ⟨by rw [HN.out], HB2.out.setCell (by simp) _⟩
            · have HN := hide (HR.out.symm.trans (atX_high hx1))
              have hd1 : decide ((zs.length : Int) ≤ X) = true := decide_eq_true hx1
              clear HR HI0
              go_wp2_with fail
              exact bodyPost_ret (v := addRes none) (by simp [results, Try.results13, go_sem, r0]) rfl ⟨by rw [HN.out], HB2.out.setCell (by simp) _⟩
        · have hp' : decide (0 < n) = false := decide_eq_false hp
          obtain ⟨X, hX⟩ : ∃ X, wrap64 ((i' : Int) + n) = X := ⟨_, rfl⟩
          have hR : atX zs X = addV zs f t d n i' := by rw [← hX]; exact HRE.out HCOV.out (fun h => absurd h hz) (fun h => absurd h hp)
          have HR := hide hR
          clear hR HUP HRE HWN HCOV
          rcases Int.lt_or_le X 0 with hx0 | hx0
          · have HN := hide (HR.out.symm.trans (atX_low hx0))
            have hd0 : decide (X < 0) = true := decide_eq_true hx0
            clear HR HI0
            go_wp2_with fail
            exact bodyPost_ret (v := addRes none) (by simp [results, Try.results13, go_sem, r0]) rfl ⟨by rw [HN.out], HB2.out.setCell (by simp) _⟩
          · have hd0 : decide (X < 0) = false := decide_eq_false (by omega)
            rcases Int.lt_or_le X zs.length with hx1 | hx1
            · obtain ⟨j, rfl⟩ : ∃ j : Nat, X = j := ⟨X.toNat, by omega⟩
              have hj : j < zs.length := by omega
              have hN := HR.out.symm.trans (atX_some hj)
              obtain ⟨b, off, hxx, hcc⟩ := HI0.out (by omega)
              subst hxx
              have c1 := hcc j hj
              generalize zs.getD j 0 = y at *
              have HN := hide hN
              have g5 : decide ((zs.length : Int) ≤ (j : Int)) = false := decide_eq_false (by omega)
              have g6 : decide (zs.length ≤ j) = false := decide_eq_false (by omega)
              clear hN hcc HR HI0
              go_wp2_with fail
              exact bodyPost_ret (v := addRes (some y)) (by simp [results, Try.results13, go_sem, r0]) rfl ⟨by rw [HN.out], HB2.out.setCell (by simp) _⟩
            · have HN := hide (HR.out.symm.trans (atX_high hx1))
              have hd1 : decide ((zs.length : Int) ≤ X) = true := decide_eq_true hx1
              clear HR HI0
              go_wp2_with fail
              exact bodyPost_ret (v := addRes none) (by simp [results, Try.results13, go_sem, r0]) rfl ⟨by rw [HN.out], HB2.out.setCell (by simp) _⟩

end Go.Proofs.Qxb6601894a
