/-
  Seat b6601894a: slices of pairs; zzWellOrdered, the binary search, suspensionOn.
-/
import Derived.Test.Qxb6601894aBase
namespace Go.Proofs.Qxb6601894a
open Go.RowKit
attribute [local go_sem ↓] Go.wp_at_zero Go.wp_at_succ

/-- v is a slice of pairs of int (two cells each) whose elements are ss, as it lies in w. -/
def Prs (w : World) (v : Value) (ss : List (Int × Int)) : Prop :=
  ∃ (a : Option Addr) (cap : Nat), v = .slice a ss.length cap ∧ (a = none → cap = 0) ∧
    (0 < ss.length → ∃ b off, a = some ⟨b, off, none⟩ ∧ ∀ i, i < ss.length → w.cell? ⟨b, off + i * 2, none⟩ = some (.int .i64 (ss.getD i (0, 0)).1) ∧ w.cell? ⟨b, off + i * 2 + 1, none⟩ = some (.int .i64 (ss.getD i (0, 0)).2))

theorem Prs.below {w w' : World} {v : Value} {ss : List (Int × Int)} (h : Prs w v ss) (hb : Below w.heap.size w w') : Prs w' v ss := by
  obtain ⟨a, cap, rfl, hn, h⟩ := h
  refine ⟨a, cap, rfl, hn, fun hz => ?_⟩
  obtain ⟨b, off, rfl, hc⟩ := h hz
  refine ⟨b, off, rfl, fun i hi => ?_⟩
  have hlt : b < w.heap.size := World.block_lt_of_cell? w _ (hc i hi).1
  exact ⟨(hb.cell (p := ⟨b, _, none⟩) hlt).trans (hc i hi).1, (hb.cell (p := ⟨b, _, none⟩) hlt).trans (hc i hi).2⟩

/-! ### the binary search -/
/-- i is the first place at which c is not negative, of n. -/
structure Least (c : Nat → Int) (n i : Nat) : Prop where
  le : i ≤ n
  low : ∀ k, k < i → c k < 0
  high : ∀ k, i ≤ k → k < n → 0 ≤ c k

theorem half_lt {i j : Nat} (h : i < j) : i ≤ (i + j) / 2 ∧ (i + j) / 2 < j := by omega

set_option maxHeartbeats 2000000 in
theorem searchS_any (v : Value) (ss : List (Int × Int)) (d : Int) (w : World) (hv : Prs w v ss) (hl : ss.length ≤ 1073741824)
    (hmono : ∀ i k, i ≤ k → k < ss.length → cmpS (ss.getD k (0, 0)).1 (ss.getD k (0, 0)).2 d < 0 → cmpS (ss.getD i (0, 0)).1 (ss.getD i (0, 0)).2 d < 0) :
    Calls Try.prog 41 #[v, .agg #[.int .i64 d], .func (.func 42) #[] #[]] w fun e w' => ∃ i : Nat, e = .returned (.tuple #[.int .i64 i, .bool (decide (i < ss.length) && (cmpS (ss.getD i (0, 0)).1 (ss.getD i (0, 0)).2 d == 0))]) ∧ Least (fun k => cmpS (ss.getD k (0, 0)).1 (ss.getD k (0, 0)).2 d) ss.length i ∧ Below w.heap.size w w' := by
  obtain ⟨a, cap, rfl, _, hc0⟩ := hv
  have HC0 := hide hc0
  have HM := hide hmono
  have HB1 := hide (one_below w (.cells #[.int .i64 d] 29))
  have hbx : (w.alloc (.cells #[.int .i64 d] 29)).heap[w.heap.size]? = some (.cells #[.int .i64 d] 29 (0, 0)) := heap_alloc_new w _
  clear hc0 hmono
  go_enter Try.func41, Try.ntmps41
  go_wp2_with fail
  go_loopw [9, 10] (fun iv jv wr => ∃ i j : Nat, i ≤ j ∧ j ≤ ss.length ∧ iv = .int .i64 i ∧ jv = .int .i64 j ∧ Hid ((∀ k, k < i → cmpS (ss.getD k (0, 0)).1 (ss.getD k (0, 0)).2 d < 0) ∧ (∀ k, j ≤ k → k < ss.length → 0 ≤ cmpS (ss.getD k (0, 0)).1 (ss.getD k (0, 0)).2 d)) ∧
      Below (w.heap.size + 1) (w.alloc (.cells #[.int .i64 d] 29)) wr) (fun iv jv _ => (intOf jv).toNat - (intOf iv).toNat)
  case atStart => exact ⟨0, ss.length, Nat.zero_le _, Nat.le_refl _, rfl, rfl, ⟨fun k h => by omega, fun k h h' => by omega⟩, Below.refl _ _⟩
  case round =>
    obtain ⟨i, j, hij, hj, rfl, rfl, HI, hb⟩ := hrel
    have hcb : wr.cell? ⟨w.heap.size, 0, none⟩ = some (.int .i64 d) := by
      rw [hb.cell (p := ⟨w.heap.size, 0, none⟩) (by simp), cell_of_row _ _ _ _ _ _ hbx]; rfl
    by_cases hlt : i < j
    · obtain ⟨b, off, hx, hc⟩ := HC0.out (by omega)
      subst hx
      have hh : ((i : Int) + (j : Int)) / 2 = (((i + j) / 2 : Nat) : Int) := by omega
      obtain ⟨hi1, hi2⟩ := half_lt hlt
      generalize (i + j) / 2 = h at *
      have hcc := hc h (by omega)
      have hlb : b < w.heap.size := World.block_lt_of_cell? w _ hcc.1
      have hbw : Below w.heap.size w wr := HB1.out.trans (hb.mono (by omega))
      have c0 := (hbw.cell (p := ⟨b, _, none⟩) hlb).trans hcc.1
      have c1 := (hbw.cell (p := ⟨b, _, none⟩) hlb).trans hcc.2
      have hm := fun k => HM.out k h
      have hm2 := fun k => HM.out h k
      generalize hcd : ss.getD h (0, 0) = pr at *
      obtain ⟨f, t⟩ := pr
      simp only at c0 c1
      have HMM := hide hm
      have HM2 := hide hm2
      have HCD := hide hcd
      have HB := hide hb
      have hsz : w.heap.size + 1 ≤ wr.heap.size := by have := hb.size; simpa using this
      obtain ⟨wo, rfl⟩ : ∃ x : World, x = wr := ⟨_, rfl⟩
      have g0 : (0 : Int) ≤ (h : Int) := by omega
      have g1 : (h : Int) < (ss.length : Int) := by omega
      clear hc hcc hm hm2 hcd hb hbw HC0 hbx
      go_wp2_with fail
      clear hh
      go_region_held3 (fun w' => w'.cell? ⟨b, off + h * 2, none⟩ = some (.int .i64 f) ∧ w'.cell? ⟨b, off + h * 2 + 1, none⟩ = some (.int .i64 t) ∧ w'.cell? ⟨w.heap.size, 0, none⟩ = some (.int .i64 d))
        (first | go_keep | (go_split_ands; refine ⟨?_, ?_, ?_⟩ <;> (rw [hb1.cell (by simp; omega)]; assumption)))
        ((go_at_call 42; refine (cmpS_any f t d _).mono ?_; rintro e w1 ⟨rfl, hb1⟩))
      have HB2 := hide (HB.out.trans ((below_of_drew hb1).mono hsz))
      clear hb1 HB
      by_cases hneg : cmpS f t d < 0
      · have HN : Hid ((∀ k, k < h + 1 → cmpS (ss.getD k (0, 0)).1 (ss.getD k (0, 0)).2 d < 0) ∧ (∀ k, j ≤ k → k < ss.length → 0 ≤ cmpS (ss.getD k (0, 0)).1 (ss.getD k (0, 0)).2 d)) :=
          ⟨fun k hk => HMM.out k (by omega) (by omega) hneg, HI.out.2⟩
        clear HI HMM HM2
        go_wp2_with fail
        go_roundw
        case rel => exact ⟨h + 1, j, by omega, hj, by go_num, rfl, HN, HB2.out⟩
        case measure => simp [intOf]; omega
      · have HN : Hid ((∀ k, k < i → cmpS (ss.getD k (0, 0)).1 (ss.getD k (0, 0)).2 d < 0) ∧ (∀ k, h ≤ k → k < ss.length → 0 ≤ cmpS (ss.getD k (0, 0)).1 (ss.getD k (0, 0)).2 d)) :=
          ⟨HI.out.1, fun k h1 h2 => by
            rcases Int.lt_or_le (cmpS (ss.getD k (0, 0)).1 (ss.getD k (0, 0)).2 d) 0 with h3 | h3
            · exact absurd (HM2.out k h1 h2 h3) hneg
            · exact h3⟩
        clear HI HMM HM2
        go_wp2_with fail
        go_roundw
        case rel => exact ⟨i, h, hi1, by omega, rfl, rfl, HN, HB2.out⟩
        case measure => simp [intOf]; omega
    · obtain rfl : i = j := by omega
      have HL : Hid (Least (fun k => cmpS (ss.getD k (0, 0)).1 (ss.getD k (0, 0)).2 d) ss.length i) := ⟨hj, HI.out.1, HI.out.2⟩
      by_cases hin : i < ss.length
      · obtain ⟨b, off, hx, hc⟩ := HC0.out (by omega)
        subst hx
        have hcc := hc i hin
        have hlb : b < w.heap.size := World.block_lt_of_cell? w _ hcc.1
        have hbw : Below w.heap.size w wr := HB1.out.trans (hb.mono (by omega))
        have c0 := (hbw.cell (p := ⟨b, _, none⟩) hlb).trans hcc.1
        have c1 := (hbw.cell (p := ⟨b, _, none⟩) hlb).trans hcc.2
        have HFIN : Hid (∀ b : Bool, (cmpS (ss.getD i (0, 0)).1 (ss.getD i (0, 0)).2 d == 0) = b → (decide (i < ss.length) && (cmpS (ss.getD i (0, 0)).1 (ss.getD i (0, 0)).2 d == 0)) = b) := fun b hb => by rw [hb, decide_eq_true hin]; rfl
        generalize hcd : ss.getD i (0, 0) = pr at c0 c1 HFIN
        obtain ⟨f, t⟩ := pr
        simp only at c0 c1 HFIN
        have HCD := hide hcd
        have HBW := hide hbw
        have hsz : w.heap.size + 1 ≤ wr.heap.size := by have := hb.size; simpa using this
        obtain ⟨wo, rfl⟩ : ∃ x : World, x = wr := ⟨_, rfl⟩
        have g0 : (0 : Int) ≤ (i : Int) := by omega
        have g1 : (i : Int) < (ss.length : Int) := by omega
        clear hc hcc hcd hb hbw HC0 hbx HM HI hlt
        go_wp2_with fail
        go_region_held3 (fun w' => w'.cell? ⟨b, off + i * 2, none⟩ = some (.int .i64 f) ∧ w'.cell? ⟨b, off + i * 2 + 1, none⟩ = some (.int .i64 t) ∧ w'.cell? ⟨w.heap.size, 0, none⟩ = some (.int .i64 d))
          (first | go_keep | (go_split_ands; refine ⟨?_, ?_, ?_⟩ <;> (rw [hb1.cell (by simp; omega)]; assumption)))
          ((go_at_call 42; refine (cmpS_any f t d _).mono ?_; rintro e w1 ⟨rfl, hb1⟩))
        have HB2 := hide (HBW.out.trans ((below_of_drew hb1).mono HBW.out.size))
        clear hb1 HBW
        go_wp2_with fail
        go_ret2
        refine ⟨i, ?_, HL.out, HB2.out⟩
        rw [HCD.out, HFIN.out _ rfl]
        rfl
      · have hd : decide ((i : Int) < (ss.length : Int)) = false := decide_eq_false (by omega)
        have HBW := hide (HB1.out.trans (hb.mono (by omega)))
        have HFIN : Hid ((decide (i < ss.length) && (cmpS (ss.getD i (0, 0)).1 (ss.getD i (0, 0)).2 d == 0)) = false) := by unfold Hid; rw [decide_eq_false hin]; rfl
        clear HM HI hb HC0 hbx hcb
        go_wp2_with fail
        go_quiet (fail)
        go_wp2_with fail
        go_ret2
        refine ⟨i, ?_, HL.out, below_drewN HBW.out _⟩
        rw [HFIN.out]
        rfl

end Go.Proofs.Qxb6601894a
