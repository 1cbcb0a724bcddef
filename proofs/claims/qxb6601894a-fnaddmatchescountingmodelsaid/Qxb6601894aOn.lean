/-
  Seat b6601894a: suspensionOn, zzWellOrdered, zzSuspensions.
-/
import Derived.Test.Qxb6601894aSusp
namespace Go.Proofs.Qxb6601894a
open Go.RowKit
attribute [local go_sem ↓] Go.wp_at_zero Go.wp_at_succ

/-! ### plain -/
abbrev nth (ss : List (Int × Int)) (i : Nat) : Int × Int := ss.getD i (0, 0)
/-- The i-th is in order, and behind the one before it. -/
def okAt (ss : List (Int × Int)) (i : Nat) : Bool := decide ((nth ss i).1 ≤ (nth ss i).2) && (decide (i = 0) || decide ((nth ss (i - 1)).2 < (nth ss i).1))
def wellB (ss : List (Int × Int)) : Bool := (List.range ss.length).all (okAt ss)
theorem well_at {ss : List (Int × Int)} (h : wellB ss = true) (i : Nat) (hi : i < ss.length) : (nth ss i).1 ≤ (nth ss i).2 ∧ (0 < i → (nth ss (i - 1)).2 < (nth ss i).1) := by
  unfold wellB at h
  rw [List.all_eq_true] at h
  have := h i (by simpa using hi)
  unfold okAt at this
  simp only [Bool.and_eq_true, Bool.or_eq_true, decide_eq_true_eq] at this
  exact ⟨this.1, fun h0 => by rcases this.2 with h' | h' <;> omega⟩
theorem well_all {ss : List (Int × Int)} (h : ∀ i, i < ss.length → okAt ss i = true) : wellB ss = true := by
  unfold wellB
  rw [List.all_eq_true]
  intro i hi
  exact h i (by simpa using hi)
theorem well_not {ss : List (Int × Int)} {i : Nat} (hi : i < ss.length) (h : okAt ss i = false) : wellB ss = false := by
  unfold wellB
  rw [List.all_eq_false]
  exact ⟨i, by simpa using hi, by simp [h]⟩
theorem well_to {ss : List (Int × Int)} (h : wellB ss = true) (i k : Nat) (hik : i < k) (hk : k < ss.length) : (nth ss i).2 < (nth ss k).1 := by
  induction k with
  | zero => omega
  | succ k ih =>
    have h1 := (well_at h (k + 1) hk).2 (by omega)
    rw [Nat.add_sub_cancel] at h1
    by_cases he : i = k
    · subst he; exact h1
    · have h2 := ih (by omega) (by omega)
      have h3 := (well_at h k (by omega)).1
      omega
theorem well_mono {ss : List (Int × Int)} (h : wellB ss = true) (d : Int) (i k : Nat) (hik : i ≤ k) (hk : k < ss.length) (hc : cmpS (nth ss k).1 (nth ss k).2 d < 0) : cmpS (nth ss i).1 (nth ss i).2 d < 0 := by
  have hkd : (nth ss k).2 < d := by
    rcases Int.lt_or_le (nth ss k).2 d with h' | h'
    · exact h'
    · rcases Int.lt_or_le d (nth ss k).1 with h'' | h''
      · rw [cmpS_gt h' h''] at hc; omega
      · rw [cmpS_eq h' h''] at hc; omega
  have : (nth ss i).2 < d := by
    by_cases he : i = k
    · subst he; exact hkd
    · have h1 := well_to h i k (by omega) hk
      have h2 := (well_at h k hk).1
      omega
  rw [cmpS_lt this]
  decide

/-- Does the pair hold the day? -/
def holds (d : Int) (p : Int × Int) : Bool := decide (p.1 ≤ d) && decide (d ≤ p.2)
/-- The first that holds the day. -/
def onS (ss : List (Int × Int)) (d : Int) : Option (Int × Int) := ss.find? (holds d)

theorem holds_yes {d : Int} {p : Int × Int} (h1 : p.1 ≤ d) (h2 : d ≤ p.2) : holds d p = true := by unfold holds; rw [decide_eq_true h1, decide_eq_true h2]; rfl
theorem holds_no {d : Int} {p : Int × Int} (h : d < p.1 ∨ p.2 < d) : holds d p = false := by
  unfold holds
  rcases h with h | h
  · rw [decide_eq_false (by omega)]; rfl
  · rw [decide_eq_false (p := d ≤ p.2) (by omega), Bool.and_false]
theorem cmpS_neg {f t d : Int} (h : cmpS f t d < 0) : t < d := by
  rcases Int.lt_or_le t d with h' | h'
  · exact h'
  · rcases Int.lt_or_le d f with h'' | h''
    · rw [cmpS_gt h' h''] at h; omega
    · rw [cmpS_eq h' h''] at h; omega
theorem cmpS_zero {f t d : Int} (h : cmpS f t d = 0) : f ≤ d ∧ d ≤ t := by
  rcases Int.lt_or_le t d with h' | h'
  · rw [cmpS_lt h'] at h; omega
  · rcases Int.lt_or_le d f with h'' | h''
    · rw [cmpS_gt h' h''] at h; omega
    · exact ⟨h'', h'⟩
theorem cmpS_pos {f t d : Int} (h : 0 ≤ cmpS f t d) (hn : cmpS f t d ≠ 0) : d < f := by
  rcases Int.lt_or_le t d with h' | h'
  · rw [cmpS_lt h'] at h; omega
  · rcases Int.lt_or_le d f with h'' | h''
    · exact h''
    · exact absurd (cmpS_eq h' h'') hn

theorem find_at {ss : List (Int × Int)} {d : Int} (i : Nat) (hi : i < ss.length) (h : holds d (nth ss i) = true) (hl : ∀ k, k < i → holds d (nth ss k) = false) : onS ss d = some (nth ss i) := by
  unfold onS
  induction ss generalizing i with
  | nil => simp at hi
  | cons x r ih =>
    cases i with
    | zero => simp [nth] at h ⊢; exact .inl h
    | succ i =>
      have h0 : holds d x = false := by simpa [nth] using hl 0 (by omega)
      rw [List.find?_cons, h0]
      have := ih i (by simpa using hi) (by simpa [nth] using h) (fun k hk => by simpa [nth] using hl (k + 1) (by omega))
      simpa [nth] using this
theorem find_none {ss : List (Int × Int)} {d : Int} (h : ∀ k, k < ss.length → holds d (nth ss k) = false) : onS ss d = none := by
  unfold onS
  rw [List.find?_eq_none]
  intro x hx
  obtain ⟨k, hk, rfl⟩ := List.getElem_of_mem hx
  have := h k hk
  simp [nth, List.getD, hk] at this
  simp [this]

theorem on_found {ss : List (Int × Int)} {d : Int} {i : Nat} (hL : Least (fun k => cmpS (nth ss k).1 (nth ss k).2 d) ss.length i) (hi : i < ss.length) (hc : cmpS (nth ss i).1 (nth ss i).2 d = 0) : onS ss d = some (nth ss i) :=
  find_at i hi (holds_yes (cmpS_zero hc).1 (cmpS_zero hc).2) (fun k hk => holds_no (.inr (cmpS_neg (hL.low k hk))))
theorem on_none {ss : List (Int × Int)} {d : Int} {i : Nat} (hw : wellB ss = true) (hL : Least (fun k => cmpS (nth ss k).1 (nth ss k).2 d) ss.length i) (hc : i < ss.length → cmpS (nth ss i).1 (nth ss i).2 d ≠ 0) : onS ss d = none := by
  refine find_none (fun k hk => ?_)
  rcases Nat.lt_or_ge k i with hki | hki
  · exact holds_no (.inr (cmpS_neg (hL.low k hki)))
  · have h0 : 0 ≤ cmpS (nth ss i).1 (nth ss i).2 d := hL.high i (Nat.le_refl _) (by omega)
    have hdi := cmpS_pos h0 (hc (by omega))
    refine holds_no (.inl ?_)
    by_cases he : i = k
    · subst he; exact hdi
    · have h1 := well_to hw i k (by omega) hk
      have h2 := (well_at hw i (by omega)).1
      omega

/-! ### suspensionOn -/
/-- What suspensionOn hands back. -/
abbrev onV (r : Option (Int × Int)) : Value := .tuple #[.agg #[.int .i64 (r.getD (0, 0)).1, .int .i64 (r.getD (0, 0)).2], .bool r.isSome]

set_option maxHeartbeats 1000000 in
theorem on_any (v : Value) (ss : List (Int × Int)) (d : Int) (w : World) (hv : Prs w v ss) (hl : ss.length ≤ 1073741824) (hw : wellB ss = true) :
    Calls Try.prog 36 #[v, .agg #[.int .i64 d]] w fun e w' => e = .returned (onV (onS ss d)) ∧ Below w.heap.size w w' := by
  have HV := hide hv
  have HW := hide hw
  have hb2 := two_below w (.cells #[.int .i64 d] 29) (.cells #[.int .i64 0, .int .i64 0] 51)
  have hbx : ((w.alloc (.cells #[.int .i64 d] 29)).alloc (.cells #[.int .i64 0, .int .i64 0] 51)).heap[w.heap.size + 1]? = some (.cells #[.int .i64 0, .int .i64 0] 51 (0, 0)) := by
    have := heap_alloc_new (w.alloc (.cells #[.int .i64 d] 29)) (.cells #[.int .i64 0, .int .i64 0] 51)
    simpa using this
  have HB2 := hide hb2
  have HBX := hide hbx
  clear hv hw hb2 hbx
  go_enter Try.func36, Try.ntmps36
  go_wp2_with fail
  refine (searchS_any v ss d _ (HV.out.below HB2.out) hl (fun i k => well_mono HW.out d i k)).mono ?_
  rintro e w1 ⟨i, rfl, hL, hb1⟩
  have hbx1 : w1.heap[w.heap.size + 1]? = some (.cells #[.int .i64 0, .int .i64 0] 51 (0, 0)) := by rw [hb1.block _ (by simp)]; exact HBX.out
  have HV1 := hide ((HV.out.below HB2.out).below hb1)
  have HV0 := hide HV.out
  have HB1 := hide (HB2.out.trans (hb1.mono HB2.out.size))
  clear hb1 HB2 HBX HV
  have r0 : w1.cell? ⟨w.heap.size + 1, 0, none⟩ = some (.int .i64 0) := by rw [cell_of_row w1 _ _ _ _ _ hbx1]; rfl
  have r1 : w1.cell? ⟨w.heap.size + 1, 1, none⟩ = some (.int .i64 0) := by rw [cell_of_row w1 _ _ _ _ _ hbx1]; rfl
  have f0 : w1.frozen? ⟨w.heap.size + 1, 0, none⟩ = false := frozen_of_row w1 _ _ _ _ hbx1
  have f1 : w1.frozen? ⟨w.heap.size + 1, 1, none⟩ = false := frozen_of_row w1 _ _ _ _ hbx1
  cases hfd : (decide (i < ss.length) && (cmpS (ss.getD i (0, 0)).1 (ss.getD i (0, 0)).2 d == 0)) with
  | false =>
    have hnn : onS ss d = none := on_none HW.out hL (fun hi h0 => by rw [decide_eq_true hi, h0] at hfd; simp at hfd)
    have HN := hide hnn
    clear hnn hfd hL HW hbx1
    go_wp2_with fail
    refine bodyPost_ret (v := onV none) (by simp [results, Try.results36, go_sem, r0, r1]) rfl ⟨by rw [HN.out], (HB1.out.setCell (by simp) _).setCell (by simp) _⟩
  | true =>
    have hin : i < ss.length := by
      rcases Nat.lt_or_ge i ss.length with h | h
      · exact h
      · rw [decide_eq_false (by omega)] at hfd; simp at hfd
    have hz : cmpS (ss.getD i (0, 0)).1 (ss.getD i (0, 0)).2 d = 0 := by rw [decide_eq_true hin] at hfd; simpa using hfd
    have hnn : onS ss d = some (ss.getD i (0, 0)) := on_found hL hin hz
    obtain ⟨a, cap, rfl, _, hc0⟩ := HV1.out
    obtain ⟨b, off, hx, hc⟩ := hc0 (by omega)
    subst hx
    obtain ⟨c0, c1⟩ := hc i hin
    have hlb : b < w.heap.size := by
      obtain ⟨_, _, e1, _, hc0'⟩ := HV0.out
      simp only [Value.slice.injEq] at e1
      obtain ⟨rfl, _, rfl⟩ := e1
      obtain ⟨b', off', hx', hc'⟩ := hc0' (by omega)
      have := World.block_lt_of_cell? w _ (hc' i hin).1
      simp only [Option.some.injEq, Addr.mk.injEq, and_true] at hx'
      rw [hx'.1]
      exact this
    generalize ss.getD i (0, 0) = pr at *
    obtain ⟨f, t⟩ := pr
    simp only at c0 c1
    have HN := hide hnn
    have g0 : (0 : Int) ≤ (i : Int) := by omega
    have g1 : (i : Int) < (ss.length : Int) := by omega
    clear hnn hfd hL HW hbx1 hc hc0 hz HV1 HV0
    go_wp2_with fail
    refine bodyPost_ret (v := onV (some (f, t))) (by simp [results, Try.results36, go_sem, r0, r1]) rfl ⟨by rw [HN.out], (HB1.out.setCell (by simp) _).setCell (by simp) _⟩

end Go.Proofs.Qxb6601894a
