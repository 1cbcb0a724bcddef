/-
  Seat b6601894a: zzStrictlyAscending, zzDates, ZZNewCalendar, zzCalendar, Period.Contains, ZZCalendarSpan, ZZCalendarDays.
-/
import Derived.Test.Qxb6601894aInts
import Derived.Test.Qxb6601894aOnLaw
namespace Go.Proofs.Qxb6601894a
open Go.RowKit
attribute [local go_sem ↓] Go.wp_at_zero Go.wp_at_succ

/-! ### zzStrictlyAscending -/
def Asc (zs : List Int) : Prop := ∀ i, i + 1 < zs.length → zs.getD i 0 < zs.getD (i + 1) 0
theorem Asc.lt {zs : List Int} (h : Asc zs) (i k : Nat) (hik : i < k) (hk : k < zs.length) : zs.getD i 0 < zs.getD k 0 := by
  induction k with
  | zero => omega
  | succ k ih =>
    have h1 := h k hk
    by_cases he : i = k
    · subst he; exact h1
    · have h2 := ih (by omega) (by omega)
      omega
def AscRes (zs : List Int) (e : Ending) : Prop := ∃ r : Bool, e = .returned (.bool r) ∧ (r = true → Asc zs)

set_option maxHeartbeats 1000000 in
theorem asc_any (v : Value) (zs : List Int) (w : World) (hv : Ints w v zs) (hl : zs.length ≤ 1073741824) :
    Calls Try.prog 11 #[v] w fun e w' => AscRes zs e ∧ Below w.heap.size w w' := by
  obtain ⟨a, cap, rfl, _, hc0⟩ := hv
  have HC0 := hide hc0
  clear hc0
  go_enter Try.func11, Try.ntmps11
  go_wp2_with fail
  go_loopw [3] (fun i wr => ∃ k : Nat, 1 ≤ k ∧ k ≤ zs.length + 1 ∧ i = .int .i64 k ∧ Hid (∀ i, i + 1 < k → zs.getD i 0 < zs.getD (i + 1) 0) ∧ Below w.heap.size w wr) (fun i _ => zs.length + 1 - (intOf i).toNat)
  case atStart => exact ⟨1, Nat.le_refl _, by omega, rfl, fun i h => by omega, Below.refl _ _⟩
  case round =>
    obtain ⟨k, hk1, hk, rfl, HO, hb⟩ := hrel
    by_cases hlt : k < zs.length
    · obtain ⟨b, off, hx, hc⟩ := HC0.out (by omega)
      subst hx
      have hlb : b < w.heap.size := World.block_lt_of_cell? w _ (hc k hlt)
      have c0 := (hb.cell (p := ⟨b, _, none⟩) hlb).trans (hc k hlt)
      have c1 := (hb.cell (p := ⟨b, _, none⟩) hlb).trans (hc (k - 1) (by omega))
      have g0 : (0 : Int) ≤ (k : Int) := by omega
      have g1 : (k : Int) < (zs.length : Int) := by omega
      have e1 : (0 : Int) ≤ (k : Int) - 1 := by omega
      have e2 : (k : Int) - 1 < (zs.length : Int) := by omega
      have e3 : ((k : Int) - 1).toNat = k - 1 := by omega
      have hst : zs.getD (k - 1) 0 < zs.getD k 0 → ∀ i, i + 1 < k + 1 → zs.getD i 0 < zs.getD (i + 1) 0 := fun h i hi => by
        by_cases he : i + 1 = k
        · subst he; exact h
        · exact HO.out i (by omega)
      generalize zs.getD k 0 = y at *
      generalize zs.getD (k - 1) 0 = x at *
      have HS := hide hst
      have HB := hide hb
      clear hst hc hb HC0 HO
      by_cases h1 : y ≤ x
      · go_wp2_with fail
        go_quiet (fail)
        go_wp2_with fail
        go_ret
        exact ⟨⟨_, rfl, fun h => by cases h⟩, below_drewN HB.out _⟩
      · have HN := hide (HS.out (by omega))
        clear HS
        go_wp2_with fail
        go_quiet (fail)
        go_wp2_with fail
        go_roundw
        case rel => exact ⟨k + 1, by omega, by omega, by go_num, HN, below_drewN HB.out _⟩
        case measure => simp [intOf]; omega
    · have HN : Hid (Asc zs) := fun i hi => HO.out i (by omega)
      clear HO HC0
      go_wp2_with fail
      go_ret
      exact ⟨⟨_, rfl, fun _ => HN.out⟩, hb⟩

/-! ### zzDates -/
theorem Try.info29 : (Try.prog.info? 29).map (fun i => (i.zero, i.size, i.bytes)) = some (some (.agg #[.int .i64 0]), 1, 8) := by kernel_rfl

theorem ints_of_row {w : World} {base : Nat} {T : TypeId} {v : Value} {zs : List Int} {xs : List Value} (h : w.ownsRow base T 1 v zs.length xs) (hx : ∀ i, i < zs.length → xs[i]? = some (.int .i64 (zs.getD i 0))) : Ints w v zs := by
  have h' := h
  rcases h.2 with ⟨rfl, h0⟩ | ⟨g, cap, cur, rfl, _, _, _⟩
  · exact ⟨none, 0, by rw [h0], fun _ => rfl, fun hz => by omega⟩
  · refine ⟨_, cap, rfl, (fun h => by cases h), fun _ => ⟨g, 0, rfl, fun i hi => ?_⟩⟩
    rw [Nat.zero_add, h'.cellAt i (by omega)]
    exact hx i hi

theorem date_step {w wr w1 : World} {B n k : Nat} {T : TypeId} {zs : List Int} {xs : List Value} {y : Int} (hc : zs.getD k 0 = y) (hB : B < wr.heap.size)
    (hown : wr.ownsRow B T 1 (.slice (some ⟨B, 0, none⟩) n n) n xs) (hdone : ∀ i, i < k → xs[i]? = some (.int .i64 (zs.getD i 0))) (hb : Below B w wr) (hb1 : Below wr.heap.size wr w1) (hk : k < n) :
    ∃ xs', (w1.setCell ⟨B, k, none⟩ (.int .i64 y)).ownsRow B T 1 (.slice (some ⟨B, 0, none⟩) n n) n xs' ∧ (∀ i, i < k + 1 → xs'[i]? = some (.int .i64 (zs.getD i 0))) ∧
      Below B w (w1.setCell ⟨B, k, none⟩ (.int .i64 y)) ∧ B < (w1.setCell ⟨B, k, none⟩ (.int .i64 y)).heap.size := by
  have h1 := own_below hown hb1
  have h2 := (h1.stored k (.int .i64 y)).1
  have hxl : xs.length = n * 1 := hown.1
  refine ⟨_, h2, ?_, ?_, ?_⟩
  · intro i hi
    by_cases hik : i < k
    · rw [List.getElem?_set_ne (by omega)]
      exact hdone i hik
    · obtain rfl : i = k := by omega
      rw [hc, List.getElem?_set_self (by omega)]
  · exact (hb.trans (hb1.mono (by omega))).setCell (by simp) _
  · have := hb1.size
    simp [World.setCell]
    omega

theorem dates_nil (w : World) : Calls Try.prog 31 #[.slice none 0 0] w fun e w' => e = .returned (.slice none 0 0) ∧ w' = w := by
  have q22 : ∀ (w : World) (a : Option Addr) (n c n' c' : Nat), (binOp .eql 22 (.slice a n c) (.slice none n' c')).run Try.prog w = .ok (.bool a.isNone) w := fun w a n c n' c' => Lib.run_eql_slice_nil w _ _ a n c n' c' Try.underlying22
  go_enter Try.func31, Try.ntmps31
  go_wp2
  go_ret
  exact ⟨rfl, rfl⟩

set_option maxHeartbeats 1000000 in
theorem dates_some (x : Addr) (cap : Nat) (zs : List Int) (w : World) (hv : Ints w (.slice (some x) zs.length cap) zs) (hl : zs.length ≤ 1073741824) :
    Calls Try.prog 31 #[.slice (some x) zs.length cap] w fun e w' => ∃ v, e = .returned v ∧ Ints w' v zs ∧ Below w.heap.size w w' := by
  have q22 : ∀ (w : World) (a : Option Addr) (n c n' c' : Nat), (binOp .eql 22 (.slice a n c) (.slice none n' c')).run Try.prog w = .ok (.bool a.isNone) w := fun w a n c n' c' => Lib.run_eql_slice_nil w _ _ a n c n' c' Try.underlying22
  obtain ⟨i0, hi, hz0, hz1, hz2⟩ := info_parts Try.info29
  obtain ⟨a', cap', ha', _, hc0⟩ := hv
  simp only [Value.slice.injEq] at ha'
  obtain ⟨rfl, _, rfl⟩ := ha'
  have hml : zs.length ≤ maxLen := by unfold maxLen; omega
  go_enter Try.func31, Try.ntmps31
  go_wp2_with (at_make; refine wpList_make_full _ rfl _ _ 48 rfl w.heap.size 29 i0 _ 1 Try.underlying48 hi hz0 hz1 _ _ _ _ zs.length rfl rfl rfl rfl (by rw [hz2]; omega) hml (Nat.le_refl _) ?_; intro w1 hown hgrow)
  have hb0 : Below w.heap.size w w1 := (Below.refl _ _).grown hgrow (Nat.le_refl _) (fun k h => by cases h)
  have hs0 : w.heap.size < w1.heap.size := (hown.lt w.heap.size rfl).2
  clear hgrow
  go_loopw [4] (fun i wr => ∃ k : Nat, k ≤ zs.length ∧ i = .int .i64 k ∧ ∃ xs, wr.ownsRow w.heap.size 29 1 (.slice (some ⟨w.heap.size, 0, none⟩) zs.length zs.length) zs.length xs ∧
      (∀ i, i < k → xs[i]? = some (.int .i64 (zs.getD i 0))) ∧ Below w.heap.size w wr ∧ w.heap.size < wr.heap.size) (fun i _ => zs.length - (intOf i).toNat)
  case atStart => exact ⟨0, Nat.zero_le _, rfl, _, hown, fun i h => by omega, hb0, hs0⟩
  case round =>
    obtain ⟨k, hk, rfl, xs, hown, hdone, hb, hsz⟩ := hrel
    clear hb0 hs0
    by_cases hlt : k < zs.length
    · obtain ⟨b, off, hx, hc⟩ := hc0 (by omega)
      obtain rfl := Option.some.inj hx
      clear hx hc0
      have hlb : b < w.heap.size := World.block_lt_of_cell? w _ (hc k hlt)
      have p0 := (hb.cell (p := ⟨b, _, none⟩) hlb).trans (hc k hlt)
      have hxl := hown.1
      obtain ⟨c0, e0⟩ : ∃ u, xs[k]? = some u := ⟨_, List.getElem?_eq_getElem (by omega)⟩
      have d0 := (hown.cellAt k (by omega)).trans e0
      have f0 := hown.frozenAt k
      have hst := fun y w1 h => @date_step w wr w1 w.heap.size zs.length k 29 zs xs y h hsz hown hdone hb
      generalize hcd : zs.getD k 0 = y at *
      have HC := hide hcd
      have HST := hide hst
      have g0 : (0 : Int) ≤ (k : Int) := by omega
      have g1 : (k : Int) < (zs.length : Int) := by omega
      obtain ⟨wo, rfl⟩ : ∃ x : World, x = wr := ⟨_, rfl⟩
      clear hc hcd hown hdone hb e0 hst
      go_wp2_with fail
      refine (day_any y _).mono ?_
      rintro e w2 ⟨rfl, hb1⟩
      have D0 := (hb1.cell (p := ⟨w.heap.size, k, none⟩) hsz).trans d0
      have F0 := (hb1.frozen (p := ⟨w.heap.size, k, none⟩) hsz).trans f0
      obtain ⟨xs', R1, R2, R3, R4⟩ := HST.out y w2 rfl hb1 hlt
      have H1 := hide R1
      have H2 := hide R2
      have H3 := hide R3
      have H4 := hide R4
      clear R1 R2 R3 R4 hb1 d0 f0 p0 HST
      go_wp2_with fail
      go_roundw
      case rel => exact ⟨k + 1, by omega, by go_num, xs', H1.out, (by have := H2.out; rw [HC.out] at *; exact this), H3.out, H4.out⟩
      case measure => simp [intOf]; omega
    · go_wp2_with fail
      go_ret
      obtain rfl : k = zs.length := by omega
      exact ⟨_, rfl, ints_of_row hown hdone, hb⟩

theorem dates_any (v : Value) (zs : List Int) (w : World) (hv : Ints w v zs) (hl : zs.length ≤ 1073741824) :
    Calls Try.prog 31 #[v] w fun e w' => ∃ v', e = .returned v' ∧ Ints w' v' zs ∧ Below w.heap.size w w' := by
  have hv' := hv
  obtain ⟨a, cap, rfl, hn, hc⟩ := hv
  cases a with
  | none =>
    have hz : zs = [] := by
      cases zs with
      | nil => rfl
      | cons x r => obtain ⟨_, _, h, _⟩ := hc (by simp); cases h
    subst hz
    have := hn rfl
    subst this
    refine (dates_nil w).mono ?_
    rintro e w' ⟨rfl, rfl⟩
    exact ⟨_, rfl, ⟨none, 0, rfl, fun _ => rfl, fun h => by simp at h⟩, Below.refl _ _⟩
  | some x => exact dates_some x cap zs w hv' hl

/-! ### the calendar -/
/-- v points to a calendar whose days are zs and whose span is (f, t). -/
def Cal (w : World) (v : Value) (zs : List Int) (f t : Int) : Prop :=
  ∃ B sv, v = .pointer (some ⟨B, 0, none⟩) ∧ w.heap[B]? = some (.cells #[sv, .int .i64 f, .int .i64 t] 64 (0, 0)) ∧ Ints w sv zs
theorem Cal.below {w w' : World} {v : Value} {zs : List Int} {f t : Int} (h : Cal w v zs f t) (hb : Below w.heap.size w w') : Cal w' v zs f t := by
  obtain ⟨B, sv, rfl, h1, h2⟩ := h
  refine ⟨B, sv, rfl, ?_, h2.below hb⟩
  have hB : B < w.heap.size := by
    rcases Nat.lt_or_ge B w.heap.size with h | h
    · exact h
    · rw [Array.getElem?_eq_none h] at h1; cases h1
  rw [hb.block _ hB]
  exact h1

set_option maxHeartbeats 400000 in
theorem new_any (sv : Value) (zs : List Int) (f t : Int) (w : World) (hv : Ints w sv zs) :
    Calls Try.prog 30 #[sv, .agg #[.int .i64 f, .int .i64 t]] w fun e w' => ∃ v', e = .returned v' ∧ Cal w' v' zs f t ∧ Below w.heap.size w w' := by
  have HV := hide hv
  obtain ⟨a, cap, rfl, _, _⟩ := hv
  go_enter Try.func30, Try.ntmps30
  go_wp2
  go_ret
  refine ⟨_, rfl, ⟨w.heap.size + 1, .slice a zs.length cap, rfl, ?_, HV.out.below (two_below _ _ _)⟩, two_below _ _ _⟩
  have := heap_alloc_new (w.alloc (.cells #[.int .i64 f, .int .i64 t] 46)) (.cells #[.slice a zs.length cap, .int .i64 f, .int .i64 t] 64)
  simpa using this

set_option maxHeartbeats 400000 in
theorem cal_any (v : Value) (zs : List Int) (f t : Int) (w : World) (hv : Ints w v zs) (hl : zs.length ≤ 1073741824) :
    Calls Try.prog 12 #[v, .int .i64 f, .int .i64 t] w fun e w' => ∃ v', e = .returned v' ∧ Cal w' v' zs f t ∧ Below w.heap.size w w' := by
  have HV := hide hv
  clear hv
  go_enter Try.func12, Try.ntmps12
  go_wp2_with fail
  refine (dates_any v zs _ HV.out hl).mono ?_
  rintro e w1 ⟨v1, rfl, h1, hb1⟩
  have H1 := hide h1
  have HB1 := hide hb1
  clear h1 hb1 HV
  go_wp2_with fail
  refine (day_any f _).mono ?_
  rintro e w2 ⟨rfl, hb2⟩
  have H2 := hide (H1.out.below hb2)
  have HB2 := hide (HB1.out.trans (hb2.mono HB1.out.size))
  clear hb2 H1 HB1
  go_wp2_with fail
  refine (day_any t _).mono ?_
  rintro e w3 ⟨rfl, hb3⟩
  have H3 := hide (H2.out.below hb3)
  have HB3 := hide (HB2.out.trans (hb3.mono HB2.out.size))
  clear hb3 H2 HB2
  go_wp2_with fail
  refine (new_any v1 zs f t _ H3.out).mono ?_
  rintro e w4 ⟨v4, rfl, hc4, hb4⟩
  have H4 := hide hc4
  have HB4 := hide (HB3.out.trans (hb4.mono HB3.out.size))
  clear hb4 H3 HB3 hc4
  go_wp2_with fail
  go_ret
  exact ⟨_, rfl, H4.out, HB4.out⟩

/-! ### Period.Contains -/
set_option maxHeartbeats 400000 in
theorem contains_any (f t d : Int) (w : World) : Calls Try.prog 35 #[.agg #[.int .i64 f, .int .i64 t], .agg #[.int .i64 d]] w fun e w' => e = .returned (.bool (holds d (f, t))) ∧ Below w.heap.size w w' := by
  have HB2 := hide (two_below w (.cells #[.int .i64 f, .int .i64 t] 46) (.cells #[.int .i64 d] 29))
  go_enter Try.func35, Try.ntmps35
  go_wp2_with fail
  refine (before_any d f _).mono ?_
  rintro e w1 ⟨rfl, hb1⟩
  have k0 := (hb1.cell (p := ⟨w.heap.size, 1, none⟩) (by simp; omega)).trans (cell_first _ _ _ _ _)
  have k1 := (hb1.cell (p := ⟨w.heap.size + 1, 0, none⟩) (by simp)).trans (cell_second _ _ _ _ _)
  simp at k0 k1
  have HB1 := hide (HB2.out.trans (hb1.mono HB2.out.size))
  clear hb1 HB2
  by_cases h1 : d < f
  · have hd : decide (d < f) = true := decide_eq_true h1
    have HF := hide (holds_no (d := d) (p := (f, t)) (.inl h1))
    rw [hd]
    clear hd
    go_wp2_with fail
    go_ret
    exact ⟨ret_bool HF.out.symm, HB1.out⟩
  · have hd : decide (d < f) = false := decide_eq_false h1
    rw [hd]
    clear hd
    go_wp2_with fail
    refine (after_any d t _).mono ?_
    rintro e w2 ⟨rfl, hb2⟩
    have HB2 := hide (HB1.out.trans (hb2.mono HB1.out.size))
    clear hb2 HB1 k0 k1
    by_cases h2 : t < d
    · have hd : decide (t < d) = true := decide_eq_true h2
      have HF := hide (holds_no (d := d) (p := (f, t)) (.inr h2))
      rw [hd]
      clear hd
      go_wp2_with fail
      go_ret
      exact ⟨ret_bool HF.out.symm, HB2.out⟩
    · have hd : decide (t < d) = false := decide_eq_false h2
      have HF := hide (holds_yes (d := d) (p := (f, t)) (by simp; omega) (by simp; omega))
      rw [hd]
      clear hd
      go_wp2_with fail
      go_ret
      exact ⟨ret_bool HF.out.symm, HB2.out⟩

/-! ### ZZCalendarSpan, ZZCalendarDays -/
theorem far_alloc {w : World} {B : Nat} {x o : Obj} (h : w.heap[B]? = some x) : (w.alloc o).heap[B]? = some x := by
  have hB : B < w.heap.size := by
    rcases Nat.lt_or_ge B w.heap.size with h' | h'
    · exact h'
    · rw [Array.getElem?_eq_none h'] at h; cases h
  rw [Below.heap_alloc _ _ _ hB]
  exact h
theorem Cal.days (w : World) (v : Value) (zs : List Int) (f t : Int) (h : Cal w v zs f t) :
    Calls Try.prog 25 #[v] w fun e w' => ∃ v', e = .returned v' ∧ Ints w' v' zs ∧ w' = w := by
  obtain ⟨B, sv, rfl, h1, h2⟩ := h
  have c0 := cell_of_row w B 0 _ _ _ h1
  simp at c0
  have HV := hide h2
  obtain ⟨a, cap, rfl, _, _⟩ := h2
  clear h1
  go_enter Try.func25, Try.ntmps25
  go_wp2
  go_ret
  exact ⟨_, rfl, HV.out, rfl⟩
theorem Cal.span (w : World) (v : Value) (zs : List Int) (f t : Int) (h : Cal w v zs f t) :
    Calls Try.prog 24 #[v] w fun e w' => e = .returned (.agg #[.int .i64 f, .int .i64 t]) ∧ Below w.heap.size w w' := by
  obtain ⟨B, sv, rfl, h1, h2⟩ := h
  have h3 : (w.alloc (.cells #[.int .i64 0, .int .i64 0] 46)).heap[B]? = _ := far_alloc h1
  have c0 := cell_of_row _ B 1 _ _ _ h3
  have c1 := cell_of_row _ B 2 _ _ _ h3
  have hn := heap_alloc_new w (.cells #[.int .i64 0, .int .i64 0] 46)
  have n0 := cell_of_row _ _ 0 _ _ _ hn
  have n1 := cell_of_row _ _ 1 _ _ _ hn
  have f0 := frozen_of_row _ w.heap.size 0 _ _ hn
  have f1 := frozen_of_row _ w.heap.size 1 _ _ hn
  simp at c0 c1 n0 n1
  clear h1 h2 h3 hn
  go_enter Try.func24, Try.ntmps24
  go_wp2
  exact bodyPost_ret (v := .agg #[.int .i64 f, .int .i64 t]) (by simp [results, Try.results24, go_sem]) rfl ⟨rfl, one_below _ _⟩

end Go.Proofs.Qxb6601894a
