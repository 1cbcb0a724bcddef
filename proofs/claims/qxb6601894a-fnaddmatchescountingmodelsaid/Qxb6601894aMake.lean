/-
  Seat b6601894a: ZZSuspensionOn, zzWellOrdered, zzSuspensions, and the law FnSuspensionOnFindsTheOneThatHoldsTheDay.
-/
import Derived.Test.Qxb6601894aOn
namespace Go.Proofs.Qxb6601894a
open Go.RowKit
attribute [local go_sem ↓] Go.wp_at_zero Go.wp_at_succ

set_option maxHeartbeats 400000 in
theorem zzOn_any (v : Value) (ss : List (Int × Int)) (d : Int) (w : World) (hv : Prs w v ss) (hl : ss.length ≤ 1073741824) (hw : wellB ss = true) :
    Calls Try.prog 26 #[v, .agg #[.int .i64 d]] w fun e w' => e = .returned (onV (onS ss d)) ∧ Below w.heap.size w w' := by
  have HB2 := hide (two_below w (.cells #[.int .i64 d] 29) (.cells #[.int .i64 0, .int .i64 0] 51))
  have hbx : ((w.alloc (.cells #[.int .i64 d] 29)).alloc (.cells #[.int .i64 0, .int .i64 0] 51)).heap[w.heap.size + 1]? = some (.cells #[.int .i64 0, .int .i64 0] 51 (0, 0)) := by
    have := heap_alloc_new (w.alloc (.cells #[.int .i64 d] 29)) (.cells #[.int .i64 0, .int .i64 0] 51)
    simpa using this
  have HC := hide (on_any v ss d _ (hv.below HB2.out) hl hw)
  have HBX := hide hbx
  clear hv hw hbx
  go_enter Try.func26, Try.ntmps26
  go_wp2_with fail
  refine HC.out.mono ?_
  rintro e w1 ⟨rfl, hb1⟩
  have hbx1 : w1.heap[w.heap.size + 1]? = some (.cells #[.int .i64 0, .int .i64 0] 51 (0, 0)) := by rw [hb1.block _ (by simp)]; exact HBX.out
  have HB1 := hide (HB2.out.trans (hb1.mono HB2.out.size))
  have r0 : w1.cell? ⟨w.heap.size + 1, 0, none⟩ = some (.int .i64 0) := by rw [cell_of_row w1 _ _ _ _ _ hbx1]; rfl
  have r1 : w1.cell? ⟨w.heap.size + 1, 1, none⟩ = some (.int .i64 0) := by rw [cell_of_row w1 _ _ _ _ _ hbx1]; rfl
  have f0 : w1.frozen? ⟨w.heap.size + 1, 0, none⟩ = false := frozen_of_row w1 _ _ _ _ hbx1
  have f1 : w1.frozen? ⟨w.heap.size + 1, 1, none⟩ = false := frozen_of_row w1 _ _ _ _ hbx1
  clear hb1 HB2 HBX HC hbx1
  go_wp2_with fail
  exact bodyPost_ret (v := onV (onS ss d)) (by simp [results, Try.results26, go_sem, r0, r1]) rfl ⟨rfl, (HB1.out.setCell (by simp) _).setCell (by simp) _⟩

/-! ### zzWellOrdered -/
theorem okAt_first {ss : List (Int × Int)} (h : ¬ (nth ss 0).2 < (nth ss 0).1) : okAt ss 0 = true := by
  unfold okAt; rw [decide_eq_true (by omega)]; rfl
theorem okAt_yes {ss : List (Int × Int)} {i : Nat} (h : ¬ (nth ss i).2 < (nth ss i).1) (h2 : ¬ (nth ss i).1 ≤ (nth ss (i - 1)).2) : okAt ss i = true := by
  unfold okAt; rw [decide_eq_true (by omega), decide_eq_true (p := (nth ss (i - 1)).2 < (nth ss i).1) (by omega), Bool.or_true]; rfl
theorem okAt_no1 {ss : List (Int × Int)} {i : Nat} (h : (nth ss i).2 < (nth ss i).1) : okAt ss i = false := by
  unfold okAt; rw [decide_eq_false (by omega)]; rfl
theorem okAt_no2 {ss : List (Int × Int)} {i : Nat} (h0 : 0 < i) (h2 : (nth ss i).1 ≤ (nth ss (i - 1)).2) : okAt ss i = false := by
  unfold okAt; rw [decide_eq_false (p := i = 0) (by omega), decide_eq_false (p := (nth ss (i - 1)).2 < (nth ss i).1) (by omega), Bool.or_false, Bool.and_false]

set_option maxHeartbeats 1000000 in
theorem well_any (v : Value) (ss : List (Int × Int)) (w : World) (hv : Prs w v ss) (hl : ss.length ≤ 1073741824) :
    Calls Try.prog 21 #[v] w fun e w' => e = .returned (.bool (wellB ss)) ∧ Below w.heap.size w w' := by
  obtain ⟨a, cap, rfl, _, hc0⟩ := hv
  have HC0 := hide hc0
  clear hc0
  go_enter Try.func21, Try.ntmps21
  go_wp2_with fail
  go_loopw [3] (fun i wr => ∃ k : Nat, k ≤ ss.length ∧ i = .int .i64 k ∧ Hid (∀ i, i < k → okAt ss i = true) ∧ Below w.heap.size w wr) (fun i _ => ss.length - (intOf i).toNat)
  case atStart => exact ⟨0, Nat.zero_le _, rfl, fun i h => by omega, Below.refl _ _⟩
  case round =>
    obtain ⟨k, hk, rfl, HO, hb⟩ := hrel
    by_cases hlt : k < ss.length
    · obtain ⟨b, off, hx, hc⟩ := HC0.out (by omega)
      subst hx
      have hcc := hc k hlt
      have hlb : b < w.heap.size := World.block_lt_of_cell? w _ hcc.1
      have c0 := (hb.cell (p := ⟨b, _, none⟩) hlb).trans hcc.1
      have c1 := (hb.cell (p := ⟨b, _, none⟩) hlb).trans hcc.2
      have g0 : (0 : Int) ≤ (k : Int) := by omega
      have g1 : (k : Int) < (ss.length : Int) := by omega
      by_cases h1 : (nth ss k).2 < (nth ss k).1
      · have HN := hide (well_not hlt (okAt_no1 h1))
        change (ss.getD k (0, 0)).2 < (ss.getD k (0, 0)).1 at h1
        generalize (ss.getD k (0, 0)).1 = f at *
        generalize (ss.getD k (0, 0)).2 = t at *
        have HB := hide hb
        clear hc hcc hb HC0 HO
        go_wp2_with fail
        go_quiet (fail)
        go_wp2_with fail
        go_ret
        exact ⟨ret_bool HN.out.symm, below_drewN HB.out _⟩
      · by_cases hk0 : k = 0
        · have HN : Hid (∀ i, i < k + 1 → okAt ss i = true) := fun i hi => by
            have hi0 : i = 0 := by omega
            rw [hi0]
            rw [hk0] at h1
            exact okAt_first h1
          have hk0' : k ≤ 0 := by omega
          have hd : decide (0 < k) = false := decide_eq_false (by omega)
          change ¬ (ss.getD k (0, 0)).2 < (ss.getD k (0, 0)).1 at h1
          generalize (ss.getD k (0, 0)).1 = f at *
          generalize (ss.getD k (0, 0)).2 = t at *
          have HB := hide hb
          clear hc hcc hb HC0 HO hk0
          go_wp2_with fail
          go_quiet (fail)
          go_wp2_with fail
          go_quiet (fail)
          go_wp2_with fail
          go_roundw
          case rel => exact ⟨k + 1, by omega, by go_num, HN, below_drewN HB.out _⟩
          case measure => simp [intOf]; omega
        · have hcp := hc (k - 1) (by omega)
          have c2 := (hb.cell (p := ⟨b, _, none⟩) hlb).trans hcp.2
          have hd : decide (0 < k) = true := decide_eq_true (by omega)
          have e5 : 0 < k := by omega
          have e1 : (0 : Int) ≤ (k : Int) - 1 := by omega
          have e2 : (k : Int) - 1 < (ss.length : Int) := by omega
          have e3 : ((k : Int) - 1).toNat = k - 1 := by omega
          have e4 : (0 : Int) < (k : Int) := by omega
          by_cases h2 : (nth ss k).1 ≤ (nth ss (k - 1)).2
          · have HN := hide (well_not hlt (okAt_no2 (by omega) h2))
            change ¬ (ss.getD k (0, 0)).2 < (ss.getD k (0, 0)).1 at h1
            change (ss.getD k (0, 0)).1 ≤ (ss.getD (k - 1) (0, 0)).2 at h2
            generalize (ss.getD k (0, 0)).1 = f at *
            generalize (ss.getD k (0, 0)).2 = t at *
            generalize (ss.getD (k - 1) (0, 0)).2 = t' at *
            have HB := hide hb
            clear hc hcc hb HC0 HO hcp
            go_wp2_with fail
            go_quiet (fail)
            go_wp2_with fail
            go_quiet (fail)
            go_wp2_with fail
            go_ret
            exact ⟨ret_bool HN.out.symm, below_drewN (below_drewN HB.out _) _⟩
          · have HN : Hid (∀ i, i < k + 1 → okAt ss i = true) := fun i hi => by
              by_cases he : i = k
              · subst he; exact okAt_yes h1 h2
              · exact HO.out i (by omega)
            change ¬ (ss.getD k (0, 0)).2 < (ss.getD k (0, 0)).1 at h1
            change ¬ (ss.getD k (0, 0)).1 ≤ (ss.getD (k - 1) (0, 0)).2 at h2
            generalize (ss.getD k (0, 0)).1 = f at *
            generalize (ss.getD k (0, 0)).2 = t at *
            generalize (ss.getD (k - 1) (0, 0)).2 = t' at *
            have HB := hide hb
            clear hc hcc hb HC0 HO hcp
            go_wp2_with fail
            go_quiet (fail)
            go_wp2_with fail
            go_quiet (fail)
            go_wp2_with fail
            go_roundw
            case rel => exact ⟨k + 1, by omega, by go_num, HN, below_drewN HB.out _⟩
            case measure => simp [intOf]; omega
    · have HN := hide (well_all (ss := ss) (fun i hi => HO.out i (by omega)))
      clear HO HC0
      go_wp2_with fail
      go_ret
      exact ⟨ret_bool HN.out.symm, hb⟩


/-! ### zzSuspensions -/
theorem Try.info51 : (Try.prog.info? 51).map (fun i => (i.zero, i.size, i.bytes)) = some (some (.agg #[.int .i64 0, .int .i64 0]), 2, 16) := by kernel_rfl

/-- Two cells of a list: pair i. -/
def Row2 (xs : List Value) (i : Nat) (p : Int × Int) : Prop := xs[i * 2]? = some (.int .i64 p.1) ∧ xs[i * 2 + 1]? = some (.int .i64 p.2)
/-- A slice of pairs of the call's own. -/
def OwnPrs (w : World) (base : Nat) (T : TypeId) (v : Value) (ss : List (Int × Int)) : Prop :=
  ∃ xs, w.ownsRow base T 2 v ss.length xs ∧ ∀ i, i < ss.length → Row2 xs i (ss.getD i (0, 0))
theorem OwnPrs.below {w w' : World} {base : Nat} {T : TypeId} {v : Value} {ss : List (Int × Int)} (h : OwnPrs w base T v ss) (hb : Below w.heap.size w w') : OwnPrs w' base T v ss := by
  obtain ⟨xs, ho, h⟩ := h
  exact ⟨xs, own_below ho hb, h⟩
theorem OwnPrs.prs {w : World} {base : Nat} {T : TypeId} {v : Value} {ss : List (Int × Int)} (h : OwnPrs w base T v ss) : Prs w v ss := by
  obtain ⟨xs, ho, h⟩ := h
  have ho' := ho
  rcases ho.2 with ⟨rfl, h0⟩ | ⟨g, cap, cur, rfl, _, _, _⟩
  · exact ⟨none, 0, by rw [h0], fun _ => rfl, fun hz => by omega⟩
  · refine ⟨_, cap, rfl, (fun h => by cases h), fun _ => ⟨g, 0, rfl, fun i hi => ?_⟩⟩
    obtain ⟨r0, r1⟩ := h i hi
    refine ⟨?_, ?_⟩
    · rw [Nat.zero_add, ho'.cellAt _ (by omega)]; exact r0
    · rw [Nat.zero_add, ho'.cellAt _ (by omega)]; exact r1

theorem pair_step {w wr w1 : World} {B n k : Nat} {T : TypeId} {ss : List (Int × Int)} {xs : List Value} {f t : Int} (hc : ss.getD k (0, 0) = (f, t)) (hB : B < wr.heap.size)
    (hown : wr.ownsRow B T 2 (.slice (some ⟨B, 0, none⟩) n n) n xs) (hdone : ∀ i, i < k → Row2 xs i (ss.getD i (0, 0))) (hb : Below B w wr) (hb1 : Below wr.heap.size wr w1) (hk : k < n) :
    ∃ xs', ((w1.setCell ⟨B, k * 2, none⟩ (.int .i64 f)).setCell ⟨B, k * 2 + 1, none⟩ (.int .i64 t)).ownsRow B T 2 (.slice (some ⟨B, 0, none⟩) n n) n xs' ∧ (∀ i, i < k + 1 → Row2 xs' i (ss.getD i (0, 0))) ∧
      Below B w ((w1.setCell ⟨B, k * 2, none⟩ (.int .i64 f)).setCell ⟨B, k * 2 + 1, none⟩ (.int .i64 t)) ∧ B < ((w1.setCell ⟨B, k * 2, none⟩ (.int .i64 f)).setCell ⟨B, k * 2 + 1, none⟩ (.int .i64 t)).heap.size := by
  have h1 := own_below hown hb1
  have h2 := (h1.stored (k * 2) (.int .i64 f)).1
  have h3 := (h2.stored (k * 2 + 1) (.int .i64 t)).1
  have hxl : xs.length = n * 2 := hown.1
  refine ⟨_, h3, ?_, ?_, ?_⟩
  · intro i hi
    by_cases hik : i < k
    · obtain ⟨r0, r1⟩ := hdone i hik
      refine ⟨?_, ?_⟩
      all_goals
        rw [List.getElem?_set_ne (by omega), List.getElem?_set_ne (by omega)]
        assumption
    · obtain rfl : i = k := by omega
      rw [hc]
      refine ⟨?_, ?_⟩
      · rw [List.getElem?_set_ne (by omega), List.getElem?_set_self (by omega)]
      · rw [List.getElem?_set_self (by simp; omega)]
  · exact ((hb.trans (hb1.mono (by omega))).setCell (by simp) _).setCell (by simp) _
  · have := hb1.size
    simp [World.setCell]
    omega

theorem cell_far {w : World} {p q : Addr} {x : Value} (h : q.block ≠ p.block) : (w.setCell p x).cell? q = w.cell? q := World.cell?_of_block (Below.heap_setCell w p x q.block h)
theorem two_far {w : World} {B b o o0 o1 : Nat} {x0 x1 : Value} (h : b ≠ B) : ((w.setCell ⟨B, o0, none⟩ x0).setCell ⟨B, o1, none⟩ x1).cell? ⟨b, o, none⟩ = w.cell? ⟨b, o, none⟩ := by
  rw [cell_far h, cell_far h]

set_option maxHeartbeats 1000000 in
theorem susp_some (x : Addr) (cap : Nat) (ss : List (Int × Int)) (w : World) (hv : Prs w (.slice (some x) ss.length cap) ss) (hl : ss.length ≤ 1073741824) :
    Calls Try.prog 22 #[.slice (some x) ss.length cap] w fun e w' => ∃ v, e = .returned v ∧ OwnPrs w' w.heap.size 51 v ss ∧ Below w.heap.size w w' := by
  have q39 : ∀ (w : World) (a : Option Addr) (n c n' c' : Nat), (binOp .eql 39 (.slice a n c) (.slice none n' c')).run Try.prog w = .ok (.bool a.isNone) w := fun w a n c n' c' => Lib.run_eql_slice_nil w _ _ a n c n' c' Try.underlying39
  obtain ⟨i0, hi, hz0, hz1, hz2⟩ := info_parts Try.info51
  obtain ⟨a', cap', ha', _, hc0⟩ := hv
  simp only [Value.slice.injEq] at ha'
  obtain ⟨rfl, _, rfl⟩ := ha'
  have hml : ss.length ≤ maxLen := by unfold maxLen; omega
  go_enter Try.func22, Try.ntmps22
  go_wp2_with (at_make; refine wpList_make_full _ rfl _ _ 42 rfl w.heap.size 51 i0 _ 2 Try.underlying42 hi hz0 hz1 _ _ _ _ ss.length rfl rfl rfl rfl (by rw [hz2]; omega) hml (Nat.le_refl _) ?_; intro w1 hown hgrow)
  have hb0 : Below w.heap.size w w1 := (Below.refl _ _).grown hgrow (Nat.le_refl _) (fun k h => by cases h)
  have hs0 : w.heap.size < w1.heap.size := (hown.lt w.heap.size rfl).2
  clear hgrow
  go_loopw [4] (fun i wr => ∃ k : Nat, k ≤ ss.length ∧ i = .int .i64 k ∧ ∃ xs, wr.ownsRow w.heap.size 51 2 (.slice (some ⟨w.heap.size, 0, none⟩) ss.length ss.length) ss.length xs ∧
      (∀ i, i < k → Row2 xs i (ss.getD i (0, 0))) ∧ Below w.heap.size w wr ∧ w.heap.size < wr.heap.size) (fun i _ => ss.length - (intOf i).toNat)
  case atStart => exact ⟨0, Nat.zero_le _, rfl, _, hown, fun i h => by omega, hb0, hs0⟩
  case round =>
    obtain ⟨k, hk, rfl, xs, hown, hdone, hb, hsz⟩ := hrel
    clear hb0 hs0
    by_cases hlt : k < ss.length
    · obtain ⟨b, off, hx, hc⟩ := hc0 (by omega)
      obtain rfl := Option.some.inj hx
      clear hx hc0
      have hcc := hc k hlt
      have hlb : b < w.heap.size := World.block_lt_of_cell? w _ hcc.1
      have p0 := (hb.cell (p := ⟨b, _, none⟩) hlb).trans hcc.1
      have p1 := (hb.cell (p := ⟨b, _, none⟩) hlb).trans hcc.2
      have hxl := hown.1
      obtain ⟨c0, e0⟩ : ∃ u, xs[k * 2]? = some u := ⟨_, List.getElem?_eq_getElem (by omega)⟩
      obtain ⟨c1, e1⟩ : ∃ u, xs[k * 2 + 1]? = some u := ⟨_, List.getElem?_eq_getElem (by omega)⟩
      have d0 := (hown.cellAt (k * 2) (by omega)).trans e0
      have d1 := (hown.cellAt (k * 2 + 1) (by omega)).trans e1
      have f0 := hown.frozenAt (k * 2)
      have f1 := hown.frozenAt (k * 2 + 1)
      generalize hcd : ss.getD k (0, 0) = pr at *
      obtain ⟨f, t⟩ := pr
      simp only at p0 p1
      have HC := hide hcd
      have HO := hide hown
      have HD := hide hdone
      have HB := hide hb
      have g0 : (0 : Int) ≤ (k : Int) := by omega
      have g1 : (k : Int) < (ss.length : Int) := by omega
      obtain ⟨wo, rfl⟩ : ∃ x : World, x = wr := ⟨_, rfl⟩
      have hlo : b < wo.heap.size := by omega
      have hbne : b ≠ w.heap.size := by omega
      clear hc hcc hcd hown hdone hb e0 e1
      go_wp2_with fail
      go_region_held3 (fun w' => w'.cell? ⟨b, off + k * 2, none⟩ = some (.int .i64 f) ∧ w'.cell? ⟨b, off + k * 2 + 1, none⟩ = some (.int .i64 t))
        (first | go_keep | (exact ⟨(two_far hbne).trans ((hbw3.cell (p := ⟨b, _, none⟩) hlo).trans p0), (two_far hbne).trans ((hbw3.cell (p := ⟨b, _, none⟩) hlo).trans p1)⟩) | (exact ⟨(hbw3.cell (p := ⟨b, _, none⟩) hlo).trans p0, (hbw3.cell (p := ⟨b, _, none⟩) hlo).trans p1⟩) | (exact ⟨(hbw2.cell (p := ⟨b, _, none⟩) hlo).trans p0, (hbw2.cell (p := ⟨b, _, none⟩) hlo).trans p1⟩))
        (first | (go_at_call 14; refine (day_any f _).mono ?_; rintro e w2 ⟨rfl, hb1⟩; have hbw2 := below_of_drew hb1) | (go_at_call 14; refine (day_any t _).mono ?_; rintro e w3 ⟨rfl, hb2⟩; have hbw3 := hbw2.trans (hb2.mono hbw2.size); have D0 := (hbw3.cell (p := ⟨w.heap.size, k * 2, none⟩) hsz).trans d0; have D1 := (hbw3.cell (p := ⟨w.heap.size, k * 2 + 1, none⟩) hsz).trans d1; have F0 := (hbw3.frozen (p := ⟨w.heap.size, k * 2, none⟩) hsz).trans f0; have F1 := (hbw3.frozen (p := ⟨w.heap.size, k * 2 + 1, none⟩) hsz).trans f1))
      obtain ⟨xs', R1, R2, R3, R4⟩ := pair_step HC.out hsz HO.out HD.out HB.out hbw3 hlt
      go_wp2_with fail
      go_roundw
      case rel => exact ⟨k + 1, by omega, by go_num, xs', R1, R2, R3, R4⟩
      case measure => simp [intOf]; omega
    · go_wp2_with fail
      go_ret
      obtain rfl : k = ss.length := by omega
      exact ⟨_, rfl, ⟨xs, hown, hdone⟩, hb⟩

end Go.Proofs.Qxb6601894a
