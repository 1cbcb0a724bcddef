/-
  Seat b6601894a: zzWithinHalf, zzAllWithinHalf, Covers, search, Add.
-/
import Derived.Test.Qxb6601894aAddPlain
namespace Go.Proofs.Qxb6601894a
open Go.RowKit
attribute [local go_sem ↓] Go.wp_at_zero Go.wp_at_succ

/-! ### zzWithinHalf, zzAllWithinHalf -/
structure Half (x : Int) : Prop where
  lo : -4611686018427387903 ≤ x
  hi : x ≤ 4611686018427387903
def HalfRes (x : Int) (e : Ending) : Prop := ∃ r : Bool, e = .returned (.bool r) ∧ (r = true → Half x)
def HalfAllRes (zs : List Int) (e : Ending) : Prop := ∃ r : Bool, e = .returned (.bool r) ∧ (r = true → ∀ i, i < zs.length → Half (zs.getD i 0))

theorem half_any (x : Int) (w : World) : Calls Try.prog 9 #[.int .i64 x] w fun e w' => HalfRes x e ∧ w' = w := by
  by_cases h1 : -4611686018427387903 ≤ x
  · by_cases h2 : x ≤ 4611686018427387903
    · have hh : Hid (Half x) := ⟨h1, h2⟩
      have d1 : decide (-4611686018427387903 ≤ x) = true := decide_eq_true h1
      have d2 : decide (x ≤ 4611686018427387903) = true := decide_eq_true h2
      go_enter Try.func9, Try.ntmps9
      go_wp2_with fail
      go_ret
      exact ⟨⟨_, rfl, fun _ => hh.out⟩, rfl⟩
    · have d1 : decide (-4611686018427387903 ≤ x) = true := decide_eq_true h1
      have d2 : decide (x ≤ 4611686018427387903) = false := decide_eq_false h2
      go_enter Try.func9, Try.ntmps9
      go_wp2_with fail
      go_ret
      exact ⟨⟨_, rfl, fun h => by cases h⟩, rfl⟩
  · have d1 : decide (-4611686018427387903 ≤ x) = false := decide_eq_false h1
    go_enter Try.func9, Try.ntmps9
    go_wp2_with fail
    go_ret
    exact ⟨⟨_, rfl, fun h => by cases h⟩, rfl⟩

set_option maxHeartbeats 1000000 in
theorem halves_any (v : Value) (zs : List Int) (w : World) (hv : Ints w v zs) (hl : zs.length ≤ 1073741824) :
    Calls Try.prog 10 #[v] w fun e w' => HalfAllRes zs e ∧ w' = w := by
  obtain ⟨a, cap, rfl, _, hc0⟩ := hv
  have HC0 := hide hc0
  clear hc0
  go_enter Try.func10, Try.ntmps10
  go_wp2_with fail
  go_loop [3] (fun i => ∃ k : Nat, k ≤ zs.length ∧ i = .int .i64 k ∧ Hid (∀ i, i < k → Half (zs.getD i 0))) (fun i => zs.length - (intOf i).toNat)
  case atStart => exact ⟨0, Nat.zero_le _, rfl, fun i h => by omega⟩
  case round =>
    obtain ⟨k, hk, rfl, HO⟩ := hrel
    by_cases hlt : k < zs.length
    · obtain ⟨b, off, hx, hc⟩ := HC0.out (by omega)
      subst hx
      have c0 := hc k hlt
      have hst : Half (zs.getD k 0) → ∀ i, i < k + 1 → Half (zs.getD i 0) := fun h i hi => by
        by_cases he : i = k
        · subst he; exact h
        · exact HO.out i (by omega)
      generalize zs.getD k 0 = y at *
      have HS := hide hst
      clear hst hc HC0 HO
      go_wp2_with fail
      refine (half_any y _).mono ?_
      rintro e w1 ⟨⟨r, rfl, hr⟩, rfl⟩
      cases r with
      | false =>
        go_wp2_with fail
        go_ret
        exact ⟨⟨_, rfl, fun h => by cases h⟩, rfl⟩
      | true =>
        have HN := hide (HS.out (hr rfl))
        clear HS hr
        go_wp2_with fail
        go_round
        case rel => exact ⟨k + 1, by omega, by go_num, HN⟩
        case measure => simp [intOf]; omega
    · have HN : Hid (∀ i, i < zs.length → Half (zs.getD i 0)) := fun i hi => HO.out i (by omega)
      clear HO HC0
      go_wp2_with fail
      go_ret
      exact ⟨⟨_, rfl, fun _ => HN.out⟩, rfl⟩

/-! ### the search -/
theorem cmpD_any (n m : Int) (w : World) (hn : Half n) (hm : Half m) : Calls Try.prog 38 #[.agg #[.int .i64 n], .agg #[.int .i64 m]] w fun e w' => e = .returned (.int .i64 (n - m)) ∧ Below w.heap.size w w' := by
  have HW := hide (wrap_same (x := n - m) (by have := hn.lo; have := hm.hi; omega) (by have := hn.hi; have := hm.lo; omega))
  have HB2 := hide (two_below w (.cells #[.int .i64 n] 29) (.cells #[.int .i64 m] 29))
  clear hn hm
  go_enter Try.func38, Try.ntmps38
  go_wp2_with fail
  refine (sub_any n m _).mono ?_
  rintro e w1 ⟨rfl, hb1⟩
  rw [HW.out]
  have HB1 := hide (HB2.out.trans (hb1.mono HB2.out.size))
  clear hb1 HB2 HW
  go_wp2_with fail
  go_ret
  exact ⟨rfl, HB1.out⟩

set_option maxHeartbeats 2000000 in
theorem searchD_any (v : Value) (zs : List Int) (d : Int) (w : World) (hv : Ints w v zs) (hl : zs.length ≤ 1073741824) (hh : ∀ i, i < zs.length → Half (zs.getD i 0)) (hd : Half d) (ha : Asc zs) :
    Calls Try.prog 37 #[v, .agg #[.int .i64 d], .func (.func 38) #[] #[]] w fun e w' => ∃ i : Nat, e = .returned (.tuple #[.int .i64 i, .bool (fnd zs d i)]) ∧ LeastD zs d i ∧ Below w.heap.size w w' := by
  have hmono : ∀ i k, i ≤ k → k < zs.length → zs.getD k 0 - d < 0 → zs.getD i 0 - d < 0 := fun i k hik hk h => by
    by_cases he : i = k
    · subst he; exact h
    · have := ha.lt i k (by omega) hk; omega
  obtain ⟨a, cap, rfl, _, hc0⟩ := hv
  have HC0 := hide hc0
  have HM := hide hmono
  have HH := hide hh
  have HD := hide hd
  have HB1 := hide (one_below w (.cells #[.int .i64 d] 29))
  have hbx : (w.alloc (.cells #[.int .i64 d] 29)).heap[w.heap.size]? = some (.cells #[.int .i64 d] 29 (0, 0)) := heap_alloc_new w _
  clear hc0 hmono hh hd ha
  go_enter Try.func37, Try.ntmps37
  go_wp2_with fail
  go_loopw [9, 10] (fun iv jv wr => ∃ i j : Nat, i ≤ j ∧ j ≤ zs.length ∧ iv = .int .i64 i ∧ jv = .int .i64 j ∧ Hid ((∀ k, k < i → zs.getD k 0 - d < 0) ∧ (∀ k, j ≤ k → k < zs.length → 0 ≤ zs.getD k 0 - d)) ∧
      Below (w.heap.size + 1) (w.alloc (.cells #[.int .i64 d] 29)) wr) (fun iv jv _ => (intOf jv).toNat - (intOf iv).toNat)
  case atStart => exact ⟨0, zs.length, Nat.zero_le _, Nat.le_refl _, rfl, rfl, ⟨fun k h => by omega, fun k h h' => by omega⟩, Below.refl _ _⟩
  case round =>
    obtain ⟨i, j, hij, hj, rfl, rfl, HI, hb⟩ := hrel
    have hcb : wr.cell? ⟨w.heap.size, 0, none⟩ = some (.int .i64 d) := by
      rw [hb.cell (p := ⟨w.heap.size, 0, none⟩) (by simp), cell_of_row _ _ _ _ _ _ hbx]; rfl
    by_cases hlt : i < j
    · obtain ⟨b, off, hx, hc⟩ := HC0.out (by omega)
      subst hx
      have hh : ((i : Int) + (j : Int)) / 2 = (((i + j) / 2 : Nat) : Int) := by omega
      obtain ⟨hi1, hi2⟩ := half_lt hlt
      generalize (i + j) / 2 = h at *
      have hcc := hc h (by omega)
      have hlb : b < w.heap.size := World.block_lt_of_cell? w _ hcc
      have hbw : Below w.heap.size w wr := HB1.out.trans (hb.mono (by omega))
      have c0 := (hbw.cell (p := ⟨b, _, none⟩) hlb).trans hcc
      have hm := fun k => HM.out k h
      have hm2 := fun k => HM.out h k
      have hx2 := HH.out h (by omega)
      generalize zs.getD h 0 = y at *
      have HMM := hide hm
      have HM2 := hide hm2
      have HY := hide hx2
      have HB := hide hb
      have hsz : w.heap.size + 1 ≤ wr.heap.size := by have := hb.size; simpa using this
      obtain ⟨wo, rfl⟩ : ∃ x : World, x = wr := ⟨_, rfl⟩
      have g0 : (0 : Int) ≤ (h : Int) := by omega
      have g1 : (h : Int) < (zs.length : Int) := by omega
      clear hc hcc hm hm2 hx2 hb hbw HC0 hbx
      go_wp2_with fail
      clear hh
      go_region_held3 (fun w' => w'.cell? ⟨b, off + h, none⟩ = some (.int .i64 y) ∧ w'.cell? ⟨w.heap.size, 0, none⟩ = some (.int .i64 d))
        (first | go_keep | (go_split_ands; refine ⟨?_, ?_⟩ <;> (rw [hb1.cell (by simp; omega)]; assumption)))
        ((go_at_call 38; refine (cmpD_any y d _ HY.out HD.out).mono ?_; rintro e w1 ⟨rfl, hb1⟩))
      have HB2 := hide (HB.out.trans ((below_of_drew hb1).mono hsz))
      clear hb1 HB
      by_cases hneg : y - d < 0
      · have HN : Hid ((∀ k, k < h + 1 → zs.getD k 0 - d < 0) ∧ (∀ k, j ≤ k → k < zs.length → 0 ≤ zs.getD k 0 - d)) :=
          ⟨fun k hk => HMM.out k (by omega) (by omega) hneg, HI.out.2⟩
        clear HI HMM HM2
        go_wp2_with fail
        go_roundw
        case rel => exact ⟨h + 1, j, by omega, hj, by go_num, rfl, HN, HB2.out⟩
        case measure => simp [intOf]; omega
      · have HN : Hid ((∀ k, k < i → zs.getD k 0 - d < 0) ∧ (∀ k, h ≤ k → k < zs.length → 0 ≤ zs.getD k 0 - d)) :=
          ⟨HI.out.1, fun k h1 h2 => by
            rcases Int.lt_or_le (zs.getD k 0 - d) 0 with h3 | h3
            · exact absurd (HM2.out k h1 h2 h3) hneg
            · exact h3⟩
        clear HI HMM HM2
        go_wp2_with fail
        go_roundw
        case rel => exact ⟨i, h, hi1, by omega, rfl, rfl, HN, HB2.out⟩
        case measure => simp [intOf]; omega
    · obtain rfl : i = j := by omega
      have HL : Hid (LeastD zs d i) := ⟨hj, HI.out.1, HI.out.2⟩
      by_cases hin : i < zs.length
      · obtain ⟨b, off, hx, hc⟩ := HC0.out (by omega)
        subst hx
        have hcc := hc i hin
        have hlb : b < w.heap.size := World.block_lt_of_cell? w _ hcc
        have hbw : Below w.heap.size w wr := HB1.out.trans (hb.mono (by omega))
        have c0 := (hbw.cell (p := ⟨b, _, none⟩) hlb).trans hcc
        have HFIN : Hid (fnd zs d i = (zs.getD i 0 - d == 0)) := by unfold Hid fnd; rw [decide_eq_true hin]; rfl
        have hx2 := HH.out i hin
        generalize zs.getD i 0 = y at c0 HFIN hx2
        have HY := hide hx2
        have HBW := hide hbw
        have hsz : w.heap.size + 1 ≤ wr.heap.size := by have := hb.size; simpa using this
        obtain ⟨wo, rfl⟩ : ∃ x : World, x = wr := ⟨_, rfl⟩
        have g0 : (0 : Int) ≤ (i : Int) := by omega
        have g1 : (i : Int) < (zs.length : Int) := by omega
        clear hc hcc hb hbw HC0 hbx HM HI hlt hx2
        go_wp2_with fail
        go_region_held3 (fun w' => w'.cell? ⟨b, off + i, none⟩ = some (.int .i64 y) ∧ w'.cell? ⟨w.heap.size, 0, none⟩ = some (.int .i64 d))
          (first | go_keep | (go_split_ands; refine ⟨?_, ?_⟩ <;> (rw [hb1.cell (by simp; omega)]; assumption)))
          ((go_at_call 38; refine (cmpD_any y d _ HY.out HD.out).mono ?_; rintro e w1 ⟨rfl, hb1⟩))
        have HB2 := hide (HBW.out.trans ((below_of_drew hb1).mono HBW.out.size))
        clear hb1 HBW
        go_wp2_with fail
        go_ret2
        refine ⟨i, ?_, HL.out, HB2.out⟩
        rw [HFIN.out]
        rfl
      · have hd : decide ((i : Int) < (zs.length : Int)) = false := decide_eq_false (by omega)
        have HBW := hide (HB1.out.trans (hb.mono (by omega)))
        have HFIN : Hid (fnd zs d i = false) := by unfold Hid fnd; rw [decide_eq_false hin]; rfl
        clear HM HI hb HC0 hbx hcb
        go_wp2_with fail
        go_quiet (fail)
        go_wp2_with fail
        go_ret2
        refine ⟨i, ?_, HL.out, below_drewN HBW.out _⟩
        rw [HFIN.out]
        rfl

/-! ### Covers, search -/
theorem Cal.low {w : World} {B : Nat} {o : Obj} (h : w.heap[B]? = some o) : B < w.heap.size := by
  rcases Nat.lt_or_ge B w.heap.size with h' | h'
  · exact h'
  · rw [Array.getElem?_eq_none h'] at h; cases h

set_option maxHeartbeats 1000000 in
theorem covers_any (v : Value) (zs : List Int) (f t d : Int) (w : World) (h : Cal w v zs f t) :
    Calls Try.prog 32 #[v, .agg #[.int .i64 d]] w fun e w' => e = .returned (.bool (holds d (f, t))) ∧ Below w.heap.size w w' := by
  obtain ⟨B, sv, rfl, h1, h2⟩ := h
  have hB := Cal.low h1
  have h3 : (w.alloc (.cells #[.int .i64 d] 29)).heap[B]? = _ := far_alloc h1
  have c1 := cell_of_row _ B 1 _ _ _ h3
  have c2 := cell_of_row _ B 2 _ _ _ h3
  have n0 : (w.alloc (.cells #[.int .i64 d] 29)).cell? ⟨w.heap.size, 0, none⟩ = some (.int .i64 d) := by rw [cell_of_row _ _ 0 _ _ _ (heap_alloc_new w (.cells #[.int .i64 d] 29))]; rfl
  simp at c1 c2
  have HB0 := hide (one_below w (.cells #[.int .i64 d] 29))
  obtain ⟨s1, hs1⟩ : ∃ x : World, x = w.alloc (.cells #[.int .i64 d] 29) := ⟨_, rfl⟩
  have hss : s1.heap.size = w.heap.size + 1 := by rw [hs1]; simp
  rw [← hs1] at c1 c2 n0 HB0
  clear h1 h2 h3
  go_enter Try.func32, Try.ntmps32
  go_wp2_with fail
  rw [← hs1]
  clear hs1
  go_region_held3 (fun w' => w'.cell? ⟨B, 1, none⟩ = some (.int .i64 f) ∧ w'.cell? ⟨B, 2, none⟩ = some (.int .i64 t) ∧ w'.cell? ⟨w.heap.size, 0, none⟩ = some (.int .i64 d))
    (first | go_keep | (go_split_ands; refine ⟨?_, ?_, ?_⟩ <;> (rw [hb1.cell (by simp; omega)]; assumption)))
    ((go_at_call 35; refine (contains_any f t d _).mono ?_; rintro e w1 ⟨rfl, hb1⟩))
  have HB2 := hide (HB0.out.trans ((below_of_drew hb1).mono HB0.out.size))
  clear hb1 HB0
  go_wp2_with fail
  go_ret
  exact ⟨rfl, HB2.out⟩

set_option maxHeartbeats 1000000 in
theorem search_any (v : Value) (zs : List Int) (f t d : Int) (w : World) (h : Cal w v zs f t) (hl : zs.length ≤ 1073741824) (hh : ∀ i, i < zs.length → Half (zs.getD i 0)) (hd : Half d) (ha : Asc zs) :
    Calls Try.prog 33 #[v, .agg #[.int .i64 d]] w fun e w' => ∃ i : Nat, e = .returned (.tuple #[.int .i64 i, .bool (fnd zs d i)]) ∧ LeastD zs d i ∧ Below w.heap.size w w' := by
  obtain ⟨B, sv, rfl, h1, h2⟩ := h
  have hB := Cal.low h1
  have h3 : (w.alloc (.cells #[.int .i64 d] 29)).heap[B]? = _ := far_alloc h1
  have c1 := cell_of_row _ B 0 _ _ _ h3
  have n0 : (w.alloc (.cells #[.int .i64 d] 29)).cell? ⟨w.heap.size, 0, none⟩ = some (.int .i64 d) := by rw [cell_of_row _ _ 0 _ _ _ (heap_alloc_new w (.cells #[.int .i64 d] 29))]; rfl
  simp at c1
  have HB0 := hide (one_below w (.cells #[.int .i64 d] 29))
  have HV := hide (h2.below HB0.out)
  obtain ⟨s1, hs1⟩ : ∃ x : World, x = w.alloc (.cells #[.int .i64 d] 29) := ⟨_, rfl⟩
  have hss : s1.heap.size = w.heap.size + 1 := by rw [hs1]; simp
  rw [← hs1] at c1 n0 HB0 HV
  obtain ⟨a, cap, rfl, _, _⟩ := h2
  have HS := hide (fun w' hb => searchD_any (.slice a zs.length cap) zs d w' (HV.out.below hb) hl hh hd ha)
  clear h1 h3 hh hd ha
  go_enter Try.func33, Try.ntmps33
  go_wp2_with fail
  rw [← hs1]
  clear hs1
  go_region_held3 (fun w' => w'.cell? ⟨B, 0, none⟩ = some (.slice a zs.length cap) ∧ w'.cell? ⟨w.heap.size, 0, none⟩ = some (.int .i64 d))
    (first | go_keep | (go_split_ands; refine ⟨?_, ?_⟩ <;> (rw [hb1.cell (by simp; omega)]; assumption)))
    ((go_at_call 37; refine (HS.out _ (below_drewN (Below.refl _ _) 1)).mono ?_; rintro e w1 ⟨i, rfl, hL, hb1⟩))
  have HB2 := hide (HB0.out.trans ((below_of_drew hb1).mono HB0.out.size))
  have HL := hide hL
  clear hb1 HB0 hL HS
  go_wp2_with fail
  go_ret2
  exact ⟨i, rfl, HL.out, HB2.out⟩

end Go.Proofs.Qxb6601894a
