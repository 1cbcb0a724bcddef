/-
  Seat b6601894a: the law FnSuspendKeepsExactlyTheUnsuspendedDays, walked.
-/
import Derived.Test.Qxb6601894aSuspend
import Derived.LaidEqlPtr
namespace Go.Proofs.Qxb6601894a
open Go.RowKit
attribute [local go_sem ↓] Go.wp_at_zero Go.wp_at_succ

theorem bytes20 (a : Option Addr) (n c : Nat) (f t : Int) (a' : Option Addr) (n' c' : Nat) (w : World) (hn : n ≤ maxLen) (hn' : n' ≤ maxLen) :
    Calls Try.prog 20 #[.slice a n c, .int .i64 f, .int .i64 t, .slice a' n' c'] w fun e w' => IsBool e ∧ w' = w := by
  unfold maxLen at hn hn'
  go_enter Try.func20, Try.ntmps20
  by_cases h1 : 1048576 < n
  · go_wp2
    all_goals
      go_ret
      exact ⟨isBool _, rfl⟩
  · by_cases h2 : 1048576 < n'
    · go_wp2
      all_goals
        go_ret
        exact ⟨isBool _, rfl⟩
    · go_wp2
      all_goals
        go_ret
        exact ⟨isBool _, rfl⟩

theorem kept_get {ss : List (Int × Int)} {zs : List Int} {k : Nat} (h : k < zs.length) (hn : onS ss (zs.getD k 0) = none) :
    (kept ss (zs.take k)).length < (kept ss zs).length ∧ (kept ss zs).getD (kept ss (zs.take k)).length 0 = zs.getD k 0 := by
  have h1 : kept ss zs = kept ss (zs.take (k + 1)) ++ kept ss (zs.drop (k + 1)) := by
    unfold kept
    rw [← List.filter_append, List.take_append_drop]
  rw [h1, kept_yes h hn]
  refine ⟨by simp, ?_⟩
  simp [List.getD]

theorem Try.has64 : (Try.prog.info? 64).isSome = true := by kernel_rfl
theorem ptr_same (w : World) (B : Nat) : (binOp .eql 26 (.pointer (some ⟨B, 0, none⟩)) (.pointer (some ⟨B, 0, none⟩))).run Try.prog w = .ok (.bool true) w := by
  obtain ⟨j, hj⟩ := Option.isSome_iff_exists.1 Try.has64
  exact run_eql_ptr_same w ⟨B, 0, none⟩ Try.underlying26 hj

set_option maxHeartbeats 4000000 in
theorem suspend_law (v : Value) (zs : List Int) (f t : Int) (u : Value) (ss : List (Int × Int)) (w : World) (hv : Ints w v zs) (hlz : zs.length ≤ maxLen) (hu : Prs w u ss) (hls : ss.length ≤ maxLen) :
    Calls Try.prog 5 #[v, .int .i64 f, .int .i64 t, u] w fun e w' => e = .returned (.bool true) ∧ Below w.heap.size w w' := by
  obtain ⟨a, cap, rfl, hv'⟩ := hv
  have HV := hide (show Ints w (.slice a zs.length cap) zs from ⟨a, cap, rfl, hv'⟩)
  obtain ⟨sa, scap, rfl, hu'⟩ := hu
  have HU := hide (show Prs w (.slice sa ss.length scap) ss from ⟨sa, scap, rfl, hu'⟩)
  clear hv' hu'
  go_enter Try.func5, Try.ntmps5
  go_wp2_with fail
  refine (bytes20 a zs.length cap f t sa ss.length scap _ hlz hls).mono ?_
  rintro e w' ⟨⟨r, rfl⟩, rfl⟩
  unfold maxLen at hlz hls
  cases r with
  | false =>
    go_wp2_with fail
    go_ret
    exact ⟨rfl, Below.refl _ _⟩
  | true =>
    obtain ⟨W0, rfl⟩ : ∃ x : World, x = w' := ⟨_, rfl⟩
    by_cases h1 : 131072 < zs.length
    · go_wp2_with fail
      go_ret
      exact ⟨rfl, Below.refl _ _⟩
    have h1' : decide (131072 < zs.length) = false := decide_eq_false h1
    by_cases h2 : 65536 < ss.length
    · go_wp2_with fail
      go_ret
      exact ⟨rfl, Below.refl _ _⟩
    have h2' : decide (65536 < ss.length) = false := decide_eq_false h2
    by_cases h3 : 1048576 < 8 * zs.length + 16 * ss.length
    · go_wp2_with fail
      go_ret
      exact ⟨rfl, Below.refl _ _⟩
    have h3' : decide (1048576 < 8 * zs.length + 16 * ss.length) = false := decide_eq_false h3
    go_wp2_with fail
    refine (asc_any _ zs _ HV.out (by omega)).mono ?_
    rintro e w1 ⟨⟨r, rfl, hr⟩, hb1⟩
    have HV1 := hide (HV.out.below hb1)
    have HU1 := hide (HU.out.below hb1)
    have HB1 := hide hb1
    clear hb1 HV HU
    cases r with
    | false =>
      go_wp2_with fail
      go_ret
      exact ⟨rfl, HB1.out⟩
    | true =>
      have HA := hide (hr rfl)
      clear hr
      go_wp2_with fail
      refine (well_any _ ss _ HU1.out (by omega)).mono ?_
      rintro e w2 ⟨rfl, hb2⟩
      have HV2 := hide (HV1.out.below hb2)
      have HU2 := hide (HU1.out.below hb2)
      have HB2 := hide (HB1.out.trans (hb2.mono HB1.out.size))
      clear hb2 HV1 HU1 HB1
      cases hwl : wellB ss with
      | false =>
        clear hwl
        go_wp2_with fail
        go_ret
        exact ⟨rfl, HB2.out⟩
      | true =>
        have HWL := hide hwl
        clear hwl
        go_wp2_with fail
        refine (cal_any _ zs f t _ HV2.out (by omega)).mono ?_
        rintro e w3 ⟨cv, rfl, hcal, hb3⟩
        have HV3 := hide (HV2.out.below hb3)
        have HU3 := hide (HU2.out.below hb3)
        have HC3 := hide hcal
        have HB3 := hide (HB2.out.trans (hb3.mono HB2.out.size))
        clear hb3 HV2 HU2 HB2 hcal
        go_wp2_with fail
        refine (susp_any _ ss _ HU3.out (by omega)).mono ?_
        rintro e w4 ⟨sv, rfl, hsv, hb4⟩
        have HV4 := hide (HV3.out.below hb4)
        have HC4 := hide (HC3.out.below hb4)
        have HS4 := hide hsv.prs
        have HB4 := hide (HB3.out.trans (hb4.mono HB3.out.size))
        clear hb4 HV3 HU3 HB3 HC3 hsv
        by_cases h0 : ss.length = 0
        · obtain ⟨B, hB⟩ : ∃ B, cv = .pointer (some ⟨B, 0, none⟩) := by obtain ⟨B, _, h, _⟩ := HC4.out; exact ⟨B, h⟩
          obtain ⟨sa', sc', hsv', _, _⟩ := HS4.out
          rw [h0] at hsv'
          subst hB hsv'
          have hp := fun w => ptr_same w B
          have h0' : ((ss.length : Int) == 0) = true := by simp [h0]
          clear HS4 HC4 HV4
          go_wp2_with fail
          refine (suspend_none _ sa' sc' _).mono ?_
          rintro e w5 ⟨rfl, rfl⟩
          go_wp2_with fail
          go_ret
          exact ⟨rfl, HB4.out⟩
        · have h0' : ((ss.length : Int) == 0) = false := by simp; exact fun h => h0 (by simp [h])
          go_wp2_with fail
          refine (suspend_some cv zs f t sv ss _ HC4.out HS4.out (by omega) (by omega) (by omega) HWL.out HA.out).mono ?_
          rintro e w5 ⟨ov, rfl, hov, hb5⟩
          have HV5 := hide (HV4.out.below hb5)
          have HC5 := hide hov
          have HS5 := hide (HS4.out.below hb5)
          have HB5 := hide (HB4.out.trans (hb5.mono HB4.out.size))
          obtain ⟨B, hB⟩ : ∃ B, ov = .pointer (some ⟨B, 0, none⟩) := by obtain ⟨B, _, h, _⟩ := hov; exact ⟨B, h⟩
          subst hB
          clear hb5 HV4 HC4 HB4 hov HS4
          go_wp2_with fail
          refine (HC5.out.span).mono ?_
          rintro e w6 ⟨rfl, hb6⟩
          have HV6 := hide (HV5.out.below hb6)
          have HC6 := hide (HC5.out.below hb6)
          have HS6 := hide (HS5.out.below hb6)
          have HB6 := hide (HB5.out.trans (hb6.mono HB5.out.size))
          clear hb6 HV5 HC5 HB5 HS5
          go_wp2_with fail
          refine (daynum_any f _).mono ?_
          rintro e w7 ⟨rfl, hb7⟩
          have k1 : w7.cell? ⟨w6.heap.size, 1, none⟩ = some (.int .i64 t) := by
            rw [hb7.cell (p := ⟨w6.heap.size, 1, none⟩) (by simp), cell_of_row _ _ _ _ _ _ (heap_alloc_new w6 _)]; rfl
          have hb67 := (one_below w6 (.cells #[.int .i64 f, .int .i64 t] 46)).trans (hb7.mono (by simp))
          have HV7 := hide (HV6.out.below hb67)
          have HC7 := hide (HC6.out.below hb67)
          have HS7 := hide (HS6.out.below hb67)
          have HB7 := hide (HB6.out.trans (hb67.mono HB6.out.size))
          clear hb7 HV6 HC6 HB6 HS6 hb67
          have hff : (f != f) = false := by simp
          have htt : (t != t) = false := by simp
          go_wp2_with fail
          refine (daynum_any t _).mono ?_
          rintro e w8 ⟨rfl, hb8⟩
          have HV8 := hide (HV7.out.below hb8)
          have HC8 := hide (HC7.out.below hb8)
          have HS8 := hide (HS7.out.below hb8)
          have HB8 := hide (HB7.out.trans (hb8.mono HB7.out.size))
          clear hb8 HV7 HC7 HB7 HS7 k1
          go_wp2_with fail
          refine (HC8.out.days).mono ?_
          rintro e w9 ⟨gv, rfl, hgv, rfl⟩
          obtain ⟨W9, rfl⟩ : ∃ x : World, x = w9 := ⟨_, rfl⟩
          obtain ⟨ga, gcap, rfl, _, hg0⟩ := hgv
          obtain ⟨_, _, e1, _, hc0⟩ := HV8.out
          simp only [Value.slice.injEq] at e1
          obtain ⟨rfl, _, rfl⟩ := e1
          have hkl := kept_len ss zs
          generalize hKK : (kept ss zs).length = K at *
          have HKK := hide hKK
          have HG0 := hide hg0
          have HC0 := hide hc0
          clear hg0 hc0 HV8 HC8 HA hKK
          go_wp2_with fail
          go_loopw [14, 15] (fun j i wr => ∃ k : Nat, k ≤ zs.length ∧ i = .int .i64 k ∧ j = .int .i64 (kept ss (zs.take k)).length ∧ Below W9.heap.size W9 wr) (fun _ i _ => zs.length - (intOf i).toNat)
          case atStart => exact ⟨0, Nat.zero_le _, rfl, rfl, Below.refl _ _⟩
          case round =>
            obtain ⟨k, hk, rfl, rfl, hb⟩ := hrel
            by_cases hlt : k < zs.length
            · obtain ⟨b, off, hx, hc⟩ := HC0.out (by omega)
              subst hx
              have hlb : b < W9.heap.size := World.block_lt_of_cell? W9 _ (hc k hlt)
              have c0 := (hb.cell (p := ⟨b, _, none⟩) hlb).trans (hc k hlt)
              have hY := @kept_yes ss zs k hlt
              have hN := @kept_no ss zs k hlt
              have hG := @kept_get ss zs k hlt
              have hkl2 := kept_len ss (zs.take k)
              rw [List.length_take] at hkl2
              generalize zs.getD k 0 = d at *
              have HY := hide hY
              have HN := hide hN
              have HG := hide hG
              have HB := hide hb
              have hszo := hb.size
              have HSo := hide (HS8.out.below hb)
              obtain ⟨wo, rfl⟩ : ∃ x : World, x = wr := ⟨_, rfl⟩
              have g0 : (0 : Int) ≤ (k : Int) := by omega
              have g1 : (k : Int) < (zs.length : Int) := by omega
              clear hY hN hG hb hc HC0
              go_wp2_with fail
              refine (day_any d _).mono ?_
              rintro e wp ⟨rfl, hbp⟩
              have HSp := hide (HSo.out.below hbp)
              have HBp := hide (HB.out.trans (hbp.mono hszo))
              have c0p := (hbp.cell (p := ⟨b, off + k, none⟩) (by simp; omega)).trans c0
              clear hbp HSo HB c0
              go_wp2_with fail
              refine (zzOn_any sv ss d _ HSp.out (by omega) HWL.out).mono ?_
              rintro e wq ⟨rfl, hbq⟩
              have HBq := hide (HBp.out.trans (hbq.mono HBp.out.size))
              have hszq := HBq.out.size
              have c0q := (hbq.cell (p := ⟨b, off + k, none⟩) (Nat.lt_of_lt_of_le hlb HBp.out.size)).trans c0p
              clear hbq HBp HSp c0p
              cases hon : onS ss d with
              | some p =>
                have HR := hide (HN.out p hon)
                clear hon HY HN HG
                unfold onV
                go_wp2_with fail
                go_roundw
                case rel => exact ⟨k + 1, by omega, by go_num, by rw [HR.out], HBq.out.alloc HBq.out.size _⟩
                case measure => simp [intOf]; omega
              | none =>
                have HR := hide (HY.out hon)
                obtain ⟨j1, j2⟩ := HG.out hon
                rw [HKK.out] at j1
                obtain ⟨gb, goff, hx, hgc⟩ := HG0.out (by omega)
                subst hx
                have hgb : gb < W9.heap.size := World.block_lt_of_cell? W9 _ (hgc _ j1)
                have c1q := (HBq.out.cell (p := ⟨gb, _, none⟩) hgb).trans (hgc _ j1)
                rw [j2] at c1q
                have hJ : (kept ss (zs.take (k + 1))).length = (kept ss (zs.take k)).length + 1 := by rw [HR.out]; simp
                have HJ := hide hJ
                clear hon HY HN HG j2 HR hJ hgc HG0
                generalize (kept ss (zs.take k)).length = j at *
                unfold onV
                have g2 : (0 : Int) ≤ (j : Int) := by omega
                have g3 : (j : Int) < (K : Int) := by omega
                have g4 : ¬ (K : Int) ≤ (j : Int) := by omega
                have g5 : decide ((K : Int) ≤ (j : Int)) = false := decide_eq_false g4
                have g6 : decide (K ≤ j) = false := decide_eq_false (by omega)
                have hdd : (d != d) = false := by simp
                obtain ⟨s1, hs1⟩ : ∃ x : World, x = wq.alloc (.cells #[.int .i64 0, .int .i64 0] 51) := ⟨_, rfl⟩
                have hbs : Below wq.heap.size wq s1 := by rw [hs1]; exact one_below _ _
                have c0s := (hbs.cell (p := ⟨b, off + k, none⟩) (Nat.lt_of_lt_of_le hlb hszq)).trans c0q
                have c1s := (hbs.cell (p := ⟨gb, goff + j, none⟩) (Nat.lt_of_lt_of_le hgb hszq)).trans c1q
                have HBs := hide (HBq.out.trans (hbs.mono hszq))
                have hszs := HBs.out.size
                go_wp2_with fail
                rw [← hs1]
                clear hs1 hbs c0q c1q HBq hszq
                go_region_held3 (fun w' => w'.cell? ⟨b, off + k, none⟩ = some (.int .i64 d) ∧ w'.cell? ⟨gb, goff + j, none⟩ = some (.int .i64 d))
                  (first | go_keep | (go_split_ands; refine ⟨?_, ?_⟩ <;> (rw [hbt.cell (by simp; omega)]; assumption)))
                  ((go_at_call 16; refine (daynum_any d _).mono ?_; rintro e wt ⟨rfl, hbt⟩))
                go_wp2_with fail
                go_roundw
                case rel => exact ⟨k + 1, by omega, by go_num, by rw [HJ.out]; go_num, HBs.out.trans ((below_of_drew hbt).mono hszs)⟩
                case measure => simp [intOf]; omega
            · have e : zs.take k = zs := List.take_of_length_le (by omega)
              rw [e, HKK.out]
              clear HC0 HG0
              go_wp2_with fail
              go_ret
              exact ⟨rfl, HB8.out.trans (hb.mono HB8.out.size)⟩

end Go.Proofs.Qxb6601894a
