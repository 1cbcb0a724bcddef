/-
  Seat b6601894a: the law FnAddMatchesCountingModel, walked.
-/
import Derived.Test.Qxb6601894aAddTwo
import Derived.Test.Qxb6601894aModel
namespace Go.Proofs.Qxb6601894a
open Go.RowKit

theorem bytes8 (a : Option Addr) (n c : Nat) (x y z q : Int) (w : World) (hn : n ≤ maxLen) :
    Calls Try.prog 8 #[.slice a n c, .int .i64 x, .int .i64 y, .int .i64 z, .int .i64 q] w fun e w' => IsBool e ∧ w' = w := by
  unfold maxLen at hn
  go_enter Try.func8, Try.ntmps8
  by_cases h1 : 1048576 < n
  · go_wp2
    all_goals
      go_ret
      exact ⟨isBool _, rfl⟩
  · go_wp2
    all_goals
      go_ret
      exact ⟨isBool _, rfl⟩

set_option maxHeartbeats 2000000 in
theorem add_law (v : Value) (zs : List Int) (f t d n : Int) (w : World) (hv : Ints w v zs) (hlz : zs.length ≤ maxLen) (hn0 : -9223372036854775808 ≤ n) (hn1 : n < 9223372036854775808) :
    Calls Try.prog 3 #[v, .int .i64 f, .int .i64 t, .int .i64 d, .int .i64 n] w fun e w' => e = .returned (.bool true) ∧ Below w.heap.size w w' := by
  have HR0 : Hid (-9223372036854775808 ≤ n ∧ n < 9223372036854775808) := ⟨hn0, hn1⟩
  clear hn0 hn1
  obtain ⟨a, cap, rfl, hv'⟩ := hv
  have HV := hide (show Ints w (.slice a zs.length cap) zs from ⟨a, cap, rfl, hv'⟩)
  clear hv'
  go_enter Try.func3, Try.ntmps3
  go_wp2_with fail
  refine (bytes8 a zs.length cap f t d n _ hlz).mono ?_
  rintro e w' ⟨⟨r, rfl⟩, rfl⟩
  unfold maxLen at hlz
  cases r with
  | false =>
    go_wp2_with fail
    go_ret
    exact ⟨rfl, Below.refl _ _⟩
  | true =>
    obtain ⟨W0, rfl⟩ : ∃ x : World, x = w' := ⟨_, rfl⟩
    by_cases h1 : 131072 < zs.length
    · go_wp2_with fail
      go_ret
      exact ⟨rfl, Below.refl _ _⟩
    go_wp2_with fail
    refine (half_any d _).mono ?_
    rintro e w1 ⟨⟨r, rfl, hr⟩, rfl⟩
    cases r with
    | false =>
      go_wp2_with fail
      go_ret
      exact ⟨rfl, Below.refl _ _⟩
    | true =>
      have HD := hide (hr rfl)
      clear hr
      go_wp2_with fail
      refine (halves_any _ zs _ HV.out (by omega)).mono ?_
      rintro e w2 ⟨⟨r, rfl, hr⟩, rfl⟩
      obtain ⟨W1, rfl⟩ : ∃ x : World, x = w2 := ⟨_, rfl⟩
      cases r with
      | false =>
        go_wp2_with fail
        go_ret
        exact ⟨rfl, Below.refl _ _⟩
      | true =>
        have HH := hide (hr rfl)
        clear hr
        go_wp2_with fail
        refine (asc_any _ zs _ HV.out (by omega)).mono ?_
        rintro e w3 ⟨⟨r, rfl, hr⟩, hb3⟩
        have HV3 := hide (HV.out.below hb3)
        have HB3 := hide hb3
        clear hb3 HV
        cases r with
        | false =>
          go_wp2_with fail
          go_ret
          exact ⟨rfl, HB3.out⟩
        | true =>
          have HA := hide (hr rfl)
          clear hr
          go_wp2_with fail
          refine (cal_any _ zs f t _ HV3.out (by omega)).mono ?_
          rintro e w4 ⟨cv, rfl, hcal, hb4⟩
          have HV4 := hide (HV3.out.below hb4)
          have HC4 := hide hcal
          have HB4 := hide (HB3.out.trans (hb4.mono HB3.out.size))
          clear hb4 HV3 HB3 hcal
          go_wp2_with fail
          refine (day_any d _).mono ?_
          rintro e w5 ⟨rfl, hb5⟩
          have HV5 := hide (HV4.out.below hb5)
          have HC5 := hide (HC4.out.below hb5)
          have HB5 := hide (HB4.out.trans (hb5.mono HB4.out.size))
          clear hb5 HV4 HB4 HC4
          obtain ⟨i, hL⟩ := least_exists HA.out d
          have HL := hide hL
          clear hL
          go_wp2_with fail
          refine (add_any cv zs f t d n i _ HC5.out (by omega) HH.out HD.out HA.out HL.out HR0.out.1 HR0.out.2).mono ?_
          rintro e w6 ⟨rfl, hb6⟩
          have HV6 := hide (HV5.out.below hb6)
          have HB6 := hide (HB5.out.trans (hb6.mono HB5.out.size))
          clear hb6 HV5 HB5 HC5
          have HM := hide (fun w h => model_any (.slice a zs.length cap) zs f t d n i w h (by omega) HA.out HL.out)
          generalize addV zs f t d n i = R at *
          obtain ⟨x, hx⟩ : ∃ x, R.getD 0 = x := ⟨_, rfl⟩
          obtain ⟨q, hq⟩ : ∃ q, R.isSome = q := ⟨_, rfl⟩
          unfold modRes at HM
          unfold addRes
          rw [hx, hq] at HM
          rw [hx, hq]
          clear hx hq
          have hqq : (q == q) = true := by simp
          have hxx : (x == x) = true := by simp
          go_wp2_with fail
          have hbn := one_below w6 (.cells #[.int .i64 x] 29)
          refine (HM.out _ (HV6.out.below hbn)).mono ?_
          rintro e w7 ⟨rfl, rfl⟩
          have k0 : (w6.alloc (.cells #[.int .i64 x] 29)).cell? ⟨w6.heap.size, 0, none⟩ = some (.int .i64 x) := by
            rw [cell_of_row _ _ _ _ _ _ (heap_alloc_new w6 _)]; rfl
          have HB7 := hide (HB6.out.trans (hbn.mono HB6.out.size))
          clear hbn HB6 HV6 HM
          go_wp2_with fail
          refine (daynum_any x _).mono ?_
          rintro e w8 ⟨rfl, hb8⟩
          have HB8 := hide (HB7.out.trans (hb8.mono HB7.out.size))
          clear hb8 HB7 k0
          go_wp2_with fail
          go_ret
          exact ⟨rfl, HB8.out⟩

end Go.Proofs.Qxb6601894a
