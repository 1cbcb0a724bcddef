/-
  Seat b6601873a: explores, where one list is the head of the other.
-/
import Derived.Test.Qxb6601873aJoin
namespace Go.Proofs.Qxb6601873a
open Go.RowKit
attribute [local go_sem ↓] Go.wp_at_zero Go.wp_at_succ

theorem cmp_self (l : List Bool) : Pl.cmp l l = 0 := by
  induction l with
  | nil => rfl
  | cons x xs ih => cases x <;> simp [Pl.cmp, ih]
theorem rOrd_self (p : Int) (l : List Int) : rOrd p l l = 0 := by
  unfold rOrd Pl.ro
  rw [if_neg (by omega), if_neg (by omega)]
  exact cmp_self _

theorem two_below (w : World) (o o2 : Obj) : Below w.heap.size w ((w.alloc o).alloc o2).drew := (((Below.refl _ _).alloc (Nat.le_refl _) o).alloc (by simp) o2).drew

set_option maxHeartbeats 2000000 in
theorem explores_pre (va vb : Value) (xs ys : List Cr) (n : Int) (w : World) (ha : Crs w va xs) (hb : Crs w vb ys) (hn : n ≤ 65536) (hlx : xs.length ≤ 1073741824) (hly : ys.length ≤ 1073741824) (hrx : rsum xs ≤ 1073741824)
    (hxy : ∀ i, i < xs.length → i < ys.length → xs.getD i Cr.zero = ys.getD i Cr.zero) :
    Calls Try.prog 34 #[va, vb, .int .i64 n] w fun e w' => e = .returned (.bool (decide (xs.length < ys.length))) ∧ Below w.heap.size w w' := by
  obtain ⟨aa, ca, rfl, _, ha0⟩ := ha
  obtain ⟨ab, cb, rfl, _, hb0⟩ := hb
  have HA0 := hid ha0
  have HB0 := hid hb0
  have HXY := hid hxy
  clear ha0 hb0 hxy
  by_cases hle : xs.length ≤ ys.length
  · go_enter Try.func34, Try.ntmps34
    go_wp2_with fail
    go_loopw [17] (fun i wr => ∃ k : Nat, k ≤ xs.length ∧ i = .int .i64 k ∧ Below w.heap.size w wr) (fun i _ => xs.length - (intOf i).toNat)
    case atStart => exact ⟨0, Nat.zero_le _, rfl, Below.refl _ _⟩
    case round =>
      obtain ⟨k, hk, rfl, hb⟩ := hrel
      by_cases hlt : k < xs.length
      · obtain ⟨b1, o1, hx1, hc1⟩ := HA0.out (by omega)
        obtain ⟨b2, o2, hx2, hc2⟩ := HB0.out (by omega)
        subst hx1
        subst hx2
        obtain ⟨rv1, A1⟩ := hc1 k (by omega)
        obtain ⟨rv2, A2⟩ := hc2 k (by omega)
        have hml := rsum_mem xs k (by omega)
        rw [← HXY.out k (by omega) (by omega)] at A2
        have B1 := A1.below hb
        have B2 := A2.below hb
        obtain ⟨wo, rfl⟩ : ∃ x : World, x = wr := ⟨_, rfl⟩
        generalize xs.getD k Cr.zero = c at *
        obtain ⟨cp1, cr1, crs, cs1⟩ := c
        have p0 := B1.p
        have p1 := B1.r
        have p2 := B1.v
        have p3 := B1.s
        have q0 := B2.p
        have q1 := B2.r
        have q2 := B2.v
        have q3 := B2.s
        have hv1 := B1.rv
        have hv2 := B2.rv
        obtain ⟨a1, z1, rfl⟩ := hv1.form
        obtain ⟨a2, z2, rfl⟩ := hv2.form
        have HV1 := hid hv1.1
        have HV2 := hid hv2.1
        have hll : (crs.getD []).length ≤ 1073741824 := Nat.le_trans hml hrx
        have HB := hid hb
        have g0 : (0 : Int) ≤ (k : Int) := by omega
        have g1 : (k : Int) < (xs.length : Int) := by omega
        have g2 : (k : Int) < (ys.length : Int) := by omega
        simp only at p0 p1 p3 q0 q1 q3
        have n0 := World.new_ne wo _ p0
        have n1 := World.new_ne wo _ q0
        clear hc1 hc2 A1 A2 B1 B2 hv1 hv2 hb HA0 HB0 hml
        go_wp2_with fail
        go_region_held3 (fun w' => w'.cell? ⟨b1, o1 + k * 4, none⟩ = some (.int .i64 cp1) ∧ w'.cell? ⟨b1, o1 + k * 4 + 1, none⟩ = some (.int .i64 cr1) ∧ w'.cell? ⟨b1, o1 + k * 4 + 2, none⟩ = some (.slice a1 (crs.getD []).length z1) ∧ w'.cell? ⟨b1, o1 + k * 4 + 3, none⟩ = some (.int .i64 cs1) ∧
            w'.cell? ⟨b2, o2 + k * 4, none⟩ = some (.int .i64 cp1) ∧ w'.cell? ⟨b2, o2 + k * 4 + 1, none⟩ = some (.int .i64 cr1) ∧ w'.cell? ⟨b2, o2 + k * 4 + 2, none⟩ = some (.slice a2 (crs.getD []).length z2) ∧ w'.cell? ⟨b2, o2 + k * 4 + 3, none⟩ = some (.int .i64 cs1))
          (go_keep) (fail)
        all_goals
          have hx0 : (cr1 != cr1) = false := by simp
          have hx1 : (cp1 != cp1) = false := by simp
          have hx2 : (cs1 != cs1) = false := by simp
          go_wp2_with fail
          go_loop [10] (fun p => ∃ P : Int, P ≤ 65536 ∧ p = .int .i64 P) (fun p => (intOf p).toNat)
          case atStart => exact ⟨n, hn, rfl⟩
          case round =>
            obtain ⟨P, hP, rfl⟩ := hrel
            by_cases hP1 : 1 ≤ P
            · go_wp2_with fail
              refine (order_any _ _ (crs.getD []) (crs.getD []) P _ (by exact HV1.out.below (two_below _ _ _)) (by exact HV2.out.below (two_below _ _ _)) (by omega) (by omega)).mono ?_
              rintro e w' ⟨he, rfl⟩
              rw [rOrd_self] at he
              subst he
              go_wp2_with fail
              go_round
              case rel => exact ⟨P - 1, by omega, by go_num⟩
              case measure => simp [intOf]; omega
            · go_wp2_with fail
              go_roundw
              case rel => exact ⟨k + 1, by omega, by go_num, HB.out.trans ((two_below _ _ _).mono HB.out.size)⟩
              case measure => simp [intOf]; omega
      · clear HXY HA0 HB0
        go_wp2_with fail
        go_ret
        exact ⟨rfl, hb⟩
  · go_enter Try.func34, Try.ntmps34
    go_wp2_with fail
    go_loopw [17] (fun i wr => ∃ k : Nat, k ≤ ys.length ∧ i = .int .i64 k ∧ Below w.heap.size w wr) (fun i _ => ys.length - (intOf i).toNat)
    case atStart => exact ⟨0, Nat.zero_le _, rfl, Below.refl _ _⟩
    case round =>
      obtain ⟨k, hk, rfl, hb⟩ := hrel
      by_cases hlt : k < ys.length
      · obtain ⟨b1, o1, hx1, hc1⟩ := HA0.out (by omega)
        obtain ⟨b2, o2, hx2, hc2⟩ := HB0.out (by omega)
        subst hx1
        subst hx2
        obtain ⟨rv1, A1⟩ := hc1 k (by omega)
        obtain ⟨rv2, A2⟩ := hc2 k (by omega)
        have hml := rsum_mem xs k (by omega)
        rw [← HXY.out k (by omega) (by omega)] at A2
        have B1 := A1.below hb
        have B2 := A2.below hb
        obtain ⟨wo, rfl⟩ : ∃ x : World, x = wr := ⟨_, rfl⟩
        generalize xs.getD k Cr.zero = c at *
        obtain ⟨cp1, cr1, crs, cs1⟩ := c
        have p0 := B1.p
        have p1 := B1.r
        have p2 := B1.v
        have p3 := B1.s
        have q0 := B2.p
        have q1 := B2.r
        have q2 := B2.v
        have q3 := B2.s
        have hv1 := B1.rv
        have hv2 := B2.rv
        obtain ⟨a1, z1, rfl⟩ := hv1.form
        obtain ⟨a2, z2, rfl⟩ := hv2.form
        have HV1 := hid hv1.1
        have HV2 := hid hv2.1
        have hll : (crs.getD []).length ≤ 1073741824 := Nat.le_trans hml hrx
        have HB := hid hb
        have g0 : (0 : Int) ≤ (k : Int) := by omega
        have g1 : (k : Int) < (xs.length : Int) := by omega
        have g2 : (k : Int) < (ys.length : Int) := by omega
        simp only at p0 p1 p3 q0 q1 q3
        have n0 := World.new_ne wo _ p0
        have n1 := World.new_ne wo _ q0
        clear hc1 hc2 A1 A2 B1 B2 hv1 hv2 hb HA0 HB0 hml
        go_wp2_with fail
        go_region_held3 (fun w' => w'.cell? ⟨b1, o1 + k * 4, none⟩ = some (.int .i64 cp1) ∧ w'.cell? ⟨b1, o1 + k * 4 + 1, none⟩ = some (.int .i64 cr1) ∧ w'.cell? ⟨b1, o1 + k * 4 + 2, none⟩ = some (.slice a1 (crs.getD []).length z1) ∧ w'.cell? ⟨b1, o1 + k * 4 + 3, none⟩ = some (.int .i64 cs1) ∧
            w'.cell? ⟨b2, o2 + k * 4, none⟩ = some (.int .i64 cp1) ∧ w'.cell? ⟨b2, o2 + k * 4 + 1, none⟩ = some (.int .i64 cr1) ∧ w'.cell? ⟨b2, o2 + k * 4 + 2, none⟩ = some (.slice a2 (crs.getD []).length z2) ∧ w'.cell? ⟨b2, o2 + k * 4 + 3, none⟩ = some (.int .i64 cs1))
          (go_keep) (fail)
        all_goals
          have hx0 : (cr1 != cr1) = false := by simp
          have hx1 : (cp1 != cp1) = false := by simp
          have hx2 : (cs1 != cs1) = false := by simp
          go_wp2_with fail
          go_loop [10] (fun p => ∃ P : Int, P ≤ 65536 ∧ p = .int .i64 P) (fun p => (intOf p).toNat)
          case atStart => exact ⟨n, hn, rfl⟩
          case round =>
            obtain ⟨P, hP, rfl⟩ := hrel
            by_cases hP1 : 1 ≤ P
            · go_wp2_with fail
              refine (order_any _ _ (crs.getD []) (crs.getD []) P _ (by exact HV1.out.below (two_below _ _ _)) (by exact HV2.out.below (two_below _ _ _)) (by omega) (by omega)).mono ?_
              rintro e w' ⟨he, rfl⟩
              rw [rOrd_self] at he
              subst he
              go_wp2_with fail
              go_round
              case rel => exact ⟨P - 1, by omega, by go_num⟩
              case measure => simp [intOf]; omega
            · go_wp2_with fail
              go_roundw
              case rel => exact ⟨k + 1, by omega, by go_num, HB.out.trans ((two_below _ _ _).mono HB.out.size)⟩
              case measure => simp [intOf]; omega
      · clear HXY HA0 HB0
        go_wp2_with fail
        go_ret
        exact ⟨rfl, hb⟩

theorem zzExplores_pre (va vb : Value) (xs ys : List Cr) (n : Int) (w : World) (ha : Crs w va xs) (hb : Crs w vb ys) (hn : n ≤ 65536) (hlx : xs.length ≤ 1073741824) (hly : ys.length ≤ 1073741824) (hrx : rsum xs ≤ 1073741824)
    (hxy : ∀ i, i < xs.length → i < ys.length → xs.getD i Cr.zero = ys.getD i Cr.zero) :
    Calls Try.prog 21 #[va, vb, .int .i64 n] w fun e w' => e = .returned (.bool (decide (xs.length < ys.length))) ∧ Below w.heap.size w w' := by
  have HC := hid (explores_pre va vb xs ys n w ha hb hn hlx hly hrx hxy)
  clear ha hb hxy
  go_enter Try.func21, Try.ntmps21
  go_wp2_with fail
  refine HC.out.mono ?_
  rintro e w' ⟨rfl, hb⟩
  go_wp2_with fail
  go_ret
  exact ⟨rfl, hb⟩

set_option maxHeartbeats 1000000 in
theorem bytes24 (va vb : Value) (xs ys : List Cr) (z : Int) (w : World) (ha : Crs w va xs) (hb : Crs w vb ys) (hlx : xs.length ≤ maxLen) (hly : ys.length ≤ maxLen) (hrx : ∀ i, i < xs.length → (xs.getD i Cr.zero).lst.length ≤ maxLen) (hry : ∀ i, i < ys.length → (ys.getD i Cr.zero).lst.length ≤ maxLen) :
    Calls Try.prog 24 #[va, vb, .int .i64 z] w fun e w' => IsBool e ∧ w' = w := by
  obtain ⟨a, cap, rfl, _, hc0⟩ := ha
  obtain ⟨a2, cap2, rfl, _, hc2⟩ := hb
  have HC0 := hid hc0
  have HC2 := hid hc2
  have HR0 := hid hrx
  have HR2 := hid hry
  clear hc0 hc2 hrx hry
  unfold maxLen at hlx hly
  by_cases hbig : 1048576 < xs.length
  · go_enter Try.func24, Try.ntmps24
    go_wp2
    go_ret
    exact ⟨isBool _, rfl⟩
  · go_enter Try.func24, Try.ntmps24
    go_wp2
    go_loop [7, 8] (fun t i => ∃ k : Nat, k ≤ xs.length ∧ i = .int .i64 k ∧ ∃ T : Nat, t = .int .i64 T ∧ T ≤ 1048576) (fun _ i => xs.length - (intOf i).toNat)
    case atStart => exact ⟨0, Nat.zero_le _, rfl, xs.length, by go_num, by omega⟩
    case round =>
      obtain ⟨k, hk, rfl, T, rfl, hT⟩ := hrel
      by_cases hlt : k < xs.length
      · obtain ⟨b, off, hx, hc⟩ := HC0.out (by omega)
        subst hx
        obtain ⟨ra, rcap, m, hcv, hm⟩ := rs_at (hc k hlt) (HR0.out k hlt)
        clear hc HC0 HR0 HC2 HR2
        by_cases hm1 : 1048576 < m
        · go_wp2
          go_ret
          exact ⟨isBool _, rfl⟩
        by_cases hm2 : 1048576 < T + m
        · go_wp2
          go_ret
          exact ⟨isBool _, rfl⟩
        · go_wp2
          go_round
          case rel => exact ⟨k + 1, by omega, by go_num, T + m, by go_num, by omega⟩
          case measure => simp [intOf]; omega
      · clear HC0 HR0
        by_cases hbig2 : 1048576 < ys.length
        · go_wp2
          go_ret
          exact ⟨isBool _, rfl⟩
        by_cases hbig3 : 1048576 < T + ys.length
        · go_wp2
          go_ret
          exact ⟨isBool _, rfl⟩
        go_wp2
        go_loop [7, 9] (fun t i => ∃ k : Nat, k ≤ ys.length ∧ i = .int .i64 k ∧ ∃ T : Nat, t = .int .i64 T ∧ T ≤ 1048576) (fun _ i => ys.length - (intOf i).toNat)
        case atStart => exact ⟨0, Nat.zero_le _, rfl, T + ys.length, by go_num, by omega⟩
        case round =>
          obtain ⟨k', hk', rfl, T', rfl, hT'⟩ := hrel
          by_cases hlt' : k' < ys.length
          · obtain ⟨b, off, hx, hc⟩ := HC2.out (by omega)
            subst hx
            obtain ⟨ra, rcap, m, hcv, hm⟩ := rs_at (hc k' hlt') (HR2.out k' hlt')
            clear hc HC2 HR2
            by_cases hm1 : 1048576 < m
            · go_wp2
              go_ret
              exact ⟨isBool _, rfl⟩
            by_cases hm2 : 1048576 < T' + m
            · go_wp2
              go_ret
              exact ⟨isBool _, rfl⟩
            · go_wp2
              go_round
              case rel => exact ⟨k' + 1, by omega, by go_num, T' + m, by go_num, by omega⟩
              case measure => simp [intOf]; omega
          · clear HC2 HR2
            go_wp2
            go_ret
            exact ⟨isBool _, rfl⟩

set_option maxHeartbeats 1000000 in
theorem prefix_law (va vb : Value) (xs ys : List Cr) (n : Int) (w : World) (ha : Crs w va xs) (hb : Crs w vb ys) (hlx : xs.length ≤ maxLen) (hly : ys.length ≤ maxLen) (hrx : ∀ i, i < xs.length → (xs.getD i Cr.zero).lst.length ≤ maxLen) (hry : ∀ i, i < ys.length → (ys.getD i Cr.zero).lst.length ≤ maxLen) :
    Calls Try.prog 8 #[va, vb, .int .i64 n] w fun e w' => e = .returned (.bool true) ∧ Below w.heap.size w w' := by
  have HA := hid ha
  have HB := hid hb
  have HLX := hid hlx
  have HLY := hid hly
  have HRX := hid hrx
  have HRY := hid hry
  clear ha hb hlx hly hrx hry
  go_enter Try.func8, Try.ntmps8
  go_wp2_with fail
  refine (bytes24 va vb xs ys n _ HA.out HB.out HLX.out HLY.out HRX.out HRY.out).mono ?_
  rintro e w' ⟨⟨r, rfl⟩, rfl⟩
  cases r with
  | false =>
    go_wp2_with fail
    go_ret
    exact ⟨rfl, Below.refl _ _⟩
  | true =>
    go_wp2_with fail
    refine (over_any va xs 524288 _ HA.out HLX.out HRX.out (by omega)).mono ?_
    rintro e w'' ⟨rfl, rfl⟩
    cases hov : overB xs 524288 with
    | true =>
      go_wp2_with fail
      go_ret
      exact ⟨rfl, Below.refl _ _⟩
    | false =>
      have hle := over_le hov
      clear hov
      go_wp2_with fail
      refine (over_any vb ys 524288 _ HB.out HLY.out HRY.out (by omega)).mono ?_
      rintro e w3 ⟨rfl, rfl⟩
      cases hov : overB ys 524288 with
      | true =>
        go_wp2_with fail
        go_ret
        exact ⟨rfl, Below.refl _ _⟩
      | false =>
        have hle2 := over_le hov
        clear hov HLX HLY HRX HRY
        by_cases hn : 65536 < n
        · go_wp2_with fail
          go_ret
          exact ⟨rfl, Below.refl _ _⟩
        have hn' : n ≤ 65536 := by omega
        obtain ⟨W0, rfl⟩ : ∃ x : World, x = w3 := ⟨_, rfl⟩
        go_wp2_with fail
        refine (cloneCr_any va xs _ HA.out (by omega) (by omega)).mono ?_
        rintro e w1 ⟨v1, rfl, ho1, hb1⟩
        go_wp2_with fail
        refine (cloneCr_any vb ys _ (HB.out.below hb1) (by omega) (by omega)).mono ?_
        rintro e w2 ⟨v2, rfl, ho2, hb2⟩
        have HX2 := hid (ho1.below hb2).crs
        have HY2 := hid ho2.crs
        have HW2 := hid (hb1.trans (hb2.mono hb1.size))
        clear ho1 ho2 hb1 hb2 HA HB
        go_wp2_with fail
        refine (toCr_any v1 xs _ HX2.out (by omega) (by omega)).mono ?_
        rintro e w4 ⟨v4, rfl, ho4, hb4⟩
        have HX4 := hid (HX2.out.below hb4)
        have HY4 := hid (HY2.out.below hb4)
        have HC4 := hid ho4.crs
        have HW4 := hid (HW2.out.trans (hb4.mono HW2.out.size))
        clear ho4 hb4 HX2 HY2 HW2
        go_wp2_with fail
        refine (join_any v1 v2 xs ys _ HX4.out HY4.out (by omega) (by omega) (by omega) (by omega)).mono ?_
        rintro e w5 ⟨v5, rfl, ho5, hb5⟩
        have HJ5 := hid ho5.crs
        have HC5 := hid (HC4.out.below hb5)
        have HY5 := hid (HY4.out.below hb5)
        have HW5 := hid (HW4.out.trans (hb5.mono HW4.out.size))
        have hjl : (xs ++ ys).length ≤ 1073741824 := by simp; omega
        have hjr : rsum (xs ++ ys) ≤ 1073741824 := by rw [rsum_append]; omega
        clear ho5 hb5 HX4 HY4 HC4 HW4
        go_wp2_with fail
        refine (toCr_any v5 (xs ++ ys) _ HJ5.out hjl hjr).mono ?_
        rintro e w6 ⟨v6, rfl, ho6, hb6⟩
        have HJ6 := hid ho6.crs
        have HC6 := hid (HC5.out.below hb6)
        have HY6 := hid (HY5.out.below hb6)
        have HW6 := hid (HW5.out.trans (hb6.mono HW5.out.size))
        clear ho6 hb6 HJ5 HC5 HY5 HW5
        go_wp2_with fail
        refine (zzExplores_pre v4 v6 xs (xs ++ ys) n _ HC6.out HJ6.out hn' (by omega) hjl (by omega) (fun i h _ => by simp [List.getD, List.getElem?_append_left h])).mono ?_
        rintro e w7 ⟨he, hb7⟩
        have HJ7 := hid (HJ6.out.below hb7)
        have HC7 := hid (HC6.out.below hb7)
        have HW7 := hid (HW6.out.trans (hb7.mono HW6.out.size))
        clear hb7 HJ6 HC6 HW6
        have e1 : decide (xs.length < (xs ++ ys).length) = decide (0 < ys.length) := by
          rw [decide_eq_decide, List.length_append]; omega
        rw [e1] at he
        subst he
        clear e1
        go_wp2_with fail
        refine (zzExplores_pre v6 v4 (xs ++ ys) xs n _ HJ7.out HC7.out hn' hjl (by omega) hjr (fun i _ h => by simp [List.getD, List.getElem?_append_left h])).mono ?_
        rintro e w8 ⟨he, hb8⟩
        have HW8 := hid (HW7.out.trans (hb8.mono HW7.out.size))
        have e2 : decide ((xs ++ ys).length < xs.length) = false := decide_eq_false (by rw [List.length_append]; omega)
        rw [e2] at he
        subst he
        clear hb8 HJ7 HC7 HW7 e2
        obtain ⟨a2, c2, rfl, _⟩ := HY6.out
        by_cases hy : 0 < ys.length
        · have hyd : decide (0 < ys.length) = true := decide_eq_true hy
          rw [hyd]
          go_wp2_with fail
          go_ret
          exact ⟨rfl, HW8.out⟩
        · have hyd : decide (0 < ys.length) = false := decide_eq_false hy
          rw [hyd]
          go_wp2_with fail
          go_ret
          exact ⟨rfl, HW8.out⟩

end Go.Proofs.Qxb6601873a
