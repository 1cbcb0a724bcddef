/-
  Seat b6601873a: the law FnAppendFirstOnlyAppends, walked.
-/
import Derived.Test.Qxb6601873aPacked
import Derived.Test.Qxb6601873aDecodesLaw
namespace Go.Proofs.Qxb6601873a
open Go.RowKit
attribute [local go_sem ↓] Go.wp_at_zero Go.wp_at_succ

set_option maxHeartbeats 1000000 in
theorem bytes25 (v : Value) (cs : List Cr) (a1 a2 : Option Addr) (n1 c1 n2 c2 : Nat) (z : Int) (w : World) (hv : Crs w v cs) (hl : cs.length ≤ maxLen) (hr : ∀ i, i < cs.length → (cs.getD i Cr.zero).lst.length ≤ maxLen) (h1 : n1 ≤ maxLen) (h2 : n2 ≤ maxLen) :
    Calls Try.prog 25 #[.slice a1 n1 c1, v, .slice a2 n2 c2, .int .i64 z] w fun e w' => IsBool e ∧ w' = w := by
  obtain ⟨a, cap, rfl, _, hc0⟩ := hv
  unfold maxLen at hl h1 h2
  by_cases hb1 : 1048576 < n1
  · go_enter Try.func25, Try.ntmps25
    go_wp2
    go_ret
    exact ⟨isBool _, rfl⟩
  by_cases hbig : 1048576 < cs.length
  · go_enter Try.func25, Try.ntmps25
    go_wp2
    go_ret
    exact ⟨isBool _, rfl⟩
  by_cases hbig2 : 1048576 < n1 + cs.length
  · go_enter Try.func25, Try.ntmps25
    go_wp2
    go_ret
    exact ⟨isBool _, rfl⟩
  · go_enter Try.func25, Try.ntmps25
    go_wp2
    go_loop [9, 10] (fun t i => ∃ k : Nat, k ≤ cs.length ∧ i = .int .i64 k ∧ ∃ T : Nat, t = .int .i64 T ∧ T ≤ 1048576) (fun _ i => cs.length - (intOf i).toNat)
    case atStart => exact ⟨0, Nat.zero_le _, rfl, n1 + cs.length, by go_num, by omega⟩
    case round =>
      obtain ⟨k, hk, rfl, T, rfl, hT⟩ := hrel
      by_cases hlt : k < cs.length
      · obtain ⟨b, off, hx, hc⟩ := hc0 (by omega)
        subst hx
        obtain ⟨ra, rcap, m, hcv, hm⟩ := rs_at (hc k hlt) (hr k hlt)
        clear hc hc0 hr
        by_cases hm1 : 1048576 < m
        · go_wp2
          go_ret
          exact ⟨isBool _, rfl⟩
        by_cases hm2 : 1048576 < T + m
        · go_wp2
          go_ret
          exact ⟨isBool _, rfl⟩
        · go_wp2
          go_round
          case rel => exact ⟨k + 1, by omega, by go_num, T + m, by go_num, by omega⟩
          case measure => simp [intOf]; omega
      · clear hc0 hr
        go_wp2
        all_goals
          go_ret
          exact ⟨isBool _, rfl⟩

/-- toCrashes' and cloneInts' results are a state to begin with. -/
theorem St.begin {w3 w4 w5 : World} {v3 v4 : Value} {fs : List Cr} {qs : List Int} (h3 : OwnCrs w4 w3.heap.size 42 v3 fs) (hb4 : Below w3.heap.size w3 w4) (h4 : w5.ownsRow w4.heap.size 3 1 v4 qs.length (qs.map (Value.int .i64))) (hb5 : Below w4.heap.size w4 w5) : St w3 w5 v3 fs v4 qs := by
  obtain ⟨xs, ho, hd⟩ := h3
  refine ⟨xs, own_below ho hb5, h4.mono hb4.size, fun i hi => ?_, hb4.trans (hb5.mono hb4.size)⟩
  obtain ⟨rv, hr, hv⟩ := hd i hi
  refine ⟨rv, hr, SafeRV.of_own (hv.below hb5) (fun b e e' => ?_)⟩
  have h1 := (h4.lt b e).1
  have h2 := (hv.1.lt b e').2
  omega

theorem getD_l (fs cs : List Cr) (i : Nat) (h : i < fs.length) : (fs ++ cs).getD i Cr.zero = fs.getD i Cr.zero := by simp [List.getD, List.getElem?_append_left h]
theorem getD_r (fs cs : List Cr) (i : Nat) : (fs ++ cs).getD (fs.length + i) Cr.zero = cs.getD i Cr.zero := by simp [List.getD, List.getElem?_append_right]
theorem rs_le {cs : List Cr} (k : Nat) (h : k < cs.length) {c : Cr} (e : cs.getD k Cr.zero = c) {N : Nat} (hN : rsum cs ≤ N) : (c.rs.getD []).length ≤ N := by
  have := rsum_mem cs k h
  rw [e] at this
  exact Nat.le_trans this hN

set_option maxRecDepth 1000000 in
set_option maxHeartbeats 4000000 in
theorem only_law (vk vf vq : Value) (ks : List Int) (fs : List Cr) (qs : List Int) (j : Int) (w : World) (hk : Ints w vk ks) (hf : Crs w vf fs) (hq : Ints w vq qs)
    (hlk : ks.length ≤ maxLen) (hlf : fs.length ≤ maxLen) (hrf : ∀ i, i < fs.length → (fs.getD i Cr.zero).lst.length ≤ maxLen) (hlq : qs.length ≤ maxLen) :
    Calls Try.prog 9 #[vk, vf, vq, .int .i64 j] w fun e w' => e = .returned (.bool true) ∧ Below w.heap.size w w' := by
  obtain ⟨ak, ck, rfl, hk'⟩ := hk
  obtain ⟨aq, cq, rfl, hq'⟩ := hq
  have HK := hide (show Ints w (.slice ak ks.length ck) ks from ⟨ak, ck, rfl, hk'⟩)
  have HQ := hide (show Ints w (.slice aq qs.length cq) qs from ⟨aq, cq, rfl, hq'⟩)
  have HF := hide hf
  have HLF := hide hlf
  have HRF := hide hrf
  clear hk' hq' hf hlf hrf
  go_enter Try.func9, Try.ntmps9
  go_wp2_with fail
  refine (bytes25 vf fs ak aq ks.length ck qs.length cq j _ HF.out HLF.out HRF.out hlk hlq).mono ?_
  rintro e w' ⟨⟨r, rfl⟩, rfl⟩
  unfold maxLen at hlk hlq
  cases r with
  | false =>
    go_wp2_with fail
    go_ret
    exact ⟨rfl, Below.refl _ _⟩
  | true =>
    by_cases h1 : 32768 < ks.length
    · go_wp2_with fail
      go_ret
      exact ⟨rfl, Below.refl _ _⟩
    by_cases h2 : 32768 < qs.length
    · go_wp2_with fail
      go_ret
      exact ⟨rfl, Below.refl _ _⟩
    go_wp2_with fail
    refine (over_any vf fs 524288 _ HF.out HLF.out HRF.out (by omega)).mono ?_
    rintro e w'' ⟨rfl, rfl⟩
    cases hov : overB fs 524288 with
    | true =>
      go_wp2_with fail
      go_ret
      exact ⟨rfl, Below.refl _ _⟩
    | false =>
      have hle := over_le hov
      clear hov HLF HRF
      go_wp2_with fail
      refine (packed_any _ ks j _ HK.out (by omega)).mono ?_
      rintro e w0 ⟨rfl, rfl⟩
      cases hpk : packed ks j with
      | none =>
        rw [Option.isSome_none]
        clear hpk
        go_wp2_with fail
        go_ret
        exact ⟨rfl, Below.refl _ _⟩
      | some cs =>
        rw [Option.isSome_some]
        obtain ⟨A, hA, hA4, hdec⟩ := packed_some hpk
        have hsm := decAll_small hdec
        have HA := hide hA
        have HA4 := hide hA4
        have HDEC := hide hdec
        clear hpk hA hA4 hdec
        obtain ⟨W0, rfl⟩ : ∃ x : World, x = w0 := ⟨_, rfl⟩
        go_wp2_with fail
        refine (clone_any _ ks _ HK.out (by omega)).mono ?_
        rintro e w1 ⟨v0, rfl, ho1, _, hb1⟩
        go_wp2_with fail
        refine (cloneCr_any vf fs _ (HF.out.below hb1) (by omega) (by omega)).mono ?_
        rintro e w2 ⟨v1, rfl, ho2, hb2⟩
        go_wp2_with fail
        refine (clone_any _ qs _ ((HQ.out.below hb1).below hb2) (by omega)).mono ?_
        rintro e w3 ⟨v2, rfl, ho3, _, hb3⟩
        have HK3 := hide (own_below (own_below ho1 hb2) hb3)
        have HF3 := hide (ho2.below hb3).crs
        have HQ3 := hide (Ints.of_own ho3)
        have HW3 := hide ((hb1.trans (hb2.mono hb1.size)).trans (hb3.mono (Nat.le_trans hb1.size hb2.size)))
        clear ho1 ho2 ho3 hb1 hb2 hb3 HK HF HQ
        go_wp2_with fail
        refine (toCr_any v1 fs _ HF3.out (by omega) (by omega)).mono ?_
        rintro e w4 ⟨v3, rfl, ho4, hb4⟩
        go_wp2_with fail
        refine (clone_any v2 qs _ (HQ3.out.below hb4) (by omega)).mono ?_
        rintro e w5 ⟨v4, rfl, ho5, _, hb5⟩
        have HZ1 := hide (zzFirst_any v0 v3 v4 ks fs cs qs j A _ w3 w5 HK3.out (St.begin ho4 hb4 ho5 hb5) (by omega) HA.out HA4.out (by omega) (by omega) HDEC.out)
        clear ho4 hb4 ho5 hb5
        go_wp2_with fail
        refine HZ1.out.mono ?_
        rintro e w6 ⟨r1, q1, rfl, hst1⟩
        have HZ2 := hide (zzFirst_any v0 (.slice none 0 0) (.slice none 0 0) ks [] cs [] j A _ w6 w6 (own_below HK3.out hst1.below) (St.start w6) (by omega) HA.out HA4.out (by simp) (by simp) HDEC.out)
        have HST1 := hide hst1
        clear HZ1 hst1 HA HA4 HDEC HK3
        go_wp2_with fail
        refine HZ2.out.mono ?_
        rintro e w7 ⟨r0, q0, rfl, hst0⟩
        rw [List.nil_append, List.nil_append] at hst0
        have hb37 := HST1.out.below.trans (hst0.below.mono HST1.out.below.size)
        have HR1 := hide (HST1.out.crs.below hst0.below)
        have HQ1 := hide (HST1.out.ints.below hst0.below)
        have HR0 := hide hst0.crs
        have HQ0 := hide hst0.ints
        have HF7 := hide (HF3.out.below hb37)
        have HQ7 := hide (HQ3.out.below hb37)
        have HW7 := hide (HW3.out.trans (hb37.mono HW3.out.size))
        clear HST1 hst0 hb37 HZ2 HF3 HQ3 HW3
        obtain ⟨R1, hR1⟩ : ∃ R1, fs ++ cs = R1 := ⟨_, rfl⟩
        obtain ⟨FL, hFL⟩ : ∃ FL, csFlat cs = FL := ⟨_, rfl⟩
        obtain ⟨Q1, hQ1⟩ : ∃ Q1, qs ++ csFlat cs = Q1 := ⟨_, rfl⟩
        have hR1l : R1.length = fs.length + cs.length := by rw [← hR1]; simp
        have hQ1l : Q1.length = qs.length + FL.length := by rw [← hQ1, hFL]; simp
        have hFLl : FL.length = rsum cs := by rw [← hFL, csFlat_len]
        have hRa : ∀ i, i < fs.length → R1.getD i Cr.zero = fs.getD i Cr.zero := fun i h => by rw [← hR1]; exact getD_l _ _ _ h
        have hRb : ∀ i, R1.getD (fs.length + i) Cr.zero = cs.getD i Cr.zero := fun i => by rw [← hR1]; exact getD_r _ _ _
        have hQa : ∀ i, i < qs.length → Q1.getD i 0 = qs.getD i 0 := fun i h => by rw [← hQ1]; exact getD_app_left _ _ _ h
        have hQb : ∀ i, Q1.getD (qs.length + i) 0 = FL.getD i 0 := fun i => by rw [← hQ1, hFL]; exact getD_app_right _ _ _
        have hFa : ∀ k t, k < cs.length → t < (cs.getD k Cr.zero).lst.length → FL.getD (rsum (cs.take k) + t) 0 = (cs.getD k Cr.zero).lst.getD t 0 := fun k t h h' => by rw [← hFL]; exact flat_at cs k t h h'
        rw [hR1] at HR1
        rw [hQ1] at HQ1
        rw [hFL] at HQ0
        obtain ⟨ar1, cr1, rfl, _, hr1⟩ := HR1.out
        obtain ⟨aq1, cq1, rfl, _, hq1⟩ := HQ1.out
        obtain ⟨ar0, cr0, rfl, _, hr0⟩ := HR0.out
        obtain ⟨aq0, cq0, rfl, _, hq0⟩ := HQ0.out
        obtain ⟨af, cf, rfl, _, hf7⟩ := HF7.out
        obtain ⟨aq7, cq7, rfl, _, hq7⟩ := HQ7.out
        have KR1 := hide hr1
        have KQ1 := hide hq1
        have KR0 := hide hr0
        have KQ0 := hide hq0
        have KF := hide hf7
        have KQ := hide hq7
        have LR := hide hR1l
        have LQ := hide hQ1l
        have LF := hide hFLl
        have MRa := hide hRa
        have MRb := hide hRb
        have MQa := hide hQa
        have MQb := hide hQb
        have MFa := hide hFa
        have hlen1 : ((R1.length : Int) != (fs.length : Int) + (cs.length : Int)) = false := by rw [hR1l]; simp
        have hlen2 : ((Q1.length : Int) != (qs.length : Int) + (FL.length : Int)) = false := by rw [hQ1l]; simp
        have hR1b : R1.length ≤ 100000 := by omega
        have hQ1b : Q1.length ≤ 100000 := by omega
        have hFLb : FL.length ≤ 32768 := by omega
        have hfsb : fs.length ≤ 20000 := by omega
        have hrsf : rsum fs ≤ 1000000 := by omega
        have hrsc : rsum cs ≤ 32768 := by omega
        have hcsb : cs.length ≤ 32768 := by omega
        clear hr1 hq1 hr0 hq0 hf7 hq7 hR1l hQ1l hFLl hRa hRb hQa hQb hFa HR1 HQ1 HR0 HQ0 HF7 HQ7 hR1 hFL hQ1 hsm hle hlk hlq
        go_wp2_with fail
        go_loopw [13] (fun i wr => ∃ k : Nat, k ≤ fs.length ∧ i = .int .i64 k ∧ Below w7.heap.size w7 wr) (fun i _ => fs.length - (intOf i).toNat)
        case atStart => exact ⟨0, Nat.zero_le _, rfl, Below.refl _ _⟩
        case round =>
          skip
          obtain ⟨k, hk, rfl, hb⟩ := hrel
          by_cases hlt : k < fs.length
          · have hLR := LR.out
            obtain ⟨b1, o1, hx1, hc1⟩ := KR1.out (by omega)
            obtain ⟨b2, o2, hx2, hc2⟩ := KF.out (by omega)
            subst hx1
            subst hx2
            obtain ⟨rv1, A1⟩ := hc1 (k) (by omega)
            obtain ⟨rv2, A2⟩ := hc2 k hlt
            rw [MRa.out k hlt] at A1
            have B1 := A1.below hb
            have B2 := A2.below hb
            obtain ⟨wo, rfl⟩ : ∃ x : World, x = wr := ⟨_, rfl⟩
            have hll := rs_le k hlt rfl hrsf
            clear hLR
            generalize fs.getD k Cr.zero = c at *
            obtain ⟨cp1, cr1', crs, cs1⟩ := c
            have p0 := B1.p
            have p1 := B1.r
            have p2 := B1.v
            have p3 := B1.s
            have q0 := B2.p
            have q1 := B2.r
            have q2 := B2.v
            have q3 := B2.s
            have hl1 : b1 < wo.heap.size := World.block_lt_of_cell? wo _ p0
            have hl2 : b2 < wo.heap.size := World.block_lt_of_cell? wo _ q0
            have hv1 := B1.rv
            have hv2 := B2.rv
            obtain ⟨a1, z1, rfl⟩ := hv1.form
            obtain ⟨a2, z2, rfl⟩ := hv2.form
            have HV1 := hide hv1
            have HV2 := hide hv2
            have HB := hide hb
            have g0 : (0 : Int) ≤ (k : Int) := by omega
            have g1 : (k : Int) < (fs.length : Int) := by omega
            have g2 : (k : Int) < (R1.length : Int) := by have := LR.out; omega
            clear hc1 hc2 A1 A2 B1 B2 hv1 hv2 hb KR1 KF KR0 KQ1 KQ0 KQ MRa MRb MQa MQb MFa LF LQ
            simp only at p0 p1 p3 q0 q1 q3 hll
            go_wp2_with fail
            go_region_held3 (fun w' => w'.cell? ⟨b1, o1 + k * 4, none⟩ = some (.int .i64 cp1) ∧ w'.cell? ⟨b1, o1 + k * 4 + 1, none⟩ = some (.int .i64 cr1') ∧ w'.cell? ⟨b1, o1 + k * 4 + 2, none⟩ = some (.slice a1 (crs.getD []).length z1) ∧ w'.cell? ⟨b1, o1 + k * 4 + 3, none⟩ = some (.int .i64 cs1) ∧
                w'.cell? ⟨b2, o2 + k * 4, none⟩ = some (.int .i64 cp1) ∧ w'.cell? ⟨b2, o2 + k * 4 + 1, none⟩ = some (.int .i64 cr1') ∧ w'.cell? ⟨b2, o2 + k * 4 + 2, none⟩ = some (.slice a2 (crs.getD []).length z2) ∧ w'.cell? ⟨b2, o2 + k * 4 + 3, none⟩ = some (.int .i64 cs1))
              (first | go_keep | (go_split_ands; refine ⟨?_, ?_, ?_, ?_, ?_, ?_, ?_, ?_⟩ <;> (rw [hb1.cell (by simp; omega)]; assumption)))
              ((go_at_call 28; refine (sameAsZ_eq cp1 cr1' cs1 _ _ crs _ (by exact RV.drewN HV1.out 1) (by exact RV.drewN HV2.out 1) (by omega)).mono ?_; rintro e w8 ⟨rfl, hb1⟩))
            have HB1 := hide (HB.out.trans ((show Below wo.heap.size wo w8 from ⟨hb1.os, hb1.tape, hb1.output, hb1.size, hb1.block⟩).mono HB.out.size))
            clear HV1 HV2 HB hb1 p0 p1 p2 p3 q0 q1 q2 q3
            go_wp2_with fail
            go_roundw
            case rel => exact ⟨k + 1, by omega, by go_num, HB1.out⟩
            case measure => simp [intOf]; omega
          · go_wp2_with fail
            go_loopw [14] (fun i wr => ∃ k : Nat, k ≤ cs.length ∧ i = .int .i64 k ∧ Below w7.heap.size w7 wr) (fun i _ => cs.length - (intOf i).toNat)
            case atStart => exact ⟨0, Nat.zero_le _, rfl, hb⟩
            case round =>
              clear hb
              obtain ⟨k, hk, rfl, hb⟩ := hrel
              by_cases hlt : k < cs.length
              · have hLR := LR.out
                obtain ⟨b1, o1, hx1, hc1⟩ := KR1.out (by omega)
                obtain ⟨b2, o2, hx2, hc2⟩ := KR0.out (by omega)
                subst hx1
                subst hx2
                obtain ⟨rv1, A1⟩ := hc1 (fs.length + k) (by omega)
                obtain ⟨rv2, A2⟩ := hc2 k hlt
                rw [MRb.out k] at A1
                have B1 := A1.below hb
                have B2 := A2.below hb
                obtain ⟨wo, rfl⟩ : ∃ x : World, x = wr := ⟨_, rfl⟩
                have hll := rs_le k hlt rfl hrsc
                clear hLR
                generalize cs.getD k Cr.zero = c at *
                obtain ⟨cp1, cr1', crs, cs1⟩ := c
                have p0 := B1.p
                have p1 := B1.r
                have p2 := B1.v
                have p3 := B1.s
                have q0 := B2.p
                have q1 := B2.r
                have q2 := B2.v
                have q3 := B2.s
                have hl1 : b1 < wo.heap.size := World.block_lt_of_cell? wo _ p0
                have hl2 : b2 < wo.heap.size := World.block_lt_of_cell? wo _ q0
                have hv1 := B1.rv
                have hv2 := B2.rv
                obtain ⟨a1, z1, rfl⟩ := hv1.form
                obtain ⟨a2, z2, rfl⟩ := hv2.form
                have HV1 := hide hv1
                have HV2 := hide hv2
                have HB := hide hb
                have g0 : (0 : Int) ≤ (k : Int) := by omega
                have g1 : (k : Int) < (cs.length : Int) := by omega
                have g2 : (0 : Int) ≤ (fs.length : Int) + (k : Int) := by omega
                have g3 : (fs.length : Int) + (k : Int) < (R1.length : Int) := by have := LR.out; omega
                have g4 : ((fs.length : Int) + (k : Int)).toNat = fs.length + k := by omega
                have g5 : IntKind.i64.wrap ((fs.length : Int) + (k : Int)) = (fs.length : Int) + (k : Int) := wrap_small _ (by omega) (by omega)
                clear hc1 hc2 A1 A2 B1 B2 hv1 hv2 hb KR1 KR0 KQ1 KQ0 KQ MRa MRb MQa MQb MFa LF LQ
                simp only at p0 p1 p3 q0 q1 q3 hll
                go_wp2_with fail
                go_region_held3 (fun w' => w'.cell? ⟨b1, o1 + (fs.length + k) * 4, none⟩ = some (.int .i64 cp1) ∧ w'.cell? ⟨b1, o1 + (fs.length + k) * 4 + 1, none⟩ = some (.int .i64 cr1') ∧ w'.cell? ⟨b1, o1 + (fs.length + k) * 4 + 2, none⟩ = some (.slice a1 (crs.getD []).length z1) ∧ w'.cell? ⟨b1, o1 + (fs.length + k) * 4 + 3, none⟩ = some (.int .i64 cs1) ∧
                    w'.cell? ⟨b2, o2 + k * 4, none⟩ = some (.int .i64 cp1) ∧ w'.cell? ⟨b2, o2 + k * 4 + 1, none⟩ = some (.int .i64 cr1') ∧ w'.cell? ⟨b2, o2 + k * 4 + 2, none⟩ = some (.slice a2 (crs.getD []).length z2) ∧ w'.cell? ⟨b2, o2 + k * 4 + 3, none⟩ = some (.int .i64 cs1))
                  (first | go_keep | (go_split_ands; refine ⟨?_, ?_, ?_, ?_, ?_, ?_, ?_, ?_⟩ <;> (rw [hb1.cell (by simp; omega)]; assumption)))
                  ((go_at_call 29; refine (sameCrash_eq cp1 cr1' cs1 _ _ crs _ (by exact RV.drewN HV1.out 1) (by exact RV.drewN HV2.out 1) (by omega)).mono ?_; rintro e w8 ⟨rfl, hb1⟩))
                have HB1 := hide (HB.out.trans ((show Below wo.heap.size wo w8 from ⟨hb1.os, hb1.tape, hb1.output, hb1.size, hb1.block⟩).mono HB.out.size))
                clear HV1 HV2 HB hb1 p0 p1 p2 p3 q0 q1 q2 q3
                go_wp2_with fail
                go_roundw
                case rel => exact ⟨k + 1, by omega, by go_num, HB1.out⟩
                case measure => simp [intOf]; omega
              · go_wp2_with fail
                go_loopw [15] (fun i wr => ∃ k : Nat, k ≤ qs.length ∧ i = .int .i64 k ∧ Below w7.heap.size w7 wr) (fun i _ => qs.length - (intOf i).toNat)
                case atStart => exact ⟨0, Nat.zero_le _, rfl, hb⟩
                case round =>
                  clear hb
                  obtain ⟨k, hk, rfl, hb⟩ := hrel
                  by_cases hlt : k < qs.length
                  · have hLQ := LQ.out
                    obtain ⟨b1, o1, hx1, hc1⟩ := KQ1.out (by omega)
                    obtain ⟨b2, o2, hx2, hc2⟩ := KQ.out (by omega)
                    subst hx1
                    subst hx2
                    have A1 := hc1 (k) (by omega)
                    have A2 := hc2 k hlt
                    rw [MQa.out k hlt] at A1
                    have B1 := (hb.cell (p := ⟨b1, _, none⟩) (World.block_lt_of_cell? w7 _ A1)).trans A1
                    have B2 := (hb.cell (p := ⟨b2, _, none⟩) (World.block_lt_of_cell? w7 _ A2)).trans A2
                    clear A1 A2 hc1 hc2
                    generalize qs.getD k 0 = x at *
                    have g0 : (0 : Int) ≤ (k : Int) := by omega
                    have g1 : (k : Int) < (qs.length : Int) := by omega
                    have g2 : (k : Int) < (Q1.length : Int) := by omega
                    have hxx : (x != x) = false := by simp
                    have HB := hide hb
                    clear hb hLQ KR1 KR0 KQ1 KQ0 KQ KF MRa MRb MQa MQb MFa
                    go_wp2_with fail
                    go_quiet (fail)
                    go_wp2_with fail
                    go_roundw
                    case rel => exact ⟨k + 1, by omega, by go_num, below_drewN HB.out _⟩
                    case measure => simp [intOf]; omega
                  · go_wp2_with fail
                    go_loopw [16] (fun i wr => ∃ k : Nat, k ≤ FL.length ∧ i = .int .i64 k ∧ Below w7.heap.size w7 wr) (fun i _ => FL.length - (intOf i).toNat)
                    case atStart => exact ⟨0, Nat.zero_le _, rfl, hb⟩
                    case round =>
                      clear hb
                      obtain ⟨k, hk, rfl, hb⟩ := hrel
                      by_cases hlt : k < FL.length
                      · have hLQ := LQ.out
                        obtain ⟨b1, o1, hx1, hc1⟩ := KQ1.out (by omega)
                        obtain ⟨b2, o2, hx2, hc2⟩ := KQ0.out (by omega)
                        subst hx1
                        subst hx2
                        have A1 := hc1 (qs.length + k) (by omega)
                        have A2 := hc2 k hlt
                        rw [MQb.out k] at A1
                        have B1 := (hb.cell (p := ⟨b1, _, none⟩) (World.block_lt_of_cell? w7 _ A1)).trans A1
                        have B2 := (hb.cell (p := ⟨b2, _, none⟩) (World.block_lt_of_cell? w7 _ A2)).trans A2
                        clear A1 A2 hc1 hc2
                        generalize FL.getD k 0 = x at *
                        have g0 : (0 : Int) ≤ (k : Int) := by omega
                        have g1 : (k : Int) < (FL.length : Int) := by omega
                        have g2 : (k : Int) < (Q1.length : Int) := by omega
                        have g3 : (0 : Int) ≤ (qs.length : Int) + (k : Int) := by omega
                        have g4 : (qs.length : Int) + (k : Int) < (Q1.length : Int) := by omega
                        have g5 : ((qs.length : Int) + (k : Int)).toNat = qs.length + k := by omega
                        have hxx : (x != x) = false := by simp
                        have HB := hide hb
                        clear hb hLQ KR1 KR0 KQ1 KQ0 KQ KF MRa MRb MQa MQb MFa
                        go_wp2_with fail
                        go_quiet (fail)
                        go_wp2_with fail
                        go_roundw
                        case rel => exact ⟨k + 1, by omega, by go_num, below_drewN HB.out _⟩
                        case measure => simp [intOf]; omega
                      · go_wp2_with fail
                        go_loopw [17, 18] (fun q i wr => ∃ k : Nat, k ≤ cs.length ∧ i = .int .i64 k ∧ q = .int .i64 (rsum (cs.take k)) ∧ Below w7.heap.size w7 wr) (fun _ i _ => cs.length - (intOf i).toNat)
                        case atStart => exact ⟨0, Nat.zero_le _, rfl, rfl, hb⟩
                        case round =>
                          clear hb
                          obtain ⟨k, hk, rfl, rfl, hb⟩ := hrel
                          have hrs := rsum_le cs k
                          by_cases hlt : k < cs.length
                          · obtain ⟨b1, o1, hx1, hc1⟩ := KR0.out (by omega)
                            subst hx1
                            obtain ⟨rv1, A1⟩ := hc1 k hlt
                            have hst := rsum_step cs k hlt
                            have hmm := rsum_le cs (k + 1)
                            have hfa := fun t => MFa.out k t hlt
                            have B1 := A1.below hb
                            have hll := rs_le k hlt rfl hrsc
                            generalize cs.getD k Cr.zero = c at *
                            obtain ⟨cp1, cr1', crs, cs1⟩ := c
                            have p2 := B1.v
                            obtain ⟨⟨a1, z1, rfl, _, hi2⟩, _⟩ := B1.rv
                            change ∀ t, t < (crs.getD []).length → FL.getD (rsum (cs.take k) + t) 0 = (crs.getD []).getD t 0 at hfa
                            change rsum (cs.take (k + 1)) = rsum (cs.take k) + (crs.getD []).length at hst
                            simp only at hll hi2 p2
                            have hLF := LF.out
                            have hpos : rsum (cs.take k) + (crs.getD []).length ≤ FL.length := by omega
                            have HI2 := hide hi2
                            have HB := hide hb
                            have HQW := hide (fun i (hi : i < FL.length) => KQ0.out (by omega))
                            clear hc1 A1 B1 hi2 hb KR1 KR0 KQ1 KQ KF MRa MRb MQa MQb MFa hLF hmm hrs HQW
                            generalize crs.getD [] = l at *
                            have HFA := hide hfa
                            have HST := hide hst
                            clear hfa hst
                            generalize rsum (cs.take k) = R at *
                            have hpos' : ¬ ((FL.length : Int) - (R : Int) < (l.length : Int)) := by omega
                            obtain ⟨wo, rfl⟩ : ∃ x : World, x = wr := ⟨_, rfl⟩
                            go_wp2_with fail
                            go_loopw [20] (fun t wi => ∃ tn : Nat, tn ≤ l.length ∧ t = .int .i64 tn ∧ ∃ n, wi = wo.drewN n) (fun t _ => l.length - (intOf t).toNat)
                            case atStart => exact ⟨0, Nat.zero_le _, rfl, 0, rfl⟩
                            case round =>
                              obtain ⟨t, ht, rfl, n, rfl⟩ := hrel
                              by_cases hlt2 : t < l.length
                              · obtain ⟨b3, o3, hx3, hc3⟩ := KQ0.out (by omega)
                                obtain ⟨b4, o4, hx4, hc4⟩ := HI2.out (by omega)
                                subst hx3
                                subst hx4
                                have c3 := hc3 (R + t) (by omega)
                                have c3' : wo.cell? ⟨b3, o3 + (R + t), none⟩ = some (.int .i64 (l.getD t 0)) := by
                                  rw [← HFA.out t hlt2]
                                  exact (HB.out.cell (p := ⟨b3, _, none⟩) (World.block_lt_of_cell? w7 _ c3)).trans c3
                                have c4 := hc4 t hlt2
                                generalize l.getD t 0 = x at c3' c4
                                have e0 : (0 : Int) ≤ (t : Int) := by omega
                                have e1 : (t : Int) < (l.length : Int) := by omega
                                have e2 : (0 : Int) ≤ (R : Int) + (t : Int) := by omega
                                have e3 : (R : Int) + (t : Int) < (FL.length : Int) := by omega
                                have e4 : ((R : Int) + (t : Int)).toNat = R + t := by omega
                                have hxx : (x != x) = false := by simp
                                clear hc3 hc4 c3 KQ0 HI2 HFA
                                go_wp2_with fail
                                go_quiet (fail)
                                go_wp2_with fail
                                go_roundw
                                case rel => exact ⟨t + 1, by omega, by go_num, _, rfl⟩
                                case measure => simp [intOf]; omega
                              · go_wp2_with fail
                                go_roundw
                                case rel => exact ⟨k + 1, by omega, by go_num, by rw [HST.out]; go_num, below_drewN HB.out n⟩
                                case measure => simp [intOf]; omega
                          · have hfin : ((rsum (cs.take k) : Int) == (FL.length : Int)) = true := by
                              have := LF.out
                              rw [List.take_of_length_le (by omega), this]
                              simp
                            go_wp2_with fail
                            go_ret
                            exact ⟨rfl, HW7.out.trans (hb.mono HW7.out.size)⟩

end Go.Proofs.Qxb6601873a
