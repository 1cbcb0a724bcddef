/-
  Seat b6601873a: the law FnAppendFirstDecodesWhatIsEncoded, walked.
-/
import Derived.Test.Qxb6601873aSame
namespace Go.Proofs.Qxb6601873a
open Go.RowKit
attribute [local go_sem ↓] Go.wp_at_zero Go.wp_at_succ

/-! ### the plain law: what is decoded is what was encoded -/
theorem getD_app_left (l m : List Int) (i : Nat) (h : i < l.length) : (l ++ m).getD i 0 = l.getD i 0 := by simp [List.getD, List.getElem?_append_left h]
theorem getD_app_right (l m : List Int) (i : Nat) : (l ++ m).getD (l.length + i) 0 = m.getD i 0 := by simp [List.getD, List.getElem?_append_right]

theorem decOne_enc (pre post : List Int) (c : Cr) : decOne (pre ++ crEnc c ++ post) pre.length = some (c, pre.length + (crEnc c).length) := by
  obtain ⟨p, r, rs, s⟩ := c
  have e : ∀ i, (pre ++ crEnc ⟨p, r, rs, s⟩ ++ post).getD (pre.length + i) 0 = (crEnc ⟨p, r, rs, s⟩ ++ post).getD i 0 := fun i => by rw [List.append_assoc]; exact getD_app_right _ _ _
  have e0 : (pre ++ crEnc ⟨p, r, rs, s⟩ ++ post).getD pre.length 0 = p := by have := e 0; rw [Nat.add_zero] at this; rw [this]; rfl
  have e1 := e 1
  have e2 := e 2
  have e3 := e 3
  have f1 : (crEnc ⟨p, r, rs, s⟩ ++ post).getD 1 0 = r := rfl
  have f2 : (crEnc ⟨p, r, rs, s⟩ ++ post).getD 2 0 = s := rfl
  have f3 : (crEnc ⟨p, r, rs, s⟩ ++ post).getD 3 0 = listed rs := rfl
  unfold decOne
  rw [e0, e1, e2, e3, f1, f2, f3]
  have hl : pre.length + 4 ≤ (pre ++ crEnc ⟨p, r, rs, s⟩ ++ post).length := by simp [crEnc]
  rw [if_pos hl]
  cases rs with
  | none =>
    have : listed none = -1 := rfl
    rw [this]
    rfl
  | some l =>
    have h1 : listed (some l) = (l.length : Int) := rfl
    have hle : (crEnc ⟨p, r, some l, s⟩).length = 4 + l.length := by simp [crEnc, Cr.lst]; omega
    rw [h1, hle]
    cases l with
    | nil => rfl
    | cons x xs =>
      have hn : ¬ (((x :: xs).length : Int) ≤ 0) := by simp
      have ht : (((x :: xs).length : Int)).toNat = (x :: xs).length := Int.toNat_natCast _
      rw [if_neg hn, ht]
      have hf : pre.length + 4 + (x :: xs).length ≤ (pre ++ crEnc ⟨p, r, some (x :: xs), s⟩ ++ post).length := by simp [crEnc, Cr.lst]; omega
      rw [if_pos hf]
      have hd : ((pre ++ crEnc ⟨p, r, some (x :: xs), s⟩ ++ post).drop (pre.length + 4)).take (x :: xs).length = x :: xs := by
        rw [List.append_assoc, ← List.drop_drop, List.drop_left]
        show ((x :: xs) ++ post).take (x :: xs).length = _
        exact List.take_left
      rw [hd, Nat.add_assoc]

theorem decAll_enc (pre : List Int) (cs : List Cr) : decAll (pre ++ csEnc cs) cs.length (pre.length : Int) = some cs := by
  induction cs generalizing pre with
  | nil => rfl
  | cons c r ih =>
    have h1 := decOne_enc pre (csEnc r) c
    have h2 := ih (pre ++ crEnc c)
    have e : pre ++ csEnc (c :: r) = pre ++ crEnc c ++ csEnc r := by simp [csEnc]
    rw [e]
    show (if (0 : Int) ≤ (pre.length : Int) then _ else _) = _
    rw [if_pos (by omega), Int.toNat_natCast, h1]
    simp only
    rw [List.length_append] at h2
    rw [h2]
    rfl

/-- Where ending j's header lies, and what stands there. -/
theorem enc_head (cs : List Cr) (procs outs : List Int) (runs most : Int) (j : Nat) :
    (enc cs procs outs runs most j).getD 0 0 = (procs.length : Int) ∧ (enc cs procs outs runs most j).getD (2 + procs.length + 4 * j) 0 = (cs.length : Int) ∧
    (enc cs procs outs runs most j).getD (2 + procs.length + 4 * j + 3) 0 = (encStart procs.length j outs.length : Int) ∧ 2 + procs.length + 4 * j + 4 ≤ (enc cs procs outs runs most j).length := by
  have hz := zeros4_len j
  have hlen : (encHead procs.length j procs ++ zeros4 j).length = 2 + procs.length + 4 * j := by simp [encHead, hz]; omega
  have e : enc cs procs outs runs most j = (encHead procs.length j procs ++ zeros4 j) ++ ([(cs.length : Int), runs, most, (encStart procs.length j outs.length : Int)] ++ (outs ++ csEnc cs)) := by simp [enc]
  refine ⟨rfl, ?_, ?_, ?_⟩
  · have := getD_app_right (encHead procs.length j procs ++ zeros4 j) ([(cs.length : Int), runs, most, (encStart procs.length j outs.length : Int)] ++ (outs ++ csEnc cs)) 0
    rw [hlen, Nat.add_zero] at this
    rw [e, this]
    rfl
  · have := getD_app_right (encHead procs.length j procs ++ zeros4 j) ([(cs.length : Int), runs, most, (encStart procs.length j outs.length : Int)] ++ (outs ++ csEnc cs)) 3
    rw [hlen] at this
    rw [e, this]
    rfl
  · rw [e, List.length_append, hlen]
    simp
theorem enc_dec (cs : List Cr) (procs outs : List Int) (runs most : Int) (j : Nat) : decAll (enc cs procs outs runs most j) cs.length (encStart procs.length j outs.length : Int) = some cs := by
  have hz := zeros4_len j
  have hlen : (encHead procs.length j procs ++ zeros4 j ++ [(cs.length : Int), runs, most, (encStart procs.length j outs.length : Int)] ++ outs).length = encStart procs.length j outs.length := by
    simp [encHead, encStart, hz]; omega
  have := decAll_enc (encHead procs.length j procs ++ zeros4 j ++ [(cs.length : Int), runs, most, (encStart procs.length j outs.length : Int)] ++ outs) cs
  rw [hlen] at this
  exact this
theorem enc_len (cs : List Cr) (procs outs : List Int) (runs most : Int) (j : Nat) : (enc cs procs outs runs most j).length = 6 + procs.length + 4 * j + outs.length + 4 * cs.length + rsum cs := by
  simp [enc, encHead, zeros4_len, csEnc_len]; omega


/-! ### what the state gives to read -/
theorem St.crs {w0 w : World} {vf vq : Value} {fs : List Cr} {qs : List Int} (h : St w0 w vf fs vq qs) : Crs w vf fs := by
  obtain ⟨xs, ho, _, h3, _⟩ := h
  have ho' := ho
  rcases ho.2 with ⟨rfl, h0⟩ | ⟨g, cap, cur, rfl, _, _, _⟩
  · exact ⟨none, 0, by rw [h0], fun _ => rfl, fun hz => by omega⟩
  · refine ⟨_, cap, rfl, (fun h => by cases h), fun _ => ⟨g, 0, rfl, fun i hi => ?_⟩⟩
    obtain ⟨rv, ⟨r0, r1, r2, r3⟩, hr⟩ := h3 i hi
    refine ⟨rv, ?_, ?_, ?_, ?_, hr.rv⟩
    · rw [Nat.zero_add, ho'.cellAt _ (by omega)]; exact r0
    · rw [Nat.zero_add, ho'.cellAt _ (by omega)]; exact r1
    · rw [Nat.zero_add, ho'.cellAt _ (by omega)]; exact r2
    · rw [Nat.zero_add, ho'.cellAt _ (by omega)]; exact r3
theorem St.ints {w0 w : World} {vf vq : Value} {fs : List Cr} {qs : List Int} (h : St w0 w vf fs vq qs) : Ints w vq qs := by
  obtain ⟨xs, _, h2, _, _⟩ := h
  exact Ints.of_own h2
theorem St.start (w : World) : St w w (.slice none 0 0) [] (.slice none 0 0) [] := ⟨[], World.ownsRow_nil _ _ _ _, World.ownsRow_nil _ _ _ _, fun i h => by simp at h, Below.refl _ _⟩

theorem flat_at (cs : List Cr) (k t : Nat) (hk : k < cs.length) (ht : t < (cs.getD k Cr.zero).lst.length) : (csFlat cs).getD (rsum (cs.take k) + t) 0 = (cs.getD k Cr.zero).lst.getD t 0 := by
  have e : cs = cs.take k ++ (cs.getD k Cr.zero :: cs.drop (k + 1)) := by
    have : cs.drop k = cs.getD k Cr.zero :: cs.drop (k + 1) := by rw [List.drop_eq_getElem_cons hk]; simp [List.getD, hk]
    rw [← this, List.take_append_drop]
  have e2 : csFlat cs = csFlat (cs.take k) ++ ((cs.getD k Cr.zero).lst ++ csFlat (cs.drop (k + 1))) := by
    conv => lhs; rw [e]
    rw [csFlat_append]; rfl
  rw [e2, ← csFlat_len, getD_app_right, getD_app_left _ _ _ ht]

theorem wrap64_small {n : Int} (h0 : 0 ≤ n) (h1 : n ≤ 4611686018427387904) : wrap64 n = n := by
  unfold wrap64
  omega
theorem enc_at (np jn : Nat) (h1 : np ≤ 1048576) (h2 : jn ≤ 4096) : wrap64 (wrap64 (2 + (np : Int)) + wrap64 (4 * (jn : Int))) = ((2 + np + 4 * jn : Nat) : Int) := by
  rw [wrap64_small (n := 2 + (np : Int)) (by omega) (by omega), wrap64_small (n := 4 * (jn : Int)) (by omega) (by omega), wrap64_small (by omega) (by omega)]
  omega

/-- appendFirst over what encodePacked has laid out. -/
theorem zz_enc (v4 : Value) (cs : List Cr) (procs outs : List Int) (runs most : Int) (jn : Nat) (w3 w4 : World) (hol : OL w3 w4 v4 (enc cs procs outs runs most jn))
    (hcl : cs.length ≤ 1048576) (hrl : rsum cs ≤ 1048576) (hlp : procs.length ≤ 1048576) (hlo : outs.length ≤ 1048576) (hjn : jn ≤ 4096) :
    Calls Try.prog 27 #[v4, .slice none 0 0, .slice none 0 0, .int .i64 (jn : Int)] w4 fun e w' => ∃ vf' vq', e = .returned (.tuple #[vf', vq']) ∧ St w4 w' vf' cs vq' (csFlat cs) := by
  have hlen := enc_len cs procs outs runs most jn
  have hd := enc_head cs procs outs runs most jn
  have hdec := enc_dec cs procs outs runs most jn
  have hA := enc_at procs.length jn hlp hjn
  rw [← hd.2.2.1] at hdec
  rw [← hd.1] at hA
  have hcn : ((enc cs procs outs runs most jn).getD (2 + procs.length + 4 * jn) 0).toNat = cs.length := by rw [hd.2.1, Int.toNat_natCast]
  rw [← hcn] at hdec
  have hll : (enc cs procs outs runs most jn).length ≤ 1073741824 := by rw [hlen]; clear hA; omega
  refine (zzFirst_any v4 (.slice none 0 0) (.slice none 0 0) (enc cs procs outs runs most jn) [] cs [] jn (2 + procs.length + 4 * jn) w3.heap.size w4 w4 hol.1 (St.start w4) hll hA hd.2.2.2 (by simp) (by simp) hdec).mono ?_
  rintro e w' ⟨vf, vq, rfl, hst⟩
  rw [List.nil_append, List.nil_append] at hst
  exact ⟨_, _, rfl, hst⟩

/-! ### the law -/
set_option maxHeartbeats 2000000 in
theorem decodes_law (vc vp vo : Value) (cs : List Cr) (procs outs : List Int) (runs most j : Int) (w : World) (hc : Crs w vc cs) (hp : Ints w vp procs) (ho : Ints w vo outs)
    (hlc : cs.length ≤ maxLen) (hlr : ∀ i, i < cs.length → (cs.getD i Cr.zero).lst.length ≤ maxLen) (hlp : procs.length ≤ maxLen) (hlo : outs.length ≤ maxLen) :
    Calls Try.prog 10 #[vc, vp, vo, .int .i64 runs, .int .i64 most, .int .i64 j] w fun e w' => e = .returned (.bool true) ∧ Below w.heap.size w w' := by
  obtain ⟨ap, cp, rfl, hp'⟩ := hp
  obtain ⟨ao, co, rfl, ho'⟩ := ho
  have hp : Ints w (.slice ap procs.length cp) procs := ⟨ap, cp, rfl, hp'⟩
  have ho : Ints w (.slice ao outs.length co) outs := ⟨ao, co, rfl, ho'⟩
  have HP := hide hp
  have HO := hide ho
  have HC := hide hc
  clear hp' ho' hp ho hc
  go_enter Try.func10, Try.ntmps10
  go_wp2_with fail
  refine (bytes30 vc cs ap ao procs.length cp outs.length co runs most j _ HC.out hlc hlr hlp hlo).mono ?_
  rintro e w' ⟨⟨r, rfl⟩, rfl⟩
  have HLC := hide hlc
  have HLR := hide hlr
  clear hlc hlr
  unfold maxLen at hlp hlo
  cases r with
  | false =>
    go_wp2_with fail
    go_ret
    exact ⟨rfl, Below.refl _ _⟩
  | true =>
    go_wp2_with fail
    refine (over_any vc cs 524288 _ HC.out HLC.out HLR.out (by omega)).mono ?_
    rintro e w'' ⟨rfl, rfl⟩
    cases hov : overB cs 524288 with
    | true =>
      go_wp2_with fail
      go_ret
      exact ⟨rfl, Below.refl _ _⟩
    | false =>
      have hle := over_le hov
      clear hov HLC HLR
      by_cases h1 : 32768 < procs.length
      · go_wp2_with fail
        go_ret
        exact ⟨rfl, Below.refl _ _⟩
      by_cases h2 : 16384 < outs.length
      · go_wp2_with fail
        go_ret
        exact ⟨rfl, Below.refl _ _⟩
      by_cases h3 : j < 0
      · have h3' : decide (j < 0) = true := by simpa using h3
        go_wp2_with fail
        go_ret
        exact ⟨rfl, Below.refl _ _⟩
      by_cases h4 : 4096 < j
      · go_wp2_with fail
        go_ret
        exact ⟨rfl, Below.refl _ _⟩
      obtain ⟨jn, rfl⟩ := Int.eq_ofNat_of_zero_le (show 0 ≤ j by omega)
      have hcl : cs.length ≤ 1048576 := by omega
      have hrl : rsum cs ≤ 1048576 := by omega
      have hjn : jn ≤ 4096 := by omega
      clear h3 h4 hle
      obtain ⟨W0, rfl⟩ : ∃ x : World, x = w'' := ⟨_, rfl⟩
      go_wp2_with fail
      refine (cloneCr_any vc cs _ HC.out (by omega) (by omega)).mono ?_
      rintro e w1 ⟨v1, rfl, ho1, hb1⟩
      go_wp2_with fail
      refine (clone_any _ procs _ (HP.out.below hb1) (by omega)).mono ?_
      rintro e w2 ⟨v2, rfl, ho2, _, hb2⟩
      go_wp2_with fail
      refine (clone_any _ outs _ ((HO.out.below hb1).below hb2) (by omega)).mono ?_
      rintro e w3 ⟨v3, rfl, ho3, _, hb3⟩
      have HC3 := hide ((ho1.below hb2).below hb3).crs
      have HP3 := hide (Ints.of_own (own_below ho2 hb3))
      have HO3 := hide (Ints.of_own ho3)
      have hW3 : Below W0.heap.size W0 w3 := (hb1.trans (hb2.mono hb1.size)).trans (hb3.mono (Nat.le_trans hb1.size hb2.size))
      have HW3 := hide hW3
      clear ho1 ho2 ho3 hb1 hb2 hb3 HC HP HO hW3
      go_wp2_with fail
      refine (enc_any v1 v2 v3 cs procs outs runs most jn _ HC3.out HP3.out HO3.out hcl hrl (by omega) (by omega) hjn).mono ?_
      rintro e w4 ⟨v4, rfl, hol⟩
      have hC4 := HC3.out.below hol.2
      have HC4 := hide hC4
      have HW4 := hide (HW3.out.trans (hol.2.mono HW3.out.size))
      have HZ := hide (zz_enc v4 cs procs outs runs most jn w3 w4 hol hcl hrl (by omega) (by omega) hjn)
      clear hol hC4 HC3 HP3 HO3 HW3
      go_wp2_with fail
      refine HZ.out.mono ?_
      rintro e w5 ⟨vf, vq, rfl, hst⟩
      have HR := hide hst.crs
      have HQ := hide hst.ints
      have HC5 := hide (HC4.out.below hst.below)
      have HW5 := hide (HW4.out.trans (hst.below.mono HW4.out.size))
      clear hst HZ HC4 HW4
      obtain ⟨ar, cr, rfl, _, hRc⟩ := HR.out
      obtain ⟨aq, cq, rfl, _, hQc⟩ := HQ.out
      obtain ⟨ac, cc, rfl, _, hCc⟩ := HC5.out
      have HRC := hide hRc
      have HQC := hide hQc
      have HCC := hide hCc
      clear hRc hQc hCc HR HQ HC5
      have hfl := csFlat_len cs
      obtain ⟨FL, hFL⟩ : ∃ FL, csFlat cs = FL := ⟨_, rfl⟩
      have HFL := hide hFL
      rw [hFL] at HQC hfl ⊢
      have HFF := hide hfl
      have hfl2 : FL.length ≤ 1048576 := by omega
      clear hFL hfl
      go_wp2_with fail
      go_loopw [16, 17] (fun q i wr => ∃ k : Nat, k ≤ cs.length ∧ i = .int .i64 k ∧ q = .int .i64 (rsum (cs.take k)) ∧ Below w5.heap.size w5 wr) (fun _ i _ => cs.length - (intOf i).toNat)
      case atStart => exact ⟨0, Nat.zero_le _, rfl, rfl, Below.refl _ _⟩
      case round =>
        obtain ⟨k, hk, rfl, rfl, hb⟩ := hrel
        have hrs := rsum_le cs k
        by_cases hlt : k < cs.length
        · obtain ⟨b1, o1, hx1, hc1⟩ := HRC.out (by omega)
          obtain ⟨b2, o2, hx2, hc2⟩ := HCC.out (by omega)
          subst hx1
          subst hx2
          obtain ⟨rv1, A1⟩ := hc1 k hlt
          obtain ⟨rv2, A2⟩ := hc2 k hlt
          have hst := rsum_step cs k hlt
          have hmm := rsum_le cs (k + 1)
          have hfa := flat_at cs k
          have B1 := A1.below hb
          have B2 := A2.below hb
          obtain ⟨wo, rfl⟩ : ∃ x : World, x = wr := ⟨_, rfl⟩
          rw [HFL.out] at hfa
          generalize hcd : cs.getD k Cr.zero = c at *
          obtain ⟨cp1, cr1, crs, cs1⟩ := c
          have p0 := B1.p
          have p1 := B1.r
          have p2 := B1.v
          have p3 := B1.s
          have q0 := B2.p
          have q1 := B2.r
          have q2 := B2.v
          have q3 := B2.s
          have hl1 : b1 < wo.heap.size := World.block_lt_of_cell? wo _ p0
          have hl2 : b2 < wo.heap.size := World.block_lt_of_cell? wo _ q0
          have hv1 := B1.rv
          have hv2 := B2.rv
          obtain ⟨a1, z1, rfl⟩ := hv1.form
          obtain ⟨a2, z2, rfl⟩ := hv2.form
          have HV1 := hide hv1
          have HV2 := hide hv2
          have HST := hide hst
          have HFA := hide hfa
          have hll : (crs.getD []).length ≤ 1048576 := by
            have : (crs.getD []).length = (Cr.lst ⟨cp1, cr1, crs, cs1⟩).length := rfl
            omega
          have HB := hide hb
          have g0 : (0 : Int) ≤ (k : Int) := by omega
          have g1 : (k : Int) < (cs.length : Int) := by omega
          clear hc1 hc2 A1 A2 B1 B2 hv1 hv2 hst hfa hb hcd HRC HCC
          simp only at p0 p1 p3 q0 q1 q3
          go_wp2_with fail
          go_region_held3 (fun w' => w'.cell? ⟨b1, o1 + k * 4, none⟩ = some (.int .i64 cp1) ∧ w'.cell? ⟨b1, o1 + k * 4 + 1, none⟩ = some (.int .i64 cr1) ∧ w'.cell? ⟨b1, o1 + k * 4 + 2, none⟩ = some (.slice a1 (crs.getD []).length z1) ∧ w'.cell? ⟨b1, o1 + k * 4 + 3, none⟩ = some (.int .i64 cs1) ∧
              w'.cell? ⟨b2, o2 + k * 4, none⟩ = some (.int .i64 cp1) ∧ w'.cell? ⟨b2, o2 + k * 4 + 1, none⟩ = some (.int .i64 cr1) ∧ w'.cell? ⟨b2, o2 + k * 4 + 2, none⟩ = some (.slice a2 (crs.getD []).length z2) ∧ w'.cell? ⟨b2, o2 + k * 4 + 3, none⟩ = some (.int .i64 cs1))
            (first | go_keep | (go_split_ands; refine ⟨?_, ?_, ?_, ?_, ?_, ?_, ?_, ?_⟩ <;> (rw [hb1.cell (by simp; omega)]; assumption)))
            ((go_at_call 28; refine (sameAsZ_eq cp1 cr1 cs1 _ _ crs _ (by exact RV.drewN HV1.out 1) (by exact RV.drewN HV2.out 1) (by omega)).mono ?_; rintro e w1 ⟨rfl, hb1⟩))
          have hbw : Below wo.heap.size wo w1 := ⟨hb1.os, hb1.tape, hb1.output, hb1.size, hb1.block⟩
          have HB1 := hide (HB.out.trans (hbw.mono HB.out.size))
          have hcell2 : w1.cell? ⟨b2, o2 + k * 4 + 2, none⟩ = some (.slice a2 (crs.getD []).length z2) := (hbw.cell (p := ⟨b2, _, none⟩) hl2).trans q2
          obtain ⟨a2', z2', he2, _, hi2⟩ := HV2.out.1.below hbw
          simp only [Value.slice.injEq] at he2
          obtain ⟨rfl, _, rfl⟩ := he2
          have hst := HST.out
          have hfa := fun t => HFA.out t hlt
          have hff := HFF.out
          change ∀ t, t < (crs.getD []).length → FL.getD (rsum (cs.take k) + t) 0 = (crs.getD []).getD t 0 at hfa
          change rsum (cs.take (k + 1)) = rsum (cs.take k) + (crs.getD []).length at hst
          have hpos : rsum (cs.take k) + (crs.getD []).length ≤ FL.length := by omega
          have HI2 := hide hi2
          clear HST HFA HFF HV1 HV2 hb1 hbw p0 p1 p2 p3 q0 q1 q2 q3 hi2 HB hff hmm hrs
          generalize crs.getD [] = l at *
          have HFA := hide hfa
          have HST := hide hst
          clear hfa hst
          generalize rsum (cs.take k) = R at *
          have hpos' : ¬ ((FL.length : Int) - (R : Int) < (l.length : Int)) := by omega
          go_wp2_with fail
          go_loopw [19] (fun t wi => ∃ tn : Nat, tn ≤ l.length ∧ t = .int .i64 tn ∧ ∃ n, wi = w1.drewN n) (fun t _ => l.length - (intOf t).toNat)
          case atStart => exact ⟨0, Nat.zero_le _, rfl, 0, rfl⟩
          case round =>
            obtain ⟨t, ht, rfl, n, rfl⟩ := hrel
            by_cases hlt2 : t < l.length
            · obtain ⟨b3, o3, hx3, hc3⟩ := HQC.out (by omega)
              obtain ⟨b4, o4, hx4, hc4⟩ := HI2.out (by omega)
              subst hx3
              subst hx4
              have c3 := hc3 (R + t) (by omega)
              have c3' : w1.cell? ⟨b3, o3 + (R + t), none⟩ = some (.int .i64 (l.getD t 0)) := by
                rw [← HFA.out t hlt2]
                exact (HB1.out.cell (p := ⟨b3, _, none⟩) (World.block_lt_of_cell? w5 _ c3)).trans c3
              have c4 := hc4 t hlt2
              generalize l.getD t 0 = x at c3' c4
              have e0 : (0 : Int) ≤ (t : Int) := by omega
              have e1 : (t : Int) < (l.length : Int) := by omega
              have e2 : (0 : Int) ≤ (R : Int) + (t : Int) := by omega
              have e3 : (R : Int) + (t : Int) < (FL.length : Int) := by omega
              have e4 : ((R : Int) + (t : Int)).toNat = R + t := by omega
              have hxx : (x != x) = false := by simp
              clear hc3 hc4 c3 HQC HI2 HFA
              go_wp2_with fail
              go_quiet (fail)
              go_wp2_with fail
              go_roundw
              case rel => exact ⟨t + 1, by omega, by go_num, _, rfl⟩
              case measure => simp [intOf]; omega
            · go_wp2_with fail
              go_roundw
              case rel => exact ⟨k + 1, by omega, by go_num, by rw [HST.out]; go_num, below_drewN HB1.out n⟩
              case measure => simp [intOf]; omega
        · have hfin : ((rsum (cs.take k) : Int) == (FL.length : Int)) = true := by
            have := HFF.out
            rw [List.take_of_length_le (by omega), this]
            simp
          go_wp2_with fail
          go_ret
          exact ⟨rfl, HW5.out.trans (hb.mono HW5.out.size)⟩

end Go.Proofs.Qxb6601873a
