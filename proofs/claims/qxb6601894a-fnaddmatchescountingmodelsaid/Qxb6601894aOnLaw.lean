/-
  Seat b6601894a: the law FnSuspensionOnFindsTheOneThatHoldsTheDay, walked.
-/
import Derived.Test.Qxb6601894aMake
namespace Go.Proofs.Qxb6601894a
open Go.RowKit

def IsBool (e : Ending) : Prop := ∃ r : Bool, e = .returned (.bool r)
theorem isBool (r : Bool) : IsBool (.returned (.bool r)) := ⟨r, rfl⟩

theorem susp_nil (w : World) : Calls Try.prog 22 #[.slice none 0 0] w fun e w' => e = .returned (.slice none 0 0) ∧ w' = w := by
  have q39 : ∀ (w : World) (a : Option Addr) (n c n' c' : Nat), (binOp .eql 39 (.slice a n c) (.slice none n' c')).run Try.prog w = .ok (.bool a.isNone) w := fun w a n c n' c' => Lib.run_eql_slice_nil w _ _ a n c n' c' Try.underlying39
  go_enter Try.func22, Try.ntmps22
  go_wp2
  go_ret
  exact ⟨rfl, rfl⟩

theorem susp_any (v : Value) (ss : List (Int × Int)) (w : World) (hv : Prs w v ss) (hl : ss.length ≤ 1073741824) :
    Calls Try.prog 22 #[v] w fun e w' => ∃ v', e = .returned v' ∧ OwnPrs w' w.heap.size 51 v' ss ∧ Below w.heap.size w w' := by
  have hv' := hv
  obtain ⟨a, cap, rfl, hn, hc⟩ := hv
  cases a with
  | none =>
    have hz : ss = [] := by
      cases ss with
      | nil => rfl
      | cons x r => obtain ⟨_, _, h, _⟩ := hc (by simp); cases h
    subst hz
    have := hn rfl
    subst this
    refine (susp_nil w).mono ?_
    rintro e w' ⟨rfl, rfl⟩
    exact ⟨_, rfl, ⟨[], World.ownsRow_nil _ _ _ _, fun i h => by simp at h⟩, Below.refl _ _⟩
  | some x => exact susp_some x cap ss w hv' hl

theorem bytes29 (a : Option Addr) (n c : Nat) (d : Int) (w : World) (hn : n ≤ maxLen) : Calls Try.prog 29 #[.slice a n c, .int .i64 d] w fun e w' => IsBool e ∧ w' = w := by
  unfold maxLen at hn
  go_enter Try.func29, Try.ntmps29
  go_wp2
  all_goals
    go_ret
    exact ⟨isBool _, rfl⟩

theorem on_hit {ss : List (Int × Int)} {d : Int} {k : Nat} (hk : k < ss.length) (h1 : (ss.getD k (0, 0)).1 ≤ d) (h2 : d ≤ (ss.getD k (0, 0)).2) (hl : ∀ i, i < k → holds d (nth ss i) = false) : onS ss d = some (ss.getD k (0, 0)) :=
  find_at k hk (holds_yes h1 h2) hl

set_option maxHeartbeats 1000000 in
theorem on_law (v : Value) (ss : List (Int × Int)) (d : Int) (w : World) (hv : Prs w v ss) (hl : ss.length ≤ maxLen) :
    Calls Try.prog 7 #[v, .int .i64 d] w fun e w' => e = .returned (.bool true) ∧ Below w.heap.size w w' := by
  obtain ⟨a, cap, rfl, hv'⟩ := hv
  have HV := hide (show Prs w (.slice a ss.length cap) ss from ⟨a, cap, rfl, hv'⟩)
  clear hv'
  go_enter Try.func7, Try.ntmps7
  go_wp2_with fail
  refine (bytes29 a ss.length cap d _ hl).mono ?_
  rintro e w' ⟨⟨r, rfl⟩, rfl⟩
  unfold maxLen at hl
  cases r with
  | false =>
    go_wp2_with fail
    go_ret
    exact ⟨rfl, Below.refl _ _⟩
  | true =>
    by_cases h1 : 65536 < ss.length
    · go_wp2_with fail
      go_ret
      exact ⟨rfl, Below.refl _ _⟩
    obtain ⟨W0, rfl⟩ : ∃ x : World, x = w' := ⟨_, rfl⟩
    go_wp2_with fail
    refine (well_any _ ss _ HV.out (by omega)).mono ?_
    rintro e w1 ⟨rfl, hb1⟩
    cases hwl : wellB ss with
    | false =>
      clear hwl
      go_wp2_with fail
      go_ret
      exact ⟨rfl, hb1⟩
    | true =>
      have HWL := hide hwl
      clear hwl
      have HV1 := hide (HV.out.below hb1)
      have HB1 := hide hb1
      clear hb1
      go_wp2_with fail
      refine (susp_any _ ss _ HV1.out (by omega)).mono ?_
      rintro e w2 ⟨v2, rfl, ho2, hb2⟩
      have HV2 := hide (HV1.out.below hb2)
      have HS2 := hide ho2.prs
      have HB2 := hide (HB1.out.trans (hb2.mono HB1.out.size))
      clear ho2 hb2 HV1 HB1 HV
      go_wp2_with fail
      refine (day_any d _).mono ?_
      rintro e w3 ⟨rfl, hb3⟩
      have HV3 := hide (HV2.out.below hb3)
      have HS3 := hide (HS2.out.below hb3)
      have HB3 := hide (HB2.out.trans (hb3.mono HB2.out.size))
      clear hb3 HV2 HS2 HB2
      go_wp2_with fail
      refine (zzOn_any v2 ss d _ HS3.out (by omega) HWL.out).mono ?_
      rintro e w4 ⟨rfl, hb4⟩
      have HV4 := hide (HV3.out.below hb4)
      have HB4 := hide (HB3.out.trans (hb4.mono HB3.out.size))
      clear hb4 HV3 HS3 HB3
      obtain ⟨R, hR⟩ : ∃ R, onS ss d = R := ⟨_, rfl⟩
      have HR := hide hR
      rw [hR]
      clear hR
      obtain ⟨f, hf⟩ : ∃ f, (R.getD (0, 0)).1 = f := ⟨_, rfl⟩
      obtain ⟨t, ht⟩ : ∃ t, (R.getD (0, 0)).2 = t := ⟨_, rfl⟩
      obtain ⟨q, hq⟩ : ∃ q, R.isSome = q := ⟨_, rfl⟩
      unfold onV
      rw [hf, ht, hq]
      have HF := hide hf
      have HT := hide ht
      have HQ := hide hq
      clear hf ht hq
      go_wp2_with fail
      refine (daynum_any f _).mono ?_
      rintro e w5 ⟨rfl, hb5⟩
      have k1 : w5.cell? ⟨w4.heap.size, 1, none⟩ = some (.int .i64 t) := by
        rw [hb5.cell (p := ⟨w4.heap.size, 1, none⟩) (by simp), cell_of_row _ _ _ _ _ _ (heap_alloc_new w4 _)]; rfl
      have HV5 := hide ((HV4.out.below (one_below _ (.cells #[.int .i64 f, .int .i64 t] 51))).below hb5)
      have hb45 := (one_below w4 (.cells #[.int .i64 f, .int .i64 t] 51)).trans (hb5.mono (by simp))
      have HB5 := hide (HB4.out.trans (hb45.mono HB4.out.size))
      clear hb5 HV4 HB4 hb45
      go_wp2_with fail
      refine (daynum_any t _).mono ?_
      rintro e w6 ⟨rfl, hb6⟩
      have HV6 := hide (HV5.out.below hb6)
      have HB6 := hide (HB5.out.trans (hb6.mono HB5.out.size))
      clear hb6 HV5 HB5 k1
      obtain ⟨_, _, e1, _, hc0⟩ := HV6.out
      simp only [Value.slice.injEq] at e1
      obtain ⟨rfl, _, rfl⟩ := e1
      have HC0 := hide hc0
      clear hc0 HV6
      go_wp2_with fail
      go_loop [10] (fun i => ∃ k : Nat, k ≤ ss.length ∧ i = .int .i64 k ∧ Hid (∀ i, i < k → holds d (nth ss i) = false)) (fun i => ss.length - (intOf i).toNat)
      case atStart => exact ⟨0, Nat.zero_le _, rfl, fun i h => by omega⟩
      case round =>
        obtain ⟨k, hk, rfl, HO⟩ := hrel
        by_cases hlt : k < ss.length
        · obtain ⟨b, off, hx, hc⟩ := HC0.out (by omega)
          subst hx
          have hcc := hc k hlt
          obtain ⟨c0, c1⟩ := hcc
          have hhit := fun h1 h2 => on_hit hlt h1 h2 HO.out
          have hmiss : d < (ss.getD k (0, 0)).1 ∨ (ss.getD k (0, 0)).2 < d → ∀ i, i < k + 1 → holds d (nth ss i) = false := fun h i hi => by
            by_cases he : i = k
            · subst he; exact holds_no h
            · exact HO.out i (by omega)
          generalize ss.getD k (0, 0) = pr at *
          obtain ⟨f', t'⟩ := pr
          simp only at c0 c1 hhit hmiss
          have HH := hide hhit
          have HM := hide hmiss
          clear hhit hmiss hc HO HC0
          by_cases q1 : f' ≤ d
          · by_cases q2 : d ≤ t'
            · have hr := HH.out q1 q2
              have hr2 := HR.out
              rw [hr] at hr2
              subst hr2
              obtain rfl : f' = f := HF.out
              obtain rfl : t' = t := HT.out
              obtain rfl : true = q := HQ.out
              have hee : (f' == f') = true := by simp
              have htt : (t' == t') = true := by simp
              clear HH HM hr HR HF HT HQ
              go_wp2_with fail
              go_ret
              exact ⟨rfl, HB6.out⟩
            · have HN := hide (HM.out (.inr (by omega)))
              clear HH HM
              go_wp2_with fail
              go_round
              case rel => exact ⟨k + 1, by omega, by go_num, HN.out⟩
              case measure => simp [intOf]; omega
          · have HN := hide (HM.out (.inl (by omega)))
            have hd : decide (f' ≤ d) = false := decide_eq_false q1
            clear HH HM
            go_wp2_with fail
            go_round
            case rel => exact ⟨k + 1, by omega, by go_num, HN.out⟩
            case measure => simp [intOf]; omega
        · have hr : onS ss d = none := find_none (fun i hi => HO.out i (by omega))
          have hr2 := HR.out
          rw [hr] at hr2
          subst hr2
          obtain rfl : 0 = f := HF.out
          obtain rfl : 0 = t := HT.out
          obtain rfl : false = q := HQ.out
          clear HO HC0 hr HR HF HT HQ
          go_wp2_with fail
          go_ret
          exact ⟨rfl, HB6.out⟩

end Go.Proofs.Qxb6601894a
