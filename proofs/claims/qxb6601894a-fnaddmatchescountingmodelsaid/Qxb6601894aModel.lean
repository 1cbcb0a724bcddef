/-
  Seat b6601894a: zzHas, zzModelAdd.
-/
import Derived.Test.Qxb6601894aAddPlain
namespace Go.Proofs.Qxb6601894a
open Go.RowKit
attribute [local go_sem ↓] Go.wp_at_zero Go.wp_at_succ

/-! ### zzHas -/
set_option maxHeartbeats 1000000 in
theorem has_any (v : Value) (zs : List Int) (d : Int) (i : Nat) (w : World) (hv : Ints w v zs) (hl : zs.length ≤ 1073741824) (ha : Asc zs) (hL : LeastD zs d i) :
    Calls Try.prog 19 #[v, .int .i64 d] w fun e w' => e = .returned (.bool (fnd zs d i)) ∧ w' = w := by
  obtain ⟨a, cap, rfl, _, hc0⟩ := hv
  have HC0 := hide hc0
  have HF := hide (fun k h h' => @fnd_of zs d i k hL ha h h')
  clear hc0 ha hL
  go_enter Try.func19, Try.ntmps19
  go_wp2_with fail
  go_loop [5] (fun i => ∃ k : Nat, k ≤ zs.length ∧ i = .int .i64 k ∧ Hid (∀ i, i < k → zs.getD i 0 ≠ d)) (fun i => zs.length - (intOf i).toNat)
  case atStart => exact ⟨0, Nat.zero_le _, rfl, fun i h => by omega⟩
  case round =>
    obtain ⟨k, hk, rfl, HO⟩ := hrel
    by_cases hlt : k < zs.length
    · obtain ⟨b, off, hx, hc⟩ := HC0.out (by omega)
      subst hx
      have c0 := hc k hlt
      have hst : zs.getD k 0 ≠ d → ∀ i, i < k + 1 → zs.getD i 0 ≠ d := fun h i hi => by
        by_cases he : i = k
        · subst he; exact h
        · exact HO.out i (by omega)
      have hft := HF.out k hlt
      generalize zs.getD k 0 = y at *
      have HS := hide hst
      have HT := hide hft
      clear hst hft hc HC0 HO HF
      by_cases hq : y = d
      · have hq' : (y == d) = true := by simp [hq]
        have HN := hide (HT.out hq)
        clear hq HS HT
        go_wp2_with fail
        go_ret
        exact ⟨ret_bool HN.out.symm, rfl⟩
      · have hq' : (y == d) = false := by simp [hq]
        have HN := hide (HS.out hq)
        clear hq HS HT
        go_wp2_with fail
        go_round
        case rel => exact ⟨k + 1, by omega, by go_num, HN⟩
        case measure => simp [intOf]; omega
    · have HN := hide (fnd_not (i := i) (fun k hk => HO.out k (by omega)))
      clear HO HC0 HF
      go_wp2_with fail
      go_ret
      exact ⟨ret_bool HN.out.symm, rfl⟩

/-! ### zzModelAdd -/
/-- What the model hands back. -/
abbrev modRes (R : Option Int) : Value := .tuple #[.int .i64 (R.getD 0), .bool R.isSome]
theorem ret_mod {R S : Option Int} (h : R = S) : Ending.returned (modRes R) = .returned (modRes S) := by rw [h]

set_option maxHeartbeats 2000000 in
theorem model_out (v : Value) (zs : List Int) (f t d n : Int) (i : Nat) (w : World) (hv : Ints w v zs) (hc : holds d (f, t) = false) :
    Calls Try.prog 15 #[v, .int .i64 f, .int .i64 t, .int .i64 d, .int .i64 n] w fun e w' => e = .returned (modRes (addV zs f t d n i)) ∧ w' = w := by
  have HN := hide (add_out (zs := zs) (n := n) (i := i) hc)
  obtain ⟨a, cap, rfl, _, _⟩ := hv
  by_cases h1 : d < f
  · have d1 : decide (d < f) = true := decide_eq_true h1
    clear hc
    go_enter Try.func15, Try.ntmps15
    go_wp2_with fail
    go_ret2
    exact ⟨by rw [HN.out]; rfl, rfl⟩
  · have h2 : t < d := by
      rcases Int.lt_or_le t d with h | h
      · exact h
      · rw [holds_yes (by simp; omega) (by simp; omega)] at hc; cases hc
    have d1 : decide (d < f) = false := decide_eq_false h1
    have d2 : decide (t < d) = true := decide_eq_true h2
    clear hc
    go_enter Try.func15, Try.ntmps15
    go_wp2_with fail
    go_ret2
    exact ⟨by rw [HN.out]; rfl, rfl⟩

theorem holds_in {d f t : Int} (h : holds d (f, t) = true) : ¬ d < f ∧ ¬ t < d := by
  constructor
  · intro h1
    rw [holds_no (.inl h1)] at h
    cases h
  · intro h1
    rw [holds_no (.inr h1)] at h
    cases h

set_option maxHeartbeats 2000000 in
theorem model_zero (v : Value) (zs : List Int) (f t d : Int) (i : Nat) (w : World) (hv : Ints w v zs) (hl : zs.length ≤ 1073741824) (ha : Asc zs) (hL : LeastD zs d i) (hc : holds d (f, t) = true) :
    Calls Try.prog 15 #[v, .int .i64 f, .int .i64 t, .int .i64 d, .int .i64 0] w fun e w' => e = .returned (modRes (addV zs f t d 0 i)) ∧ w' = w := by
  have HH := hide (has_any v zs d i w hv hl ha hL)
  have d1 : decide (d < f) = false := decide_eq_false (holds_in hc).1
  have d2 : decide (t < d) = false := decide_eq_false (holds_in hc).2
  have HC := hide hc
  clear hc ha hL
  obtain ⟨a, cap, rfl, _, _⟩ := hv
  go_enter Try.func15, Try.ntmps15
  go_wp2_with fail
  refine HH.out.mono ?_
  rintro e w1 ⟨rfl, rfl⟩
  cases hF : fnd zs d i with
  | true =>
    have HN := hide (mod_zero HC.out hF)
    clear hF HC HH
    go_wp2_with fail
    go_ret2
    exact ⟨by rw [HN.out]; rfl, rfl⟩
  | false =>
    have HN := hide (add_zero (f := f) (t := t) hF)
    clear hF HC HH
    go_wp2_with fail
    go_ret2
    exact ⟨by rw [HN.out]; rfl, rfl⟩

set_option maxHeartbeats 2000000 in
theorem model_up (v : Value) (zs : List Int) (f t d n : Int) (i : Nat) (w : World) (hv : Ints w v zs) (hl : zs.length ≤ 1073741824) (ha : Asc zs) (hL : LeastD zs d i) (hc : holds d (f, t) = true) (hp : 0 < n) :
    Calls Try.prog 15 #[v, .int .i64 f, .int .i64 t, .int .i64 d, .int .i64 n] w fun e w' => e = .returned (modRes (addV zs f t d n i)) ∧ w' = w := by
  have d1 : decide (d < f) = false := decide_eq_false (holds_in hc).1
  have d2 : decide (t < d) = false := decide_eq_false (holds_in hc).2
  have HLO := hide (fun j hj => @up_lo zs d i hL j hj)
  have HHI := hide (fun j hj h => @up_hi zs d i hL ha j hj h)
  have HU := hide (fun k h h' => @mod_up zs f t d n i k hc hp h h')
  have HUN := hide (fun h => @mod_up_none zs f t d n i hc hp h)
  obtain ⟨U, hU⟩ : ∃ U, upN zs d i = U := ⟨_, rfl⟩
  rw [hU] at HLO HHI HU HUN
  obtain ⟨R, hR⟩ : ∃ R, addV zs f t d n i = R := ⟨_, rfl⟩
  rw [hR] at HU HUN ⊢
  obtain ⟨a, cap, rfl, _, hc0⟩ := hv
  have HC0 := hide hc0
  have hnz : (n == 0) = false := by simp; omega
  have hpd : decide (0 < n) = true := decide_eq_true hp
  clear hc0 ha hL hc hU hR
  go_enter Try.func15, Try.ntmps15
  go_wp2_with fail
  go_loop [12, 13] (fun kv iv => ∃ k m : Nat, k ≤ zs.length ∧ m = k - U ∧ iv = .int .i64 k ∧ kv = .int .i64 m ∧ Hid ((m : Int) < n)) (fun _ iv => zs.length - (intOf iv).toNat)
  case atStart => exact ⟨0, 0, Nat.zero_le _, by omega, rfl, rfl, hp⟩
  case round =>
    obtain ⟨k, m, hk, hm, rfl, rfl, HN⟩ := hrel
    by_cases hlt : k < zs.length
    · obtain ⟨b, off, hx, hcc⟩ := HC0.out (by omega)
      subst hx
      have c0 := hcc k hlt
      have hlo := fun h => HLO.out k h
      have hhi := fun h => HHI.out k h hlt
      have hu := fun h => HU.out k hlt h
      generalize zs.getD k 0 = y at *
      have HLO' := hide hlo
      have HHI' := hide hhi
      have HU' := hide hu
      have hmk : m ≤ k := by omega
      have g0 : (0 : Int) ≤ (k : Int) := by omega
      have g1 : (k : Int) < (zs.length : Int) := by omega
      clear hlo hhi hu hcc HC0 HLO HHI HU
      by_cases hy : d < y
      · have hUk : U ≤ k := by
          rcases Nat.lt_or_ge k U with h | h
          · have := HLO'.out h; omega
          · exact h
        have hyd : decide (d < y) = true := decide_eq_true hy
        by_cases hq : (m : Int) + 1 = n
        · have hq' : ((m : Int) + 1 == n) = true := by simp [hq]
          have hE := HU'.out (by omega)
          have HE := hide hE
          clear hE HU' HLO' HHI' HUN hq
          go_wp2_with fail
          go_ret2
          exact ⟨by rw [HE.out]; rfl, rfl⟩
        · have hq' : ((m : Int) + 1 == n) = false := by simp [hq]
          have HN' : Hid (((m + 1 : Nat) : Int) < n) := by have := HN.out; unfold Hid; omega
          clear HU' HLO' HHI' HUN hq HN
          go_wp2_with fail
          go_round
          case rel => exact ⟨k + 1, m + 1, by omega, by omega, by go_num, by go_num, HN'⟩
          case measure => simp [intOf]; omega
      · have hUk : k < U := by
          rcases Nat.lt_or_ge k U with h | h
          · exact h
          · exact absurd (HHI'.out h) hy
        have hyd : decide (d < y) = false := decide_eq_false hy
        clear HU' HLO' HHI' HUN
        go_wp2_with fail
        go_round
        case rel => exact ⟨k + 1, m, by omega, by omega, by go_num, rfl, HN⟩
        case measure => simp [intOf]; omega
    · have hE := HUN.out (by have := HN.out; omega)
      have HE := hide hE
      clear hE HUN HU HLO HHI HC0
      go_wp2_with fail
      go_ret2
      exact ⟨by rw [HE.out]; rfl, rfl⟩

set_option maxHeartbeats 2000000 in
theorem model_down (v : Value) (zs : List Int) (f t d n : Int) (i : Nat) (w : World) (hv : Ints w v zs) (hl : zs.length ≤ 1073741824) (hL : LeastD zs d i) (hc : holds d (f, t) = true) (hp : n < 0) :
    Calls Try.prog 15 #[v, .int .i64 f, .int .i64 t, .int .i64 d, .int .i64 n] w fun e w' => e = .returned (modRes (addV zs f t d n i)) ∧ w' = w := by
  have d1 : decide (d < f) = false := decide_eq_false (holds_in hc).1
  have d2 : decide (t < d) = false := decide_eq_false (holds_in hc).2
  have hil := hL.le
  have HLO := hide (fun j hj => hL.lo j hj)
  have HHI := hide (fun j hj h => hL.hi j hj h)
  have HU := hide (fun k h h' => @mod_down zs f t d n i k hc hp h h')
  have HUN := hide (fun h => @mod_down_none zs f t d n i hc hp h)
  obtain ⟨R, hR⟩ : ∃ R, addV zs f t d n i = R := ⟨_, rfl⟩
  rw [hR] at HU HUN ⊢
  obtain ⟨a, cap, rfl, _, hc0⟩ := hv
  have HC0 := hide hc0
  have hnz : (n == 0) = false := by simp; omega
  have hpd : decide (0 < n) = false := decide_eq_false (by omega)
  clear hc0 hL hc hR
  go_enter Try.func15, Try.ntmps15
  go_wp2_with fail
  go_loop [12, 14] (fun kv iv => ∃ p m : Nat, p ≤ zs.length ∧ m = i - p ∧ iv = .int .i64 ((p : Int) - 1) ∧ kv = .int .i64 (-(m : Int)) ∧ Hid (n < -(m : Int))) (fun _ iv => (intOf iv + 1).toNat)
  case atStart => exact ⟨zs.length, 0, Nat.le_refl _, by omega, by go_num, by go_num, by unfold Hid; omega⟩
  case round =>
    obtain ⟨p, m, hk, hm, rfl, rfl, HN⟩ := hrel
    cases p with
    | succ k =>
      have hlt : k < zs.length := by omega
      have ek : ((k + 1 : Nat) : Int) - 1 = (k : Int) := by omega
      rw [ek]
      obtain ⟨b, off, hx, hcc⟩ := HC0.out (by omega)
      subst hx
      have c0 := hcc k hlt
      have hlo := fun h => HLO.out k h
      have hhi := fun h => HHI.out k h hlt
      have hu := fun h => HU.out k hlt h
      generalize zs.getD k 0 = y at *
      have HLO' := hide hlo
      have HHI' := hide hhi
      have HU' := hide hu
      have hmk : m ≤ zs.length := by omega
      have g0 : (0 : Int) ≤ (k : Int) := by omega
      have g1 : (k : Int) < (zs.length : Int) := by omega
      clear hlo hhi hu hcc HC0 HLO HHI HU ek
      by_cases hy : y < d
      · have hUk : k < i := by
          rcases Nat.lt_or_ge k i with h | h
          · exact h
          · have := HHI'.out h; omega
        have hyd : decide (y < d) = true := decide_eq_true hy
        by_cases hq : -(m : Int) - 1 = n
        · have hq' : (-(m : Int) - 1 == n) = true := by simp [hq]
          have hE := HU'.out (by omega)
          have HE := hide hE
          clear hE HU' HLO' HHI' HUN hq
          go_wp2_with fail
          go_ret2
          exact ⟨by rw [HE.out]; rfl, rfl⟩
        · have hq' : (-(m : Int) - 1 == n) = false := by simp [hq]
          have HN' : Hid (n < -((m + 1 : Nat) : Int)) := by have := HN.out; unfold Hid; omega
          clear HU' HLO' HHI' HUN hq HN
          go_wp2_with fail
          go_round
          case rel => exact ⟨k, m + 1, by omega, by omega, by go_num, by go_num, HN'⟩
          case measure => simp [intOf]
      · have hUk : i ≤ k := by
          rcases Nat.lt_or_ge k i with h | h
          · exact absurd (HLO'.out h) hy
          · exact h
        have hyd : decide (y < d) = false := decide_eq_false hy
        clear HU' HLO' HHI' HUN
        go_wp2_with fail
        go_round
        case rel => exact ⟨k, m, by omega, by omega, by go_num, rfl, HN⟩
        case measure => simp [intOf]
    | zero =>
      have hE := HUN.out (by have := HN.out; omega)
      have HE := hide hE
      clear hE HUN HU HLO HHI HC0
      go_wp2_with fail
      go_ret2
      exact ⟨by rw [HE.out]; rfl, rfl⟩

theorem model_any (v : Value) (zs : List Int) (f t d n : Int) (i : Nat) (w : World) (hv : Ints w v zs) (hl : zs.length ≤ 1073741824) (ha : Asc zs) (hL : LeastD zs d i) :
    Calls Try.prog 15 #[v, .int .i64 f, .int .i64 t, .int .i64 d, .int .i64 n] w fun e w' => e = .returned (modRes (addV zs f t d n i)) ∧ w' = w := by
  cases hc : holds d (f, t) with
  | false => exact model_out v zs f t d n i w hv hc
  | true =>
    by_cases hz : n = 0
    · subst hz
      exact model_zero v zs f t d i w hv hl ha hL hc
    · by_cases hp : 0 < n
      · exact model_up v zs f t d n i w hv hl ha hL hc hp
      · exact model_down v zs f t d n i w hv hl hL hc (by omega)

end Go.Proofs.Qxb6601894a
