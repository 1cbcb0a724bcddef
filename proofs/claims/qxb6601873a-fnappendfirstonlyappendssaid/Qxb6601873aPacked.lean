/-
  Seat b6601873a: packedOK, and the bound on total length of the law FnAppendFirstOnlyAppends (function 25).
-/
import Derived.Test.Qxb6601873aSame
namespace Go.Proofs.Qxb6601873a
open Go.RowKit

/-- The crashes of ending j of ks, where they can be read within its length. -/
def packed (ks : List Int) (j : Int) : Option (List Cr) :=
  if 0 < ks.length ∧ 0 ≤ wrap64 (wrap64 (2 + ks.getD 0 0) + wrap64 (4 * j)) ∧ wrap64 (wrap64 (2 + ks.getD 0 0) + wrap64 (4 * j)) + 4 ≤ ks.length then
    decAll ks (ks.getD (wrap64 (wrap64 (2 + ks.getD 0 0) + wrap64 (4 * j))).toNat 0).toNat (ks.getD ((wrap64 (wrap64 (2 + ks.getD 0 0) + wrap64 (4 * j))).toNat + 3) 0)
  else none

theorem packed_some {ks : List Int} {j : Int} {cs : List Cr} (h : packed ks j = some cs) :
    ∃ A : Nat, wrap64 (wrap64 (2 + ks.getD 0 0) + wrap64 (4 * j)) = (A : Int) ∧ A + 4 ≤ ks.length ∧ decAll ks (ks.getD A 0).toNat (ks.getD (A + 3) 0) = some cs := by
  unfold packed at h
  split at h
  · rename_i hc
    obtain ⟨_, h1, h2⟩ := hc
    refine ⟨(wrap64 (wrap64 (2 + ks.getD 0 0) + wrap64 (4 * j))).toNat, by rw [Int.toNat_of_nonneg h1], ?_, h⟩
    generalize wrap64 (wrap64 (2 + ks.getD 0 0) + wrap64 (4 * j)) = a at *
    omega
  · cases h
theorem packed_at {ks : List Int} {j : Int} {A : Nat} (hA : wrap64 (wrap64 (2 + ks.getD 0 0) + wrap64 (4 * j)) = (A : Int)) (h : A + 4 ≤ ks.length) : packed ks j = decAll ks (ks.getD A 0).toNat (ks.getD (A + 3) 0) := by
  unfold packed
  rw [hA, if_pos ⟨by omega, by omega, by omega⟩, Int.toNat_natCast]
theorem packed_out {ks : List Int} {j a : Int} (hA : wrap64 (wrap64 (2 + ks.getD 0 0) + wrap64 (4 * j)) = a) (h : a < 0 ∨ (ks.length : Int) - 4 < a) : packed ks j = none := by
  unfold packed
  rw [hA, if_neg]
  omega
theorem packed_nil (j : Int) : packed [] j = none := by unfold packed; rw [if_neg (by simp)]

theorem decAll_neg {ks : List Int} {n : Nat} {P : Int} (h : P < 0) : decAll ks (n + 1) P = none := by unfold decAll; rw [if_neg (by omega)]
theorem decAll_nat {ks : List Int} {n p : Nat} : decAll ks (n + 1) (p : Int) = match decOne ks p with | none => none | some (c, q) => (decAll ks n q).map (c :: ·) := by
  conv => lhs; unfold decAll
  rw [if_pos (by omega), Int.toNat_natCast]
  cases decOne ks p <;> rfl
theorem dec_past {ks : List Int} {n p : Nat} (h : ks.length < p + 4) : (decAll ks (n + 1) (p : Int)).isSome = false := by
  rw [decAll_nat]; unfold decOne; rw [if_neg (by omega)]; rfl
theorem dec_low {ks : List Int} {n p : Nat} (h : p + 4 ≤ ks.length) (hl : ks.getD (p + 3) 0 ≤ 0) : (decAll ks (n + 1) (p : Int)).isSome = (decAll ks n ((p + 4 : Nat) : Int)).isSome := by
  rw [decAll_nat]; unfold decOne; rw [if_pos h, if_pos hl]; simp
theorem dec_long {ks : List Int} {n p m : Nat} (h : p + 4 ≤ ks.length) (hl : ks.getD (p + 3) 0 = (m : Int)) (hm : 0 < m) (hf : p + 4 + m ≤ ks.length) : (decAll ks (n + 1) (p : Int)).isSome = (decAll ks n ((p + 4 + m : Nat) : Int)).isSome := by
  rw [decAll_nat]; unfold decOne; rw [if_pos h, hl, if_neg (by omega), Int.toNat_natCast, if_pos hf]; simp
theorem dec_over {ks : List Int} {n p m : Nat} (h : p + 4 ≤ ks.length) (hl : ks.getD (p + 3) 0 = (m : Int)) (hm : 0 < m) (hf : ks.length < p + 4 + m) : (decAll ks (n + 1) (p : Int)).isSome = false := by
  rw [decAll_nat]; unfold decOne; rw [if_pos h, hl, if_neg (by omega), Int.toNat_natCast, if_neg (by omega)]; rfl

set_option maxHeartbeats 1000000 in
theorem packed_any (vk : Value) (ks : List Int) (j : Int) (w : World) (hk : Ints w vk ks) (hl : ks.length ≤ 1073741824) :
    Calls Try.prog 26 #[vk, .int .i64 j] w fun e w' => e = .returned (.bool (packed ks j).isSome) ∧ w' = w := by
  obtain ⟨a, cap, rfl, _, hc0⟩ := hk
  by_cases h0 : 0 < ks.length
  · obtain ⟨b, off, rfl, hc⟩ := hc0 h0
    have c0 : w.cell? ⟨b, off, none⟩ = some (.int .i64 (ks.getD 0 0)) := hc 0 h0
    have g0 : (0 : Int) < (ks.length : Int) := by omega
    have hz : ((ks.length : Int) == 0) = false := beq_eq_false_iff_ne.2 (by omega)
    have hpo := fun a hA h => packed_out (ks := ks) (j := j) (a := a) hA h
    have hpa := fun A hA h => packed_at (ks := ks) (j := j) (A := A) hA h
    have HK := hide hc
    clear hc hc0
    generalize ks.getD 0 0 = x0 at *
    obtain ⟨a, hA⟩ : ∃ a, wrap64 (wrap64 (2 + x0) + wrap64 (4 * j)) = a := ⟨_, rfl⟩
    have HPO := hide (hpo a hA)
    clear hpo
    by_cases h1 : a < 0
    · have HN := hide (HPO.out (.inl h1))
      clear HPO hpa
      go_enter Try.func26, Try.ntmps26
      go_wp2
      go_ret
      exact ⟨ret_bool (by rw [HN.out]; rfl), rfl⟩
    by_cases h2 : (ks.length : Int) - 4 < a
    · have HN := hide (HPO.out (.inr h2))
      clear HPO hpa
      go_enter Try.func26, Try.ntmps26
      go_wp2
      go_ret
      exact ⟨ret_bool (by rw [HN.out]; rfl), rfl⟩
    obtain ⟨A, rfl⟩ := Int.eq_ofNat_of_zero_le (show 0 ≤ a by omega)
    have hA4 : A + 4 ≤ ks.length := by omega
    have HP := hide (hpa A hA hA4)
    have c1 := HK.out A (by omega)
    have c2 := HK.out (A + 3) (by omega)
    generalize ks.getD A 0 = N at *
    generalize ks.getD (A + 3) 0 = P0 at *
    clear HPO hpa
    go_enter Try.func26, Try.ntmps26
    go_wp2
    clear hA
    go_loop [7, 8, 9] (fun p i _ => ∃ (k : Nat) (P : Int), p = .int .i64 P ∧ i = .int .i64 k ∧ (k = 0 ∨ (4 * (k : Int) ≤ P ∧ P ≤ ks.length)) ∧ (k : Int) ≤ max N 0 ∧ Hid ((decAll ks (N.toNat - k) P).isSome = (packed ks j).isSome)) (fun _ i _ => N.toNat - (intOf i).toNat)
    case atStart => exact ⟨0, P0, rfl, rfl, .inl rfl, by omega, by unfold Hid; rw [HP.out]; rfl⟩
    case round =>
      obtain ⟨k, P, rfl, rfl, hkP, hkN, HR⟩ := hrel
      by_cases hlt : (k : Int) < N
      · have hstep : N.toNat - k = (N.toNat - (k + 1)) + 1 := by omega
        have HR' : Hid ((decAll ks ((N.toNat - (k + 1)) + 1) P).isSome = (packed ks j).isSome) := by unfold Hid; rw [← hstep]; exact HR.out
        clear HR
        by_cases hP0 : P < 0
        · have HN : Hid ((packed ks j).isSome = false) := by unfold Hid; rw [← HR'.out, decAll_neg hP0]; rfl
          clear HR'
          go_wp2
          go_ret
          exact ⟨ret_bool HN.out.symm, rfl⟩
        obtain ⟨p, rfl⟩ := Int.eq_ofNat_of_zero_le (show 0 ≤ P by omega)
        by_cases hP1 : (ks.length : Int) - 4 < (p : Int)
        · have HN : Hid ((packed ks j).isSome = false) := by unfold Hid; rw [← HR'.out]; exact dec_past (by omega)
          clear HR'
          go_wp2
          go_ret
          exact ⟨ret_bool HN.out.symm, rfl⟩
        have hp4 : p + 4 ≤ ks.length := by omega
        have hk4 : 4 * k ≤ p ∨ k = 0 := by omega
        have c3 := HK.out (p + 3) (by omega)
        have hlow := dec_low (n := N.toNat - (k + 1)) hp4
        have hlong := fun m h1 h2 h3 => dec_long (n := N.toNat - (k + 1)) (m := m) hp4 h1 h2 h3
        have hover := fun m h1 h2 h3 => dec_over (n := N.toNat - (k + 1)) (m := m) hp4 h1 h2 h3
        generalize ks.getD (p + 3) 0 = l at *
        have HLW := hide hlow
        have HLG := hide hlong
        have HOV := hide hover
        have i3 : (p : Int) + 3 < (ks.length : Int) := by omega
        clear hlow hlong hover
        by_cases hl0 : 0 < l
        · obtain ⟨m, rfl⟩ := Int.eq_ofNat_of_zero_le (show 0 ≤ l by omega)
          by_cases hl1 : (ks.length : Int) - ((p : Int) + 4) < (m : Int)
          · have HN : Hid ((packed ks j).isSome = false) := by unfold Hid; rw [← HR'.out]; exact HOV.out m rfl (by omega) (by omega)
            clear HR' HLW HLG HOV
            go_wp2
            go_ret
            exact ⟨ret_bool HN.out.symm, rfl⟩
          · have HN : Hid ((decAll ks (N.toNat - (k + 1)) ((p + 4 + m : Nat) : Int)).isSome = (packed ks j).isSome) := by unfold Hid; rw [← HR'.out]; exact (HLG.out m rfl (by omega) (by omega)).symm
            clear HR' HLW HLG HOV
            go_wp2
            go_round
            case rel => exact ⟨k + 1, ((p + 4 + m : Nat) : Int), by go_num, by go_num, by omega, by omega, HN⟩
            case measure => simp [intOf]; omega
        · have HN : Hid ((decAll ks (N.toNat - (k + 1)) ((p + 4 : Nat) : Int)).isSome = (packed ks j).isSome) := by unfold Hid; rw [← HR'.out]; exact (HLW.out (by omega)).symm
          clear HR' HLW HLG HOV
          go_wp2
          go_round
          case rel => exact ⟨k + 1, ((p + 4 : Nat) : Int), by go_num, by go_num, by omega, by omega, HN⟩
          case measure => simp [intOf]; omega
      · have HN : Hid ((packed ks j).isSome = true) := by
          unfold Hid; rw [← HR.out, show N.toNat - k = 0 by omega]; rfl
        clear HR
        go_wp2
        go_ret
        exact ⟨ret_bool HN.out.symm, rfl⟩
  · have hz : ks = [] := by cases ks with | nil => rfl | cons _ _ => simp at h0
    subst hz
    have HN := hide (packed_nil j)
    clear hc0 h0
    go_enter Try.func26, Try.ntmps26
    go_wp2
    go_ret
    exact ⟨ret_bool (by rw [HN.out]; rfl), rfl⟩

end Go.Proofs.Qxb6601873a
