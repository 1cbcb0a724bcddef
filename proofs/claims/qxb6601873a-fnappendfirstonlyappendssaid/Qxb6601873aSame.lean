/-
  Seat b6601873a: sameInts, sameAsZ, sameCrash (at equal contents they say true); ZZappendFirst.
-/
import Derived.Test.Qxb6601873aFirst
namespace Go.Proofs.Qxb6601873a
open Go.RowKit

theorem RV.drewN {w : World} {v : Value} {rs : Option (List Int)} (h : RV w v rs) (n : Nat) : RV (w.drewN n) v rs := ⟨Ints.cells h.1 (fun _ => rfl), h.2⟩

set_option maxHeartbeats 400000 in
theorem sameInts_eq (va vb : Value) (rs : Option (List Int)) (w : World) (ha : RV w va rs) (hb : RV w vb rs) (hl : (rs.getD []).length ≤ 1099511627776) :
    Calls Try.prog 36 #[va, vb] w fun e w' => ∃ n, w' = w.drewN n ∧ e = .returned (.bool true) := by
  have q22 : ∀ (w : World) (a : Option Addr) (n c n' c' : Nat), (binOp .eql 22 (.slice a n c) (.slice none n' c')).run Try.prog w = .ok (.bool a.isNone) w := fun w a n c n' c' => Lib.run_eql_slice_nil w _ _ a n c n' c' Try.underlying22
  cases rs with
  | none =>
    obtain rfl := RV.of_none ha
    obtain rfl := RV.of_none hb
    go_enter Try.func36, Try.ntmps36
    go_wp2
    go_loop [5] (fun i => i = .int .i64 0) (fun _ => 0)
    case atStart => exact rfl
    case round =>
      obtain rfl := hrel
      go_wp2
      go_ret
      exact ⟨⟨0, rfl⟩, rfl⟩
  | some l =>
    obtain ⟨xa, ca, rfl, hca⟩ := RV.of_some ha
    obtain ⟨xb, cb, rfl, hcb⟩ := RV.of_some hb
    change l.length ≤ _ at hl
    have HA := hide hca
    have HB := hide hcb
    clear hca hcb ha hb
    go_enter Try.func36, Try.ntmps36
    go_wp2
    go_loopw [5] (fun i wr => ∃ k : Nat, k ≤ l.length ∧ i = .int .i64 k ∧ (∃ n, wr = w.drewN n)) (fun i _ => l.length - (intOf i).toNat)
    case atStart => exact ⟨0, Nat.zero_le _, rfl, 0, rfl⟩
    case round =>
      obtain ⟨k, hk, rfl, n, rfl⟩ := hrel
      by_cases hlt : k < l.length
      · obtain ⟨b1, o1, hx1, hc1⟩ := HA.out (by omega)
        obtain ⟨b2, o2, hx2, hc2⟩ := HB.out (by omega)
        subst hx1
        subst hx2
        have h1 := hc1 k hlt
        have h2 := hc2 k hlt
        have g0 : (0 : Int) ≤ (k : Int) := by omega
        have g1 : (k : Int) < (l.length : Int) := by omega
        generalize l.getD k 0 = x at h1 h2
        have hxx : (x != x) = false := by simp
        clear hc1 hc2 HA HB
        go_wp2_with fail
        go_quiet (fail)
        go_wp2_with fail
        go_roundw
        case rel => exact ⟨k + 1, by omega, by go_num, _, rfl⟩
        case measure => simp [intOf]; omega
      · go_wp2_with fail
        go_ret
        exact ⟨n, rfl, rfl⟩

/-- The value of a crash. -/
def crVal (c : Cr) (rv : Value) : Value := .agg #[.int .i64 c.proc, .int .i64 c.rnd, rv, .int .i64 c.sent]

set_option maxHeartbeats 400000 in
theorem sameAsZ_eq (p r s : Int) (va vb : Value) (rs : Option (List Int)) (w : World) (ha : RV w va rs) (hb : RV w vb rs) (hl : (rs.getD []).length ≤ 1099511627776) :
    Calls Try.prog 28 #[.agg #[.int .i64 p, .int .i64 r, va, .int .i64 s], .agg #[.int .i64 p, .int .i64 r, vb, .int .i64 s]] w fun e w' => e = .returned (.bool true) ∧ Below w.heap.size w w' := by
  have hp : (p == p) = true := by simp
  have hr : (r == r) = true := by simp
  have hs : (s == s) = true := by simp
  obtain ⟨aa, ca, rfl⟩ := ha.form
  obtain ⟨ab, cb, rfl⟩ := hb.form
  have two : ∀ o o' : Obj, Below w.heap.size w ((w.alloc o).alloc o') := fun o o' => ((Below.refl _ _).alloc (Nat.le_refl _) o).alloc (by simp) o'
  have TW := hide two
  have HA := hide ha
  have HB := hide hb
  clear two ha hb
  go_enter Try.func28, Try.ntmps28
  go_wp2_with fail
  refine (sameInts_eq _ _ rs _ (HA.out.below (TW.out _ _)) (HB.out.below (TW.out _ _)) hl).mono ?_
  rintro e w1 ⟨n, rfl, rfl⟩
  go_wp2_with fail
  go_ret
  exact ⟨rfl, below_drewN (TW.out _ _) n⟩

set_option maxHeartbeats 400000 in
theorem sameCrash_eq (p r s : Int) (va vb : Value) (rs : Option (List Int)) (w : World) (ha : RV w va rs) (hb : RV w vb rs) (hl : (rs.getD []).length ≤ 1099511627776) :
    Calls Try.prog 29 #[.agg #[.int .i64 p, .int .i64 r, va, .int .i64 s], .agg #[.int .i64 p, .int .i64 r, vb, .int .i64 s]] w fun e w' => e = .returned (.bool true) ∧ Below w.heap.size w w' := by
  have hp : (p == p) = true := by simp
  have hr : (r == r) = true := by simp
  have hs : (s == s) = true := by simp
  obtain ⟨aa, ca, rfl⟩ := ha.form
  obtain ⟨ab, cb, rfl⟩ := hb.form
  have two : ∀ o o' : Obj, Below w.heap.size w ((w.alloc o).alloc o') := fun o o' => ((Below.refl _ _).alloc (Nat.le_refl _) o).alloc (by simp) o'
  have TW := hide two
  have HA := hide ha
  have HB := hide hb
  clear two ha hb
  go_enter Try.func29, Try.ntmps29
  go_wp2_with fail
  refine (sameInts_eq _ _ rs _ (HA.out.below (TW.out _ _)) (HB.out.below (TW.out _ _)) hl).mono ?_
  rintro e w1 ⟨n, rfl, rfl⟩
  go_wp2_with fail
  go_ret
  exact ⟨rfl, below_drewN (TW.out _ _) n⟩

/-! ### ZZappendFirst -/
theorem zzFirst_any (vk vf vq : Value) (ks : List Int) (fs cs : List Cr) (qs : List Int) (j : Int) (A base : Nat) (w0 w : World) (hk : w0.ownsRow base 3 1 vk ks.length (ks.map (Value.int .i64))) (hst : St w0 w vf fs vq qs) (hl : ks.length ≤ 1073741824)
    (hA : wrap64 (wrap64 (2 + ks.getD 0 0) + wrap64 (4 * j)) = (A : Int)) (hA4 : A + 4 ≤ ks.length) (hlf : fs.length ≤ 1073741824) (hlq : qs.length ≤ 1073741824)
    (hdec : decAll ks (ks.getD A 0).toNat (ks.getD (A + 3) 0) = some cs) :
    Calls Try.prog 27 #[vk, vf, vq, .int .i64 j] w fun e w' => ∃ vf' vq', e = .returned (.tuple #[vf', vq']) ∧ St w0 w' vf' (fs ++ cs) vq' (qs ++ csFlat cs) := by
  have HC := hide (first_any vk vf vq ks fs cs qs j A base w0 w hk hst hl hA hA4 hlf hlq hdec)
  clear hk hst hA hdec
  go_enter Try.func27, Try.ntmps27
  go_wp2_with fail
  refine HC.out.mono ?_
  rintro e w1 ⟨vf', vq', rfl, hst'⟩
  go_wp2_with fail
  go_ret2
  exact ⟨_, _, rfl, hst'⟩

end Go.Proofs.Qxb6601873a
