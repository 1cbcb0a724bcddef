/-
  Seat b6601873a: the law FnReachOrderMatchesArrivalSets, walked.
-/
import Derived.Test.Qxb6601873aClone
namespace Go.Proofs.Qxb6601873a
open Go.RowKit

theorem bytes_reach (a b : Option Addr) (la ca lb cb : Nat) (p : Int) (w : World) (ha : la ≤ maxLen) (hb : lb ≤ maxLen) :
    Calls Try.prog 11 #[.slice a la ca, .slice b lb cb, .int .i64 p] w fun e w' => ∃ r : Bool, e = .returned (.bool r) ∧ w' = w := by
  unfold maxLen at ha hb
  go_enter Try.func11, Try.ntmps11
  go_wp2
  all_goals
    go_ret
    exact ⟨_, rfl, rfl⟩

theorem zz_order (va vb : Value) (xs ys : List Int) (p : Int) (w : World) (ha : Ints w va xs) (hb : Ints w vb ys) (hla : xs.length ≤ 4611686018427387000) (hlb : ys.length ≤ 4611686018427387000) :
    Calls Try.prog 13 #[va, vb, .int .i64 p] w fun e w' => e = .returned (.int .i64 (rOrd p xs ys)) ∧ w' = w := by
  go_enter Try.func13, Try.ntmps13
  go_wp2_with fail
  refine (order_any va vb xs ys p _ ha hb hla hlb).mono ?_
  rintro e w' ⟨rfl, rfl⟩
  go_wp2_with fail
  go_ret
  exact ⟨rfl, rfl⟩

theorem law_eq (p : Int) (xs ys : List Int) : rOrd p xs ys = Pl.mr (arrs p xs) (arrs p ys) := Pl.ro_mr _ _ _ _

set_option maxHeartbeats 400000 in
theorem reach_law (a b : Option Addr) (ca cb : Nat) (xs ys : List Int) (p : Int) (w : World) (ha : Ints w (.slice a xs.length ca) xs) (hb : Ints w (.slice b ys.length cb) ys) (hla : xs.length ≤ maxLen) (hlb : ys.length ≤ maxLen) :
    Calls Try.prog 3 #[.slice a xs.length ca, .slice b ys.length cb, .int .i64 p] w fun e w' => e = .returned (.bool true) ∧ Below w.heap.size w w' := by
  go_enter Try.func3, Try.ntmps3
  go_wp2_with fail
  refine (bytes_reach a b xs.length ca ys.length cb p _ hla hlb).mono ?_
  rintro e w' ⟨r, rfl, rfl⟩
  unfold maxLen at hla hlb
  cases r with
  | false =>
    go_wp2_with fail
    go_ret
    exact ⟨rfl, Below.refl _ _⟩
  | true =>
    by_cases h1 : 65536 < xs.length
    · go_wp2_with fail
      go_ret
      exact ⟨rfl, Below.refl _ _⟩
    by_cases h2 : 65536 < ys.length
    · go_wp2_with fail
      go_ret
      exact ⟨rfl, Below.refl _ _⟩
    go_wp2_with fail
    refine (clone_any _ xs _ ha (by omega)).mono ?_
    rintro e w1 ⟨va, rfl, hoa, _, hb1⟩
    go_wp2_with fail
    refine (clone_any _ ys _ (hb.below hb1) (by omega)).mono ?_
    rintro e w2 ⟨vb, rfl, hob, _, hb2⟩
    have hia := Ints.of_own (own_below hoa hb2)
    have hib := Ints.of_own hob
    have hbw : Below w'.heap.size w' w2 := hb1.trans (hb2.mono hb1.size)
    clear hoa hob hb1 hb2 ha hb
    go_wp2_with fail
    refine (zz_order va vb xs ys p _ hia hib (by omega) (by omega)).mono ?_
    rintro e w3 ⟨rfl, rfl⟩
    go_wp2_with fail
    refine (model_any va vb xs ys p _ hia hib (by omega) (by omega)).mono ?_
    rintro e w4 ⟨rfl, hb4⟩
    have hq : (rOrd p xs ys == Pl.mr (arrs p xs) (arrs p ys)) = true := beq_iff_eq.2 (law_eq p xs ys)
    go_wp2_with fail
    go_ret
    exact ⟨rfl, hbw.trans (hb4.mono hbw.size)⟩

end Go.Proofs.Qxb6601873a
