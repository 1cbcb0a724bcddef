/-
  Seat b6601894a: what Add and the counting model answer, in plain terms.
-/
import Derived.Test.Qxb6601894aCal
namespace Go.Proofs.Qxb6601894a
open Go.RowKit

/-- The day at place X, where there is one. -/
def atX (zs : List Int) (X : Int) : Option Int := if 0 ≤ X ∧ X < zs.length then some (zs.getD X.toNat 0) else none
theorem atX_some {zs : List Int} {j : Nat} (h : j < zs.length) : atX zs j = some (zs.getD j 0) := by
  unfold atX
  rw [if_pos ⟨by omega, by omega⟩, Int.toNat_natCast]
theorem atX_low {zs : List Int} {X : Int} (h : X < 0) : atX zs X = none := by
  unfold atX
  rw [if_neg (by omega)]
theorem atX_high {zs : List Int} {X : Int} (h : (zs.length : Int) ≤ X) : atX zs X = none := by
  unfold atX
  rw [if_neg (by omega)]
/-- Is the day listed (at place i)? -/
def fnd (zs : List Int) (d : Int) (i : Nat) : Bool := decide (i < zs.length) && (zs.getD i 0 - d == 0)
theorem fnd_yes {zs : List Int} {d : Int} {i : Nat} (h : fnd zs d i = true) : i < zs.length ∧ zs.getD i 0 = d := by
  unfold fnd at h
  rw [Bool.and_eq_true, decide_eq_true_eq, beq_iff_eq] at h
  exact ⟨h.1, by omega⟩
theorem fnd_no {zs : List Int} {d : Int} {i : Nat} (h : fnd zs d i = false) (hi : i < zs.length) : zs.getD i 0 ≠ d := by
  intro e
  unfold fnd at h
  rw [decide_eq_true hi, e] at h
  simp at h
/-- The place of the first day later than d. -/
def upN (zs : List Int) (d : Int) (i : Nat) : Nat := if fnd zs d i = true then i + 1 else i

abbrev LeastD (zs : List Int) (d : Int) (i : Nat) : Prop := Least (fun k => zs.getD k 0 - d) zs.length i
theorem LeastD.lo {zs : List Int} {d : Int} {i : Nat} (h : LeastD zs d i) (j : Nat) (hj : j < i) : zs.getD j 0 < d := by
  have := h.low j hj
  omega
theorem LeastD.hi {zs : List Int} {d : Int} {i : Nat} (h : LeastD zs d i) (j : Nat) (hj : i ≤ j) (hl : j < zs.length) : d ≤ zs.getD j 0 := by
  have := h.high j hj hl
  omega
theorem up_lo {zs : List Int} {d : Int} {i : Nat} (h : LeastD zs d i) (j : Nat) (hj : j < upN zs d i) : zs.getD j 0 ≤ d := by
  unfold upN at hj
  by_cases hf : fnd zs d i = true
  · rw [if_pos hf] at hj
    by_cases he : j = i
    · subst he; have := (fnd_yes hf).2; omega
    · have := h.lo j (by omega); omega
  · rw [if_neg hf] at hj
    have := h.lo j (by omega); omega
theorem up_hi {zs : List Int} {d : Int} {i : Nat} (h : LeastD zs d i) (ha : Asc zs) (j : Nat) (hj : upN zs d i ≤ j) (hl : j < zs.length) : d < zs.getD j 0 := by
  unfold upN at hj
  by_cases hf : fnd zs d i = true
  · rw [if_pos hf] at hj
    have h1 := ha.lt i j (by omega) hl
    have h2 := (fnd_yes hf).2
    omega
  · rw [if_neg hf] at hj
    have h1 := h.hi i (Nat.le_refl _) (by omega)
    have h2 := fnd_no (Bool.not_eq_true _ ▸ hf : fnd zs d i = false) (by omega)
    by_cases he : i = j
    · subst he; omega
    · have h3 := ha.lt i j (by omega) hl
      omega
theorem fnd_of {zs : List Int} {d : Int} {i k : Nat} (h : LeastD zs d i) (ha : Asc zs) (hk : k < zs.length) (he : zs.getD k 0 = d) : fnd zs d i = true := by
  have hki : k = i := by
    rcases Nat.lt_or_ge k i with h1 | h1
    · have := h.lo k h1; omega
    · rcases Nat.lt_or_ge i k with h2 | h2
      · have h3 := ha.lt i k h2 hk
        have h4 := h.hi i (Nat.le_refl _) (by omega)
        omega
      · omega
  subst hki
  unfold fnd
  rw [decide_eq_true hk, he]
  simp
theorem fnd_not {zs : List Int} {d : Int} {i : Nat} (h : ∀ k, k < zs.length → zs.getD k 0 ≠ d) : fnd zs d i = false := by
  cases hf : fnd zs d i with
  | false => rfl
  | true => exact absurd (fnd_yes hf).2 (h i (fnd_yes hf).1)

/-- What counting says. -/
def addV (zs : List Int) (f t d n : Int) (i : Nat) : Option Int :=
  if holds d (f, t) = true then
    if n = 0 then (if fnd zs d i = true then some d else none)
    else if 0 < n then atX zs (upN zs d i + n - 1) else atX zs (i + n)
  else none

theorem wrap_same {x : Int} (h0 : -9223372036854775808 ≤ x) (h1 : x < 9223372036854775808) : wrap64 x = x := by unfold wrap64; omega
theorem atX_wrap (zs : List Int) (hl : zs.length ≤ 1073741824) (x : Int) (h0 : -9223372036854775808 ≤ x) (h1 : x < 18446744073709551616) : atX zs (wrap64 x) = atX zs x := by
  by_cases h : x < 9223372036854775808
  · rw [wrap_same h0 h]
  · have hw : wrap64 x = x - 18446744073709551616 := by unfold wrap64; omega
    rw [hw, atX_low (by omega), atX_high (by omega)]

/-- What Add computes, with the machine's sums: one road for a day that is not listed and n > 0, one for the others. -/
theorem add_up {zs : List Int} {f t d n : Int} {i : Nat} (hl : zs.length ≤ 1073741824) (hi : i ≤ zs.length) (hn : n < 9223372036854775808) (hc : holds d (f, t) = true) (h0 : 0 < n) (hf : fnd zs d i = false) :
    atX zs (wrap64 (i + (n - 1))) = addV zs f t d n i := by
  rw [atX_wrap zs hl _ (by omega) (by omega)]
  unfold addV upN
  rw [if_pos hc, if_neg (by omega), if_pos h0, hf, if_neg (by simp)]
  rw [show (i : Int) + (n - 1) = i + n - 1 by omega]
theorem add_rest {zs : List Int} {f t d n : Int} {i : Nat} (hl : zs.length ≤ 1073741824) (hi : i ≤ zs.length) (hn0 : -9223372036854775808 ≤ n) (hn : n < 9223372036854775808) (hc : holds d (f, t) = true) (h0 : n = 0 → fnd zs d i = true) (hf : 0 < n → fnd zs d i = true) :
    atX zs (wrap64 (i + n)) = addV zs f t d n i := by
  rw [atX_wrap zs hl _ (by omega) (by omega)]
  unfold addV upN
  rw [if_pos hc]
  by_cases hz : n = 0
  · have h1 := h0 hz
    rw [if_pos hz, if_pos h1, hz, Int.add_zero, atX_some (fnd_yes h1).1, (fnd_yes h1).2]
  · rw [if_neg hz]
    by_cases hp : 0 < n
    · rw [if_pos hp, if_pos (hf hp)]
      rw [show ((i + 1 : Nat) : Int) + n - 1 = i + n by omega]
    · rw [if_neg hp]
theorem add_out {zs : List Int} {f t d n : Int} {i : Nat} (hc : holds d (f, t) = false) : addV zs f t d n i = none := by unfold addV; rw [hc]; rfl
theorem add_zero {zs : List Int} {f t d : Int} {i : Nat} (hf : fnd zs d i = false) : addV zs f t d 0 i = none := by
  unfold addV
  rw [hf]
  cases holds d (f, t) <;> rfl
/-- The counting model's roads. -/
theorem mod_zero {zs : List Int} {f t d : Int} {i : Nat} (hc : holds d (f, t) = true) (hf : fnd zs d i = true) : addV zs f t d 0 i = some d := by
  unfold addV
  rw [if_pos hc, if_pos rfl, if_pos hf]
theorem mod_up {zs : List Int} {f t d n : Int} {i k : Nat} (hc : holds d (f, t) = true) (h0 : 0 < n) (hk : k < zs.length) (hn : (upN zs d i : Int) + n = k + 1) : addV zs f t d n i = some (zs.getD k 0) := by
  unfold addV
  rw [if_pos hc, if_neg (by omega), if_pos h0, show (upN zs d i : Int) + n - 1 = (k : Int) by omega, atX_some hk]
theorem mod_up_none {zs : List Int} {f t d n : Int} {i : Nat} (hc : holds d (f, t) = true) (h0 : 0 < n) (hn : ((zs.length - upN zs d i : Nat) : Int) < n) : addV zs f t d n i = none := by
  unfold addV
  rw [if_pos hc, if_neg (by omega), if_pos h0, atX_high (by omega)]
theorem mod_down {zs : List Int} {f t d n : Int} {i k : Nat} (hc : holds d (f, t) = true) (h0 : n < 0) (hk : k < zs.length) (hn : (i : Int) + n = k) : addV zs f t d n i = some (zs.getD k 0) := by
  unfold addV
  rw [if_pos hc, if_neg (by omega), if_neg (by omega), hn, atX_some hk]
theorem mod_down_none {zs : List Int} {f t d n : Int} {i : Nat} (hc : holds d (f, t) = true) (h0 : n < 0) (hn : (i : Int) + n < 0) : addV zs f t d n i = none := by
  unfold addV
  rw [if_pos hc, if_neg (by omega), if_neg (by omega), atX_low hn]

end Go.Proofs.Qxb6601894a
