/-
  Seat b6601894a: small laws on worlds; dates: ZZDay, ZZDayNumber, Before, After, Sub.
-/
import Derived.Test.Qxb6601894aChecked
import Derived.WalkKit
import Derived.WalkSpells
import Derived.Deep.QuietTactic
import Derived.BigQuiet
import Derived.Deep.RegionHeld3
import Derived.Deep.DrawnRows
import Derived.Deep.AppendLies
import Derived.Deep.Onto
namespace Go.Proofs.Qxb6601894a
open Go.RowKit

theorem hide {p : Prop} (h : p) : Hid p := h
theorem ret_int {k : IntKind} {a b : Int} (h : a = b) : Ending.returned (.int k a) = .returned (.int k b) := by rw [h]
theorem ret_bool {a b : Bool} (h : a = b) : Ending.returned (.bool a) = .returned (.bool b) := by rw [h]
theorem below_drewN {B : Nat} {a w : World} (h : Below B a w) (n : Nat) : Below B a (w.drewN n) := ⟨h.os, h.tape, h.output, h.size, h.block⟩
theorem below_of_drew {w w' : World} (h : Below w.drew.heap.size w.drew w') : Below w.heap.size w w' := ⟨h.os, h.tape, h.output, h.size, h.block⟩
theorem grown_of_below {w w' : World} (h : Below w.heap.size w w') : w.grownBy w' none := ⟨h.os, h.tape, h.output, h.size, fun k hk _ => h.block k hk⟩
theorem own_below {w w' : World} {base : Nat} {e : TypeId} {size : Nat} {v : Value} {n : Nat} {xs : List Value} (h : w.ownsRow base e size v n xs) (hb : Below w.heap.size w w') : w'.ownsRow base e size v n xs :=
  h.kept (grown_of_below hb) (by cases v.ownBlock <;> simp)
theorem own_form {w : World} {base : Nat} {e : TypeId} {size : Nat} {v : Value} {n : Nat} {xs : List Value} (h : w.ownsRow base e size v n xs) : ∃ (a : Option Addr) (c : Nat), v = .slice a n c := by
  rcases h.2 with ⟨rfl, rfl⟩ | ⟨g, cap, cur, rfl, _⟩
  · exact ⟨none, 0, rfl⟩
  · exact ⟨_, cap, rfl⟩
theorem one_below (w : World) (o : Obj) : Below w.heap.size w (w.alloc o) := (Below.refl _ _).alloc (Nat.le_refl _) o
theorem two_below (w : World) (o o2 : Obj) : Below w.heap.size w ((w.alloc o).alloc o2) := ((Below.refl _ _).alloc (Nat.le_refl _) o).alloc (by simp) o2

/-- A date as a value. -/
abbrev dv (n : Int) : Value := .agg #[.int .i64 n]

theorem day_any (n : Int) (w : World) : Calls Try.prog 14 #[.int .i64 n] w fun e w' => e = .returned (.agg #[.int .i64 n]) ∧ Below w.heap.size w w' := by
  go_enter Try.func14, Try.ntmps14
  go_wp2
  exact bodyPost_ret (v := .agg #[.int .i64 n]) (by simp [results, Try.results14, go_sem]) rfl ⟨rfl, one_below _ _⟩

theorem daynum_any (n : Int) (w : World) : Calls Try.prog 16 #[.agg #[.int .i64 n]] w fun e w' => e = .returned (.int .i64 n) ∧ Below w.heap.size w w' := by
  go_enter Try.func16, Try.ntmps16
  go_wp2
  go_ret
  exact ⟨rfl, one_below _ _⟩

theorem before_any (n m : Int) (w : World) : Calls Try.prog 34 #[.agg #[.int .i64 n], .agg #[.int .i64 m]] w fun e w' => e = .returned (.bool (decide (n < m))) ∧ Below w.heap.size w w' := by
  go_enter Try.func34, Try.ntmps34
  go_wp2
  go_ret
  exact ⟨rfl, two_below _ _ _⟩

theorem after_any (n m : Int) (w : World) : Calls Try.prog 40 #[.agg #[.int .i64 n], .agg #[.int .i64 m]] w fun e w' => e = .returned (.bool (decide (m < n))) ∧ Below w.heap.size w w' := by
  go_enter Try.func40, Try.ntmps40
  go_wp2
  go_ret
  exact ⟨rfl, two_below _ _ _⟩

theorem sub_any (n m : Int) (w : World) : Calls Try.prog 39 #[.agg #[.int .i64 n], .agg #[.int .i64 m]] w fun e w' => e = .returned (.int .i64 (wrap64 (n - m))) ∧ Below w.heap.size w w' := by
  go_enter Try.func39, Try.ntmps39
  go_wp2
  go_ret
  exact ⟨rfl, two_below _ _ _⟩

theorem cell_first (w : World) (c1 : Array Value) (T1 : TypeId) (o2 : Obj) (j : Nat) : ((w.alloc (.cells c1 T1)).alloc o2).cell? ⟨w.heap.size, j, none⟩ = c1[j]? := by
  refine cell_of_row _ _ j c1 T1 (0, 0) ?_
  rw [Below.heap_alloc _ _ _ (by simp)]
  exact heap_alloc_new w _
theorem cell_second (w : World) (o1 : Obj) (c2 : Array Value) (T2 : TypeId) (j : Nat) : ((w.alloc o1).alloc (.cells c2 T2)).cell? ⟨w.heap.size + 1, j, none⟩ = c2[j]? := by
  refine cell_of_row _ _ j c2 T2 (0, 0) ?_
  have := heap_alloc_new (w.alloc o1) (.cells c2 T2)
  simpa using this

/-- What the comparison of a suspension with a day says. -/
def cmpS (f t d : Int) : Int := if t < d then -1 else if d < f then 1 else 0

theorem cmpS_lt {f t d : Int} (h : t < d) : cmpS f t d = -1 := by unfold cmpS; rw [if_pos h]
theorem cmpS_gt {f t d : Int} (h : d ≤ t) (h2 : d < f) : cmpS f t d = 1 := by unfold cmpS; rw [if_neg (by omega), if_pos h2]
theorem cmpS_eq {f t d : Int} (h : d ≤ t) (h2 : f ≤ d) : cmpS f t d = 0 := by unfold cmpS; rw [if_neg (by omega), if_neg (by omega)]

set_option maxHeartbeats 400000 in
theorem cmpS_any (f t d : Int) (w : World) : Calls Try.prog 42 #[.agg #[.int .i64 f, .int .i64 t], .agg #[.int .i64 d]] w fun e w' => e = .returned (.int .i64 (cmpS f t d)) ∧ Below w.heap.size w w' := by
  have HB2 := hide (two_below w (.cells #[.int .i64 f, .int .i64 t] 51) (.cells #[.int .i64 d] 29))
  go_enter Try.func42, Try.ntmps42
  go_wp2_with fail
  refine (before_any t d _).mono ?_
  rintro e w1 ⟨rfl, hb1⟩
  have k0 := (hb1.cell (p := ⟨w.heap.size, 0, none⟩) (by simp; omega)).trans (cell_first _ _ _ _ _)
  have k1 := (hb1.cell (p := ⟨w.heap.size + 1, 0, none⟩) (by simp)).trans (cell_second _ _ _ _ _)
  simp at k0 k1
  have HB1 := hide (HB2.out.trans (hb1.mono HB2.out.size))
  clear hb1 HB2
  by_cases h1 : t < d
  · have hd : decide (t < d) = true := decide_eq_true h1
    have HF := hide (cmpS_lt (f := f) h1)
    rw [hd]
    clear hd
    go_wp2_with fail
    go_ret
    exact ⟨ret_int HF.out.symm, HB1.out⟩
  · have hd : decide (t < d) = false := decide_eq_false h1
    rw [hd]
    clear hd
    go_wp2_with fail
    refine (after_any f d _).mono ?_
    rintro e w2 ⟨rfl, hb2⟩
    have HB2 := hide (HB1.out.trans (hb2.mono HB1.out.size))
    clear hb2 HB1 k0 k1
    by_cases h2 : d < f
    · have hd : decide (d < f) = true := decide_eq_true h2
      have HF := hide (cmpS_gt (f := f) (t := t) (d := d) (by omega) h2)
      rw [hd]
      clear hd
      go_wp2_with fail
      go_ret
      exact ⟨ret_int HF.out.symm, HB2.out⟩
    · have hd : decide (d < f) = false := decide_eq_false h2
      have HF := hide (cmpS_eq (f := f) (t := t) (d := d) (by omega) (by omega))
      rw [hd]
      clear hd
      go_wp2_with fail
      go_ret
      exact ⟨ret_int HF.out.symm, HB2.out⟩

end Go.Proofs.Qxb6601894a
