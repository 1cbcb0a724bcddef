/-
  Seat b6601873a: slices of int that are read; reachesTimes, listedAt, reachOrder.
-/
import Derived.Test.Qxb6601873aPlain
import Derived.Test.Qxb6601873aChecked
import Derived.WalkKit
import Derived.Deep.QuietTactic
import Derived.BigQuiet
namespace Go.Proofs.Qxb6601873a
open Go.RowKit

/-- v is a slice of int whose elements are zs (nil, empty or not), as it lies in w. -/
def Ints (w : World) (v : Value) (zs : List Int) : Prop :=
  ∃ (a : Option Addr) (cap : Nat), v = .slice a zs.length cap ∧ (a = none → cap = 0) ∧
    (0 < zs.length → ∃ b off, a = some ⟨b, off, none⟩ ∧ ∀ i, i < zs.length → w.cell? ⟨b, off + i, none⟩ = some (.int .i64 (zs.getD i 0)))

theorem Ints.below {w w' : World} {v : Value} {zs : List Int} (h : Ints w v zs) (hb : Below w.heap.size w w') : Ints w' v zs := by
  obtain ⟨a, cap, rfl, hn, h⟩ := h
  refine ⟨a, cap, rfl, hn, fun hz => ?_⟩
  obtain ⟨b, off, rfl, hc⟩ := h hz
  refine ⟨b, off, rfl, fun i hi => ?_⟩
  have hlt := World.block_lt_of_cell? w _ (hc i hi)
  rw [hb.cell (p := ⟨b, off + i, none⟩) hlt]
  exact hc i hi

theorem ret_int {k : IntKind} {a b : Int} (h : a = b) : Ending.returned (.int k a) = .returned (.int k b) := by rw [h]

/-! ### reachesTimes -/
set_option maxHeartbeats 400000 in
theorem times_any (v : Value) (zs : List Int) (p : Int) (w : World) (hv : Ints w v zs) (hl : zs.length ≤ 4611686018427387904) :
    Calls Try.prog 37 #[v, .int .i64 p] w fun e w' => e = .returned (.int .i64 (Pl.cnt p zs)) ∧ w' = w := by
  obtain ⟨a, cap, rfl, _, hc0⟩ := hv
  by_cases h0 : 0 < zs.length
  · obtain ⟨b, off, rfl, hc⟩ := hc0 h0
    clear hc0
    go_enter Try.func37, Try.ntmps37
    go_wp2
    go_loop [5, 10] (fun n i => ∃ k : Nat, k ≤ zs.length ∧ i = .int .i64 k ∧ n = .int .i64 (Pl.cnt p (zs.take k))) (fun _ i => zs.length - (intOf i).toNat)
    case atStart => exact ⟨0, Nat.zero_le _, rfl, rfl⟩
    case round =>
      obtain ⟨k, hk, rfl, rfl⟩ := hrel
      have hle := Pl.cnt_le p (zs.take k)
      have hll : (zs.take k).length ≤ k := List.length_take_le _ _
      by_cases hlt : k < zs.length
      · have hcell := hc k hlt
        have hS := Pl.cnt_step p zs k hlt
        generalize zs.getD k 0 = x at hcell hS
        have HS : Hid _ := hS
        clear hc hS
        by_cases hp : x = p
        · have hp' : (x == p) = true := beq_iff_eq.2 hp
          have HP : Hid _ := hp
          clear hp
          go_wp2
          go_round
          case rel => exact ⟨k + 1, by omega, by go_num, by rw [HS.out, if_pos HP.out]; go_num⟩
          case measure => simp [intOf]; omega
        · have hp' : (x == p) = false := beq_eq_false_iff_ne.2 hp
          have HP : Hid _ := hp
          clear hp
          go_wp2
          go_round
          case rel => exact ⟨k + 1, by omega, by go_num, by rw [HS.out, if_neg HP.out]; go_num⟩
          case measure => simp [intOf]; omega
      · go_wp2
        go_ret
        exact ⟨ret_int (by rw [List.take_of_length_le (by omega)]), rfl⟩
  · have hz : zs = [] := by cases zs with | nil => rfl | cons _ _ => simp at h0
    subst hz
    clear hc0 h0
    go_enter Try.func37, Try.ntmps37
    go_wp2
    go_loop [5, 10] (fun n i => n = .int .i64 0 ∧ i = .int .i64 0) (fun _ _ => 0)
    case atStart => exact ⟨rfl, rfl⟩
    case round =>
      obtain ⟨rfl, rfl⟩ := hrel
      go_wp2
      go_ret
      exact ⟨rfl, rfl⟩


/-! ### listedAt -/
def flg (p : Int) (zs : List Int) : List Bool := Pl.fl p (wrap64 (-p)) zs

set_option maxHeartbeats 400000 in
theorem listed_any (v : Value) (zs : List Int) (p : Int) (k : Nat) (w : World) (hv : Ints w v zs) (hl : zs.length ≤ 4611686018427387904) (hk0 : k ≤ 4611686018427387904) :
    Calls Try.prog 38 #[v, .int .i64 p, .int .i64 k] w fun e w' => e = .returned (.tuple #[.bool ((flg p zs)[k]?.getD false), .bool ((flg p zs)[k]?.isSome)]) ∧ w' = w := by
  obtain ⟨a, cap, rfl, _, hc0⟩ := hv
  by_cases h0 : 0 < zs.length
  · obtain ⟨b, off, rfl, hc⟩ := hc0 h0
    clear hc0
    go_enter Try.func38, Try.ntmps38
    go_wp2
    go_loop [2, 6, 7, 12] (fun n r1 r2 i => ∃ m j : Nat, j ≤ zs.length ∧ m ≤ k ∧ i = .int .i64 j ∧ n = .int .i64 m ∧ r1 = .bool false ∧ r2 = .bool false ∧ Hid ((flg p (zs.drop j))[m]? = (flg p zs)[k]?)) (fun _ _ _ i => zs.length - (intOf i).toNat)
    case atStart => exact ⟨k, 0, Nat.zero_le _, Nat.le_refl _, rfl, rfl, rfl, rfl, rfl⟩
    case round =>
      obtain ⟨m, j, hj, hm, rfl, rfl, rfl, rfl, HR⟩ := hrel
      by_cases hlt : j < zs.length
      · have hcell := hc j hlt
        have h1 := Pl.fl_hit p (wrap64 (-p)) zs j hlt
        have h2 := Pl.fl_neg p (wrap64 (-p)) zs j hlt
        have h3 := Pl.fl_miss p (wrap64 (-p)) zs j hlt
        generalize zs.getD j 0 = x at hcell h1 h2 h3
        have H1 : Hid _ := h1
        have H2 : Hid _ := h2
        have H3 : Hid _ := h3
        clear hc h1 h2 h3
        by_cases hp : x = p
        · have hp' : (x != p) = false := by simp [hp]
          have hp'' : (x == p) = true := by simp [hp]
          have HP : Hid _ := H1.out hp
          clear hp H1 H2 H3
          by_cases hm0 : m = 0
          · subst hm0
            go_wp2
            go_ret2
            refine ⟨?_, rfl⟩
            rw [← HR.out, flg, HP.out]
            rfl
          · have hm' : ((m : Int) == 0) = false := beq_eq_false_iff_ne.2 (by omega)
            go_wp2
            go_round
            case rel => exact ⟨m - 1, j + 1, by omega, by omega, by go_num, by go_num, rfl, rfl, by rw [← HR.out, flg, flg, HP.out]; cases m with | zero => exact absurd rfl hm0 | succ m => rfl⟩
            case measure => simp [intOf]; omega
        · have hp' : (x != p) = true := by simp [hp]
          have hp'' : (x == p) = false := by simp [hp]
          by_cases hq : x = wrap64 (-p)
          · have hq' : (x != wrap64 (-p)) = false := by simp [hq]
            have HP : Hid _ := H2.out hp hq
            clear hp hq H1 H2 H3
            by_cases hm0 : m = 0
            · subst hm0
              go_wp2
              go_ret2
              refine ⟨?_, rfl⟩
              rw [← HR.out, flg, HP.out]
              rfl
            · have hm' : ((m : Int) == 0) = false := beq_eq_false_iff_ne.2 (by omega)
              go_wp2
              go_round
              case rel => exact ⟨m - 1, j + 1, by omega, by omega, by go_num, by go_num, rfl, rfl, by rw [← HR.out, flg, flg, HP.out]; cases m with | zero => exact absurd rfl hm0 | succ m => rfl⟩
              case measure => simp [intOf]; omega
          · have hq' : (x != wrap64 (-p)) = true := by simp [hq]
            have HP : Hid _ := H3.out hp hq
            clear hp hq H1 H2 H3
            go_wp2
            go_round
            case rel => exact ⟨m, j + 1, by omega, by omega, by go_num, rfl, rfl, rfl, by rw [← HR.out, flg, flg, HP.out]; rfl⟩
            case measure => simp [intOf]; omega
      · have HN : Hid ((flg p zs)[k]? = none) := by
          have := HR.out
          rw [List.drop_of_length_le (by omega)] at this
          exact this.symm
        clear HR
        go_wp2
        go_ret2
        rw [HN.out]
        exact ⟨rfl, rfl⟩
  · have hz : zs = [] := by cases zs with | nil => rfl | cons _ _ => simp at h0
    subst hz
    clear hc0 h0
    go_enter Try.func38, Try.ntmps38
    go_wp2
    go_loop [2, 6, 7, 12] (fun n r1 r2 i => n = .int .i64 k ∧ r1 = .bool false ∧ r2 = .bool false ∧ i = .int .i64 0) (fun _ _ _ _ => 0)
    case atStart => exact ⟨rfl, rfl, rfl, rfl⟩
    case round =>
      obtain ⟨rfl, rfl, rfl, rfl⟩ := hrel
      go_wp2
      go_ret2
      exact ⟨rfl, rfl⟩


/-! ### reachOrder -/
/-- What reachOrder answers, by flags and counts. -/
def rOrd (p : Int) (xs ys : List Int) : Int := Pl.ro p (wrap64 (-p)) xs ys

set_option maxHeartbeats 400000 in
theorem order_any (va vb : Value) (xs ys : List Int) (p : Int) (w : World) (ha : Ints w va xs) (hb : Ints w vb ys) (hla : xs.length ≤ 4611686018427387000) (hlb : ys.length ≤ 4611686018427387000) :
    Calls Try.prog 32 #[va, vb, .int .i64 p] w fun e w' => e = .returned (.int .i64 (rOrd p xs ys)) ∧ w' = w := by
  have h1 := Pl.cnt_le p xs
  have h2 := Pl.cnt_le p ys
  have hda : (flg p xs).length ≤ xs.length := Pl.fl_len _ _ _
  have hdb : (flg p ys).length ≤ ys.length := Pl.fl_len _ _ _
  go_enter Try.func32, Try.ntmps32
  go_wp2_with fail
  refine (times_any va xs p _ ha (by omega)).mono ?_
  rintro e w' ⟨rfl, rfl⟩
  go_wp2_with fail
  refine (times_any vb ys p _ hb (by omega)).mono ?_
  rintro e w' ⟨rfl, rfl⟩
  by_cases hlt : Pl.cnt p xs < Pl.cnt p ys
  · have hro : Hid (rOrd p xs ys = -1) := by unfold Hid rOrd Pl.ro; rw [if_pos hlt]
    go_wp2_with fail
    go_ret
    exact ⟨ret_int hro.out.symm, rfl⟩
  · by_cases hgt : Pl.cnt p ys < Pl.cnt p xs
    · have hro : Hid (rOrd p xs ys = 1) := by unfold Hid rOrd Pl.ro; rw [if_neg hlt, if_pos hgt]
      go_wp2_with fail
      go_ret
      exact ⟨ret_int hro.out.symm, rfl⟩
    · have hro : Hid (rOrd p xs ys = Pl.cmp (flg p xs) (flg p ys)) := by unfold Hid rOrd Pl.ro; rw [if_neg hlt, if_neg hgt]; rfl
      go_wp2_with fail
      clear h1 h2 hlt hgt
      go_loop [9] (fun i => ∃ k : Nat, k ≤ max (flg p xs).length (flg p ys).length ∧ i = .int .i64 k ∧ Hid (Pl.cmp ((flg p xs).drop k) ((flg p ys).drop k) = Pl.cmp (flg p xs) (flg p ys))) (fun i => max (flg p xs).length (flg p ys).length - (intOf i).toNat)
      case atStart => exact ⟨0, Nat.zero_le _, rfl, rfl⟩
      case round =>
        obtain ⟨k, hk, rfl, HR⟩ := hrel
        have hk2 : k ≤ 4611686018427387000 := by omega
        have hro2 : Hid (rOrd p xs ys = if (flg p xs)[k]?.getD false && !((flg p ys)[k]?.getD false) then -1 else if (flg p ys)[k]?.getD false && !((flg p xs)[k]?.getD false) then 1 else Pl.cmp ((flg p xs).drop (k + 1)) ((flg p ys).drop (k + 1))) := by
          unfold Hid; rw [hro.out, ← HR.out]; exact Pl.cmp_round _ _ _
        have hro3 : Hid ((flg p xs)[k]? = none → (flg p ys)[k]? = none → rOrd p xs ys = 0) := by
          intro e1 e2; rw [hro.out, ← HR.out]; exact Pl.cmp_both_out _ _ _ (List.getElem?_eq_none_iff.1 e1) (List.getElem?_eq_none_iff.1 e2)
        have hsx : Hid ((flg p xs)[k]?.isSome = true → k < (flg p xs).length) := by intro h; simpa using h
        have hsy : Hid ((flg p ys)[k]?.isSome = true → k < (flg p ys).length) := by intro h; simpa using h
        clear HR
        go_wp2_with fail
        refine (listed_any va xs p k _ ha (by omega) (by omega)).mono ?_
        rintro e w' ⟨rfl, rfl⟩
        go_wp2_with fail
        refine (listed_any vb ys p k _ hb (by omega) (by omega)).mono ?_
        rintro e w' ⟨rfl, rfl⟩
        generalize (flg p xs)[k]? = ox at hro2 hro3 hsx
        generalize (flg p ys)[k]? = oy at hro2 hro3 hsy
        rcases ox with _ | ox <;> rcases oy with _ | oy
        · have h0 : Hid (rOrd p xs ys = 0) := hro3.out rfl rfl
          clear hro2 hsx hsy hro3
          go_wp2_with fail
          go_ret
          exact ⟨ret_int h0.out.symm, rfl⟩
        · have hlt := hsy.out rfl
          cases oy
          · go_wp2_with fail
            go_round
            case rel => exact ⟨k + 1, by omega, by go_num, by have := hro2.out; simp at this; rw [← hro.out, this]; rfl⟩
            case measure => simp [intOf]; omega
          · go_wp2_with fail
            go_ret
            exact ⟨ret_int hro2.out.symm, rfl⟩
        · have hlt := hsx.out rfl
          cases ox
          · go_wp2_with fail
            go_round
            case rel => exact ⟨k + 1, by omega, by go_num, by have := hro2.out; simp at this; rw [← hro.out, this]; rfl⟩
            case measure => simp [intOf]; omega
          · go_wp2_with fail
            go_ret
            exact ⟨ret_int hro2.out.symm, rfl⟩
        · have hlt := hsx.out rfl
          cases ox <;> cases oy
          · go_wp2_with fail
            go_round
            case rel => exact ⟨k + 1, by omega, by go_num, by have := hro2.out; simp at this; rw [← hro.out, this]; rfl⟩
            case measure => simp [intOf]; omega
          · go_wp2_with fail
            go_ret
            exact ⟨ret_int hro2.out.symm, rfl⟩
          · go_wp2_with fail
            go_ret
            exact ⟨ret_int hro2.out.symm, rfl⟩
          · go_wp2_with fail
            go_round
            case rel => exact ⟨k + 1, by omega, by go_num, by have := hro2.out; simp at this; rw [← hro.out, this]; rfl⟩
            case measure => simp [intOf]; omega

end Go.Proofs.Qxb6601873a
