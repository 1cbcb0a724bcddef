/-
  Seat b6601873a: cloneInts, arrivals, modelReach.
-/
import Derived.Test.Qxb6601873aReads
import Derived.WalkSpells
import Derived.Maps.AppendAt
namespace Go.Proofs.Qxb6601873a
open Go.RowKit

theorem Try.info3 : (Try.prog.info? 3).map (fun i => (i.zero, i.size, i.bytes)) = some (some (.int .i64 0), 1, 8) := by kernel_rfl

theorem grown_of_below {w w' : World} (h : Below w.heap.size w w') : w.grownBy w' none := ⟨h.os, h.tape, h.output, h.size, fun k hk _ => h.block k hk⟩

theorem own_below {w w' : World} {base : Nat} {e : TypeId} {size : Nat} {v : Value} {n : Nat} {xs : List Value} (h : w.ownsRow base e size v n xs) (hb : Below w.heap.size w w') : w'.ownsRow base e size v n xs :=
  h.kept (grown_of_below hb) (by cases v.ownBlock <;> simp)

theorem Ints.of_own {w : World} {base : Nat} {v : Value} {zs : List Int} (h : w.ownsRow base 3 1 v zs.length (zs.map (Value.int .i64))) : Ints w v zs := by
  have h' := h
  rcases h.2 with ⟨rfl, h0⟩ | ⟨g, cap, cur, rfl, _, _, _⟩
  · exact ⟨none, 0, by rw [h0], fun _ => rfl, fun hz => by omega⟩
  · refine ⟨_, cap, rfl, (fun h => by cases h), fun _ => ⟨g, 0, rfl, fun i hi => ?_⟩⟩
    have := h'.cellAt i (by omega)
    rw [Nat.zero_add, this]
    simp [List.getD, hi]

/-- What has been copied so far. -/
def part (zs : List Int) (k : Nat) : List Value := (zs.take k).map (Value.int .i64) ++ List.replicate (zs.length - k) (.int .i64 0)
theorem part_zero (zs : List Int) : part zs 0 = List.replicate zs.length (.int .i64 0) := by simp [part]
theorem part_all (zs : List Int) (k : Nat) (h : zs.length ≤ k) : part zs k = zs.map (Value.int .i64) := by
  simp [part, List.take_of_length_le h, show zs.length - k = 0 by omega]
theorem part_set (zs : List Int) (k : Nat) (h : k < zs.length) : (part zs k).set k (.int .i64 (zs.getD k 0)) = part zs (k + 1) := by
  unfold part
  rw [Pl.take_snoc zs k h]
  have e1 : zs.length - k = (zs.length - (k + 1)) + 1 := by omega
  rw [e1, List.replicate_succ]
  have e2 : ((zs.take k).map (Value.int .i64)).length = k := by simp; omega
  rw [List.set_append_right _ _ (by omega), e2, Nat.sub_self, List.set_cons_zero]
  simp
theorem part_at (zs : List Int) (k : Nat) (h : k < zs.length) : (part zs k)[k]? = some (.int .i64 0) := by
  unfold part
  have e2 : ((zs.take k).map (Value.int .i64)).length = k := by simp; omega
  rw [List.getElem?_append_right (by omega), e2, Nat.sub_self, List.getElem?_replicate, if_pos (by omega)]

/-! ### cloneInts -/
theorem clone_nil (w : World) : Calls Try.prog 12 #[.slice none 0 0] w fun e w' => e = .returned (.slice none 0 0) ∧ w' = w := by
  have q22 : ∀ (w : World) (a : Option Addr) (n c n' c' : Nat), (binOp .eql 22 (.slice a n c) (.slice none n' c')).run Try.prog w = .ok (.bool a.isNone) w := fun w a n c n' c' => Lib.run_eql_slice_nil w _ _ a n c n' c' Try.underlying22
  go_enter Try.func12, Try.ntmps12
  go_wp2
  go_ret
  exact ⟨rfl, rfl⟩

set_option maxHeartbeats 400000 in
theorem clone_some (x : Addr) (cap : Nat) (zs : List Int) (w : World) (hv : Ints w (.slice (some x) zs.length cap) zs) (hl : zs.length ≤ 17592186044416) :
    Calls Try.prog 12 #[.slice (some x) zs.length cap] w fun e w' => ∃ v, e = .returned v ∧ v = .slice (some ⟨w.heap.size, 0, none⟩) zs.length zs.length ∧ w'.ownsRow w.heap.size 3 1 v zs.length (zs.map (Value.int .i64)) ∧ Below w.heap.size w w' := by
  have q22 : ∀ (w : World) (a : Option Addr) (n c n' c' : Nat), (binOp .eql 22 (.slice a n c) (.slice none n' c')).run Try.prog w = .ok (.bool a.isNone) w := fun w a n c n' c' => Lib.run_eql_slice_nil w _ _ a n c n' c' Try.underlying22
  obtain ⟨i0, hi, hz0, hz1, hz2⟩ := info_parts Try.info3
  obtain ⟨a', cap', ha', _, hc0⟩ := hv
  simp only [Value.slice.injEq] at ha'
  obtain ⟨rfl, _, rfl⟩ := ha'
  have hml : zs.length ≤ maxLen := by unfold maxLen; omega
  go_enter Try.func12, Try.ntmps12
  go_wp2_with (at_make; refine wpList_make_full _ rfl _ _ 22 rfl w.heap.size 3 i0 (.int .i64 0) 1 Try.underlying22 hi hz0 hz1 _ _ _ _ zs.length rfl rfl rfl rfl (by rw [hz2]; omega) hml (Nat.le_refl _) ?_; intro w1 hown hgrow)
  have hown0 : w1.ownsRow w.heap.size 3 1 (.slice (some ⟨w.heap.size, 0, none⟩) zs.length zs.length) zs.length (part zs 0) := by
    have e : (madeCells (Value.int IntKind.i64 0).cells (zs.length * 1)).toList = part zs 0 := by
      rw [part_zero, Nat.mul_one]; exact toList_madeCells_one _ _
    rw [← e]; exact hown
  have hb0 : Below w.heap.size w w1 := (Below.refl _ _).grown hgrow (Nat.le_refl _) (fun k h => by cases h)
  clear hown hgrow
  go_loopw [4] (fun i wr => ∃ k : Nat, k ≤ zs.length ∧ i = .int .i64 k ∧ wr.ownsRow w.heap.size 3 1 (.slice (some ⟨w.heap.size, 0, none⟩) zs.length zs.length) zs.length (part zs k) ∧ Below w.heap.size w wr) (fun i _ => zs.length - (intOf i).toNat)
  case atStart => exact ⟨0, Nat.zero_le _, rfl, hown0, hb0⟩
  case round =>
    obtain ⟨k, hk, rfl, hown, hb⟩ := hrel
    clear hown0 hb0
    by_cases hlt : k < zs.length
    · obtain ⟨b, off, hx, hc⟩ := hc0 (by omega)
      obtain rfl := Option.some.inj hx
      clear hx hc0
      have hlt' := World.block_lt_of_cell? w _ (hc k hlt)
      have hcell : wr.cell? ⟨b, off + k, none⟩ = some (.int .i64 (zs.getD k 0)) := (hb.cell hlt').trans (hc k hlt)
      have hnew : wr.cell? ⟨w.heap.size, k, none⟩ = some (.int .i64 0) := (hown.cellAt k (by omega)).trans (part_at zs k hlt)
      have hfz : wr.frozen? ⟨w.heap.size, k, none⟩ = false := hown.frozenAt k
      have hst := hown.stored k (.int .i64 (zs.getD k 0))
      rw [part_set zs k hlt] at hst
      generalize zs.getD k 0 = y at hcell hst
      have HS : Hid _ := hst
      have HB : Hid _ := hb
      clear hst hc hlt' hown hb
      go_wp2
      go_roundw
      case rel => exact ⟨k + 1, by omega, by go_num, HS.out.1, HB.out.setCell (by simp) _⟩
      case measure => simp [intOf]; omega
    · go_wp2
      go_ret
      exact ⟨_, rfl, rfl, by rw [← part_all zs k (by omega)]; exact hown, hb⟩


/-- cloneInts, whatever the slice: a slice of the call's own with the same elements; nil stays nil, and nothing else becomes nil. -/
theorem clone_any (v : Value) (zs : List Int) (w : World) (hv : Ints w v zs) (hl : zs.length ≤ 17592186044416) :
    Calls Try.prog 12 #[v] w fun e w' => ∃ v', e = .returned v' ∧ w'.ownsRow w.heap.size 3 1 v' zs.length (zs.map (Value.int .i64)) ∧ (v' = .slice none 0 0 ↔ v = .slice none 0 0) ∧ Below w.heap.size w w' := by
  have hv' := hv
  obtain ⟨a, cap, rfl, hn, hc⟩ := hv
  cases a with
  | none =>
    have hz : zs = [] := by
      cases zs with
      | nil => rfl
      | cons x r => obtain ⟨_, _, h, _⟩ := hc (by simp); cases h
    subst hz
    have := hn rfl
    subst this
    refine (clone_nil w).mono ?_
    rintro e w' ⟨rfl, rfl⟩
    exact ⟨_, rfl, World.ownsRow_nil _ _ _ _, by simp, Below.refl _ _⟩
  | some x =>
    refine (clone_some x cap zs w hv' hl).mono ?_
    rintro e w' ⟨v, rfl, rfl, ho, hb⟩
    exact ⟨_, rfl, ho, by simp, hb⟩

/-! ### arrivals -/
/-- What arrivals answers: the numbers of the messages that arrive. -/
def arrs (p : Int) (zs : List Int) : List Int := Pl.arr (flg p zs) 0

theorem arrs_hit (p : Int) (zs : List Int) (j : Nat) (h : j < zs.length) (e : zs.getD j 0 = p) :
    arrs p (zs.take (j + 1)) = arrs p (zs.take j) ++ [((flg p (zs.take j)).length : Int)] ∧ (flg p (zs.take (j + 1))).length = (flg p (zs.take j)).length + 1 := by
  unfold arrs flg
  rw [Pl.fl_step _ _ _ _ h, if_pos e, Pl.arr_append]
  simp [Pl.arr]
theorem arrs_neg (p : Int) (zs : List Int) (j : Nat) (h : j < zs.length) (e : ¬ zs.getD j 0 = p) (e' : zs.getD j 0 = wrap64 (-p)) :
    arrs p (zs.take (j + 1)) = arrs p (zs.take j) ∧ (flg p (zs.take (j + 1))).length = (flg p (zs.take j)).length + 1 := by
  unfold arrs flg
  rw [Pl.fl_step _ _ _ _ h, if_neg e, if_pos e', Pl.arr_append]
  simp [Pl.arr]
theorem arrs_miss (p : Int) (zs : List Int) (j : Nat) (h : j < zs.length) (e : ¬ zs.getD j 0 = p) (e' : ¬ zs.getD j 0 = wrap64 (-p)) :
    arrs p (zs.take (j + 1)) = arrs p (zs.take j) ∧ (flg p (zs.take (j + 1))).length = (flg p (zs.take j)).length := by
  unfold arrs flg
  rw [Pl.fl_step _ _ _ _ h, if_neg e, if_neg e', Pl.arr_append]
  simp [Pl.arr]
theorem arrs_le (p : Int) (zs : List Int) (j : Nat) : (arrs p (zs.take j)).length ≤ j ∧ (flg p (zs.take j)).length ≤ j := by
  have h1 := Pl.arr_len (flg p (zs.take j)) 0
  have h2 : (flg p (zs.take j)).length ≤ (zs.take j).length := Pl.fl_len _ _ _
  have h3 : (zs.take j).length ≤ j := List.length_take_le _ _
  unfold arrs
  omega

set_option maxHeartbeats 400000 in
theorem arrivals_any (v : Value) (zs : List Int) (p : Int) (w : World) (hv : Ints w v zs) (hl : zs.length ≤ 1099511627776) :
    Calls Try.prog 33 #[v, .int .i64 p] w fun e w' => ∃ v', e = .returned v' ∧ w'.ownsRow w.heap.size 3 1 v' (arrs p zs).length ((arrs p zs).map (Value.int .i64)) ∧ Below w.heap.size w w' := by
  obtain ⟨i0, hi, hz0, hz1, hz2⟩ := info_parts Try.info3
  obtain ⟨a, cap, rfl, _, hc0⟩ := hv
  go_enter Try.func33, Try.ntmps33
  go_wp2
  go_loopw [5, 6, 7] (fun o n i wr => ∃ j : Nat, j ≤ zs.length ∧ i = .int .i64 j ∧ n = .int .i64 (flg p (zs.take j)).length ∧ wr.ownsRow w.heap.size 3 1 o (arrs p (zs.take j)).length ((arrs p (zs.take j)).map (Value.int .i64)) ∧ Below w.heap.size w wr) (fun _ _ i _ => zs.length - (intOf i).toNat)
  case atStart => exact ⟨0, Nat.zero_le _, rfl, rfl, World.ownsRow_nil _ _ _ _, Below.refl _ _⟩
  case round =>
    obtain ⟨j, hj, rfl, rfl, hown, hb⟩ := hrel
    have hle := arrs_le p zs j
    by_cases hlt : j < zs.length
    · obtain ⟨b, off, hx, hc⟩ := hc0 (by omega)
      subst hx
      clear hc0
      have hlt' := World.block_lt_of_cell? w _ (hc j hlt)
      have hcell : wr.cell? ⟨b, off + j, none⟩ = some (.int .i64 (zs.getD j 0)) := (hb.cell hlt').trans (hc j hlt)
      have h1 := arrs_hit p zs j hlt
      have h2 := arrs_neg p zs j hlt
      have h3 := arrs_miss p zs j hlt
      have hsz := hb.size
      generalize zs.getD j 0 = x at hcell h1 h2 h3
      have H1 : Hid _ := h1
      have H2 : Hid _ := h2
      have H3 : Hid _ := h3
      have HO : Hid _ := hown
      have HB : Hid _ := hb
      clear hc hlt' h1 h2 h3 hb
      generalize hnn : (flg p (zs.take j)).length = nn at *
      by_cases hp : x = p
      · have hp'' : (x == p) = true := by simp [hp]
        obtain ⟨e1, e2⟩ := H1.out hp
        have E1 : Hid _ := e1
        have E2 : Hid _ := e2
        clear hp H1 H2 H3 e1 e2
        go_wp2_with (at_builtin; refine wpList_append_own _ rfl _ _ 22 rfl w.heap.size 3 i0 (.int .i64 0) 1 8 Try.underlying22 hi hz0 hz1 hz2 rfl (by decide) _ _ _ rfl (hown.alloc _) ⟨wr.heap.size, 0, none⟩ 1 1 [.int .i64 nn] rfl rfl (cell_one_new _ _ _) (by intro u hu; simp at hu; subst hu; rfl) (by unfold maxLen; omega) (by omega) (by simp; omega) ?_; intro v' w1 hown' hgrow _)
        go_roundw
        case rel =>
          refine ⟨j + 1, by omega, by go_num, by rw [E2.out]; go_num, ?_, (HB.out.alloc hsz _).grown hgrow (by simp; omega) (fun k h => (World.ownsRow.lt HO.out k h).1)⟩
          rw [E1.out]
          simpa using hown'
        case measure => simp [intOf]; omega
      · have hp'' : (x == p) = false := by simp [hp]
        by_cases hq : x = wrap64 (-p)
        · have hq'' : (x == wrap64 (-p)) = true := by simp [hq]
          obtain ⟨e1, e2⟩ := H2.out hp hq
          have E1 : Hid _ := e1
          have E2 : Hid _ := e2
          clear hp hq H1 H2 H3 e1 e2 hown
          go_wp2
          go_roundw
          case rel => exact ⟨j + 1, by omega, by go_num, by rw [E2.out]; go_num, by rw [E1.out]; exact HO.out, HB.out⟩
          case measure => simp [intOf]; omega
        · have hq'' : (x == wrap64 (-p)) = false := by simp [hq]
          obtain ⟨e1, e2⟩ := H3.out hp hq
          have E1 : Hid _ := e1
          have E2 : Hid _ := e2
          clear hp hq H1 H2 H3 e1 e2 hown
          go_wp2
          go_roundw
          case rel => exact ⟨j + 1, by omega, by go_num, by rw [E2.out], by rw [E1.out]; exact HO.out, HB.out⟩
          case measure => simp [intOf]; omega
    · go_wp2
      go_ret
      have e : zs.take j = zs := List.take_of_length_le (by omega)
      rw [e] at hown
      exact ⟨_, rfl, hown, hb⟩


/-! ### modelReach -/
theorem below_drewN {B : Nat} {a w : World} (h : Below B a w) (n : Nat) : Below B a (w.drewN n) := ⟨h.os, h.tape, h.output, h.size, h.block⟩

set_option maxHeartbeats 800000 in
theorem model_any (va vb : Value) (xs ys : List Int) (p : Int) (w : World) (ha : Ints w va xs) (hb : Ints w vb ys) (hla : xs.length ≤ 1099511627776) (hlb : ys.length ≤ 1099511627776) :
    Calls Try.prog 14 #[va, vb, .int .i64 p] w fun e w' => e = .returned (.int .i64 (Pl.mr (arrs p xs) (arrs p ys))) ∧ Below w.heap.size w w' := by
  go_enter Try.func14, Try.ntmps14
  go_wp2_with fail
  refine (arrivals_any va xs p _ ha hla).mono ?_
  rintro e w1 ⟨sa, rfl, hoa, hb1⟩
  go_wp2_with fail
  refine (arrivals_any vb ys p _ (hb.below hb1) hlb).mono ?_
  rintro e w2 ⟨sb, rfl, hob, hb2⟩
  have hoa2 := own_below hoa hb2
  have hbw : Below w.heap.size w w2 := hb1.trans (hb2.mono hb1.size)
  have hsa := Ints.of_own hoa2
  have hsb := Ints.of_own hob
  have hna : (arrs p xs).length ≤ 1099511627776 := by have := (arrs_le p xs xs.length).1; rw [List.take_length] at this; omega
  have hnb : (arrs p ys).length ≤ 1099511627776 := by have := (arrs_le p ys ys.length).1; rw [List.take_length] at this; omega
  clear hoa hob hoa2 hb1 hb2 ha hb
  obtain ⟨us, hus⟩ : ∃ us, arrs p xs = us := ⟨_, rfl⟩
  obtain ⟨vs, hvs⟩ : ∃ vs, arrs p ys = vs := ⟨_, rfl⟩
  have HF : Hid (Pl.mr (arrs p xs) (arrs p ys) = Pl.mr us vs) := by unfold Hid; rw [hus, hvs]
  rw [hus] at hsa hna
  rw [hvs] at hsb hnb
  clear hus hvs
  obtain ⟨aa, ca, rfl, _, hca⟩ := hsa
  obtain ⟨ab, cb, rfl, _, hcb⟩ := hsb
  by_cases hlt : us.length < vs.length
  · have hro : Hid (Pl.mr us vs = -1) := by unfold Hid Pl.mr; rw [if_pos hlt]
    go_wp2_with fail
    go_ret
    exact ⟨ret_int (by rw [HF.out, hro.out]), hbw⟩
  by_cases hgt : vs.length < us.length
  · have hro : Hid (Pl.mr us vs = 1) := by unfold Hid Pl.mr; rw [if_neg hlt, if_pos hgt]
    go_wp2_with fail
    go_ret
    exact ⟨ret_int (by rw [HF.out, hro.out]), hbw⟩
  have hro : Hid (Pl.mr us vs = Pl.lex us vs) := by unfold Hid Pl.mr; rw [if_neg hlt, if_neg hgt]
  have HE : Hid (us.length = vs.length) := by unfold Hid; omega
  go_wp2_with fail
  go_loopw [9] (fun i wr => ∃ k : Nat, k ≤ us.length ∧ i = .int .i64 k ∧ Hid (Pl.lex (us.drop k) (vs.drop k) = Pl.lex us vs) ∧ (∃ n, wr = w2.drewN n)) (fun i _ => us.length - (intOf i).toNat)
  case atStart => exact ⟨0, Nat.zero_le _, rfl, rfl, 0, rfl⟩
  case round =>
    obtain ⟨k, hk, rfl, HR, n, rfl⟩ := hrel
    by_cases hkl : k < us.length
    · have hkl2 : k < vs.length := by have := HE.out; omega
      obtain ⟨b1, o1, h1, hc1⟩ := hca (by omega)
      obtain ⟨b2, o2, h2, hc2⟩ := hcb (by omega)
      subst h1
      subst h2
      have hl1 := hc1 k hkl
      have hl2 := hc2 k hkl2
      have hs := Pl.lex_round us vs k hkl hkl2
      have g0 : (0 : Int) ≤ (k : Int) := by omega
      have g1 : (k : Int) < (us.length : Int) := by omega
      have g2 : (k : Int) < (vs.length : Int) := by omega
      generalize us.getD k 0 = x at hl1 hs
      generalize vs.getD k 0 = y at hl2 hs
      have HS : Hid _ := hs
      clear hs hc1 hc2 hca hcb
      by_cases hxy : x < y
      · go_wp2_with fail
        go_quiet (fail)
        go_wp2_with fail
        go_ret
        exact ⟨ret_int (by rw [HF.out, hro.out, ← HR.out, HS.out, if_pos hxy]), below_drewN (below_drewN hbw n) _⟩
      by_cases hyx : y < x
      · go_wp2_with fail
        go_quiet (fail)
        go_wp2_with fail
        go_quiet (fail)
        go_wp2_with fail
        go_ret
        exact ⟨ret_int (by rw [HF.out, hro.out, ← HR.out, HS.out, if_neg (by omega), if_pos (by omega)]), below_drewN (below_drewN (below_drewN hbw n) _) _⟩
      · go_wp2_with fail
        go_quiet (fail)
        go_wp2_with fail
        go_quiet (fail)
        go_wp2_with fail
        go_roundw
        case rel => exact ⟨k + 1, by omega, by go_num, by rw [← HR.out, HS.out, if_neg (by omega), if_neg (by omega)]; rfl, _, rfl⟩
        case measure => simp [intOf]; omega
    · go_wp2_with fail
      go_ret
      exact ⟨ret_int (by rw [HF.out, hro.out, ← HR.out, Pl.lex_done _ _ _ (by omega)]), below_drewN hbw n⟩

end Go.Proofs.Qxb6601873a
