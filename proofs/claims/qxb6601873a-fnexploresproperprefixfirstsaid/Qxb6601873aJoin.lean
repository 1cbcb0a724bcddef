/-
  Seat b6601873a: joinCrashes.
-/
import Derived.Test.Qxb6601873aState
namespace Go.Proofs.Qxb6601873a
open Go.RowKit
attribute [local go_sem ↓] Go.wp_at_zero Go.wp_at_succ

theorem hid {p : Prop} (h : p) : Hid p := h

/-- The row and its crashes, one crash more. -/
theorem join_step {w1 w' : World} {base : Nat} {v v' rv : Value} {L : List Cr} {c : Cr} {xs : List Value} {o : Obj} (hown : w1.ownsRow base 43 4 v L.length xs)
    (hd : ∀ i, i < L.length → ∃ rv, Row4 xs i (L.getD i Cr.zero) rv ∧ OwnRV w1 base rv (L.getD i Cr.zero).rs) (hrv : OwnRV w1 base rv c.rs)
    (hg : (w1.alloc o).grownBy w' v.ownBlock) (hown' : w'.ownsRow base 43 4 v' (L.length + 1) (xs ++ [.int .i64 c.proc, .int .i64 c.rnd, rv, .int .i64 c.sent])) : OwnCrs w' base 43 v' (L ++ [c]) := by
  have hx1 : xs.length = L.length * 4 := hown.1
  have up : ∀ {rv rs}, OwnRV w1 base rv rs → OwnRV w' base rv rs := fun {rv rs} h => ⟨(h.1.alloc o).kept hg (own_ne2 (h.1.alloc o) (hown.alloc o) (by decide)), h.2⟩
  refine ⟨_, by rw [List.length_append]; exact hown', fun i hi => ?_⟩
  rw [getD_snoc]
  by_cases hlt : i < L.length
  · rw [if_pos hlt]
    obtain ⟨rv', ⟨r0, r1, r2, r3⟩, hs'⟩ := hd i hlt
    refine ⟨rv', ⟨?_, ?_, ?_, ?_⟩, up hs'⟩
    all_goals
      rw [List.getElem?_append_left (by omega)]
      assumption
  · have hie : i = L.length := by simp at hi; omega
    rw [if_neg hlt, if_pos hie, hie]
    refine ⟨rv, ⟨?_, ?_, ?_, ?_⟩, up hrv⟩
    all_goals
      rw [← hx1, List.getElem?_append_right (by omega)]
      simp

theorem cr_oneCell {p r s : Int} {a : Option Addr} {n c : Nat} : ∀ u ∈ ([.int .i64 p, .int .i64 r, .slice a n c, .int .i64 s] : List Value), u.oneCell' = true := by
  intro u hu
  simp only [List.mem_cons, List.not_mem_nil, or_false] at hu
  rcases hu with rfl | rfl | rfl | rfl <;> rfl

theorem below_of_drew {w w' : World} (h : Below w.drew.heap.size w.drew w') : Below w.heap.size w w' := ⟨h.os, h.tape, h.output, h.size, h.block⟩
theorem row_low {w : World} {base b : Nat} {e : TypeId} {size n : Nat} {v : Value} {xs : List Value} (h : w.ownsRow base e size v n xs) (hb : b < base) : v.ownBlock ≠ some b := by
  intro e'
  have := (h.lt b e').1
  omega
theorem far_cell {w w' : World} {o : Obj} {row : Option Nat} {b j : Nat} (hg : (w.alloc o).grownBy w' row) (hne : row ≠ some b) (hlt : b < w.heap.size) : w'.cell? ⟨b, j, none⟩ = w.cell? ⟨b, j, none⟩ := by
  rw [hg.cell_far ⟨b, j, none⟩ (by simp; omega) (fun e => hne e.symm)]
  exact World.cell?_of_block (w := w) (Below.heap_alloc w o b hlt)

theorem far_four {wo w w' : World} {o : Obj} {row : Option Nat} {b j : Nat} {c0 c1 c2 c3 : Value} (hg : (w.alloc o).grownBy w' row) (hne : row ≠ some b) (hlt : b < w.heap.size) (hb : Below wo.heap.size wo w) (hlo : b < wo.heap.size)
    (p0 : wo.cell? ⟨b, j, none⟩ = some c0) (p1 : wo.cell? ⟨b, j + 1, none⟩ = some c1) (p2 : wo.cell? ⟨b, j + 2, none⟩ = some c2) (p3 : wo.cell? ⟨b, j + 3, none⟩ = some c3) :
    w'.cell? ⟨b, j, none⟩ = some c0 ∧ w'.cell? ⟨b, j + 1, none⟩ = some c1 ∧ w'.cell? ⟨b, j + 2, none⟩ = some c2 ∧ w'.cell? ⟨b, j + 3, none⟩ = some c3 :=
  ⟨(far_cell hg hne hlt).trans ((hb.cell (p := ⟨b, _, none⟩) hlo).trans p0), (far_cell hg hne hlt).trans ((hb.cell (p := ⟨b, _, none⟩) hlo).trans p1), (far_cell hg hne hlt).trans ((hb.cell (p := ⟨b, _, none⟩) hlo).trans p2), (far_cell hg hne hlt).trans ((hb.cell (p := ⟨b, _, none⟩) hlo).trans p3)⟩

set_option maxHeartbeats 2000000 in
theorem join_any (vx va : Value) (xs as' : List Cr) (w : World) (hx : Crs w vx xs) (ha : Crs w va as') (hlx : xs.length ≤ 1048576) (hla : as'.length ≤ 1048576) (hrx : rsum xs ≤ 1048576) (hra : rsum as' ≤ 1048576) :
    Calls Try.prog 23 #[vx, va] w fun e w' => ∃ v', e = .returned v' ∧ OwnCrs w' w.heap.size 43 v' (xs ++ as') ∧ Below w.heap.size w w' := by
  obtain ⟨i0, hi, hz0, hz1, hz2⟩ := info_parts Try.info43
  obtain ⟨ax, cx, rfl, _, hx0⟩ := hx
  obtain ⟨aa, ca, rfl, _, ha0⟩ := ha
  have HX0 := hid hx0
  have HA0 := hid ha0
  clear hx0 ha0
  go_enter Try.func23, Try.ntmps23
  go_wp2_with (at_make; refine wpList_make_own _ rfl _ _ 27 rfl w.heap.size 43 i0 _ 4 Try.underlying27 hi hz0 hz1 _ _ _ (xs.length + as'.length) rfl rfl (by omega) (by rw [hz2]; omega) (by unfold maxLen; omega) (Nat.le_refl _) ?_; intro w1 hown1 hgrow1)
  have hoc1 : OwnCrs w1 w.heap.size 43 (.slice (some ⟨w.heap.size, 0, none⟩) 0 (xs.length + as'.length)) (xs.take 0) := ⟨[], hown1, fun i h => by simp at h⟩
  have hb1 : Below w.heap.size w w1 := (Below.refl _ _).grown hgrow1 (Nat.le_refl _) (fun k h => by cases h)
  clear hown1 hgrow1
  go_loopw [5, 6] (fun v i wr => ∃ k : Nat, k ≤ xs.length ∧ i = .int .i64 k ∧ OwnCrs wr w.heap.size 43 v (xs.take k) ∧ Below w.heap.size w wr) (fun _ i _ => xs.length - (intOf i).toNat)
  case atStart => exact ⟨0, Nat.zero_le _, rfl, hoc1, hb1⟩
  case round =>
    clear hoc1 hb1
    obtain ⟨k, hk, rfl, hoc, hb⟩ := hrel
    by_cases hlt : k < xs.length
    · obtain ⟨b, off, hx, hc⟩ := HX0.out (by omega)
      subst hx
      obtain ⟨rv, hat⟩ := hc k hlt
      have hlb : b < w.heap.size := World.block_lt_of_cell? w _ hat.p
      have p0 := (hb.cell (p := ⟨b, _, none⟩) hlb).trans hat.p
      have p1 := (hb.cell (p := ⟨b, _, none⟩) hlb).trans hat.r
      have p2 := (hb.cell (p := ⟨b, _, none⟩) hlb).trans hat.v
      have p3 := (hb.cell (p := ⟨b, _, none⟩) hlb).trans hat.s
      have hrv := hat.rv.below ⟨hb.os, hb.tape, hb.output, hb.size, hb.block⟩
      have hlen := rsum_mem xs k hlt
      have htk := cr_take xs k hlt
      obtain ⟨xr, hown, hdone⟩ := hoc
      obtain ⟨wo, rfl⟩ : ∃ x : World, x = wr := ⟨_, rfl⟩
      generalize xs.getD k Cr.zero = c at *
      obtain ⟨cp1, cr1, crs, cs1⟩ := c
      have hlen' : (crs.getD []).length ≤ 1048576 := Nat.le_trans hlen (by omega)
      have hll : (xs.take k).length ≤ 3000000 := by simp; omega
      have g0 : (0 : Int) ≤ (k : Int) := by omega
      have g1 : (k : Int) < (xs.length : Int) := by omega
      generalize hLL : (xs.take k) = LL at *
      have HLL := hid hLL
      have HO := hid hown
      have HD := hid hdone
      have HB := hid hb
      have HRV := hid hrv
      have HTK := hid htk
      have hsz := hb.size
      clear hLL hown hdone hb hrv htk hat hc hlen HX0 HA0
      simp only at p0 p1 p3
      go_wp2_with fail
      go_region_held3 (fun w' => w'.cell? ⟨b, off + k * 4, none⟩ = some (.int .i64 cp1) ∧ w'.cell? ⟨b, off + k * 4 + 1, none⟩ = some (.int .i64 cr1) ∧ w'.cell? ⟨b, off + k * 4 + 2, none⟩ = some rv ∧ w'.cell? ⟨b, off + k * 4 + 3, none⟩ = some (.int .i64 cs1))
        (first | go_keep | (go_split_ands; refine ⟨?_, ?_, ?_, ?_⟩ <;> (rw [hb1.cell (by simp; omega)]; assumption)) | (exact far_four hgrow hlb2 hlw (below_of_drew hb1) (Nat.lt_of_lt_of_le hlb hsz) p0 p1 p2 p3))
        (first | (go_at_call 12; refine (clone_any rv (crs.getD []) _ (by exact Ints.cells HRV.out.1 (fun _ => rfl)) (by omega)).mono ?_; rintro e w1 ⟨v', rfl, ho, hn, hb1⟩; obtain ⟨av, cv, rfl⟩ := own_form ho; have hlw2 : wo.heap.size ≤ w1.heap.size := hb1.size; have hlw : b < w1.heap.size := Nat.lt_of_lt_of_le (Nat.lt_of_lt_of_le hlb hsz) hb1.size) | (refine step_append_lies _ (by rfl) (.tmp 20) (.tmp 43) 27 (by rfl) w.heap.size 43 i0 _ 4 48 Try.underlying27 hi hz0 hz1 hz2 (by rfl) (by decide) _ LL.length xr (by rfl) ((own_below HO.out (below_of_drew hb1)).alloc _) ⟨w1.heap.size, 0, none⟩ 1 1 [.int .i64 cp1, .int .i64 cr1, .slice av (crs.getD []).length cv, .int .i64 cs1] (by rfl) (by rfl) (World.news_of_block (heap_alloc_new _ _)) cr_oneCell (by decide) (by unfold maxLen; omega) (by omega) (by simp; omega) _ rfl ?_; intro g cp w2 hown2 hgrow hat2 hlt2; have hlb2 := row_low HO.out hlb))
      have hbw := below_of_drew hb1
      have hR := join_step (c := ⟨cp1, cr1, crs, cs1⟩) (own_below HO.out hbw) (fun i hi => by obtain ⟨rv', h1, h2⟩ := HD.out i hi; exact ⟨rv', h1, h2.below hbw⟩) ⟨ho.mono (by exact hsz), hn.trans HRV.out.2⟩ hgrow hown2
      have hBW := ((HB.out.trans (hbw.mono hsz)).alloc (Nat.le_trans hsz hlw2) _).grown hgrow (by simp; omega) (fun k h => (World.ownsRow.lt HO.out k h).1)
      have HR := hid hR
      have HBW := hid hBW
      clear hR hBW hgrow hown2 hbw ho hn hb1 hat2 hlt2
      go_wp2_with fail
      go_roundw
      case rel => exact ⟨k + 1, by omega, by go_num, by rw [HTK.out]; exact HR.out, HBW.out⟩
      case measure => simp [intOf]; omega
    · have hoc2 : OwnCrs wr w.heap.size 43 u5 (xs ++ as'.take 0) := by rw [List.take_of_length_le (by omega)] at hoc; simpa using hoc
      clear hoc HX0
      go_wp2_with fail
      go_loopw [5, 7] (fun v i wr => ∃ k : Nat, k ≤ as'.length ∧ i = .int .i64 k ∧ OwnCrs wr w.heap.size 43 v (xs ++ as'.take k) ∧ Below w.heap.size w wr) (fun _ i _ => as'.length - (intOf i).toNat)
      case atStart => exact ⟨0, Nat.zero_le _, rfl, hoc2, hb⟩
      case round =>
        clear hoc2 hb
        obtain ⟨k, hk, rfl, hoc, hb⟩ := hrel
        by_cases hlt : k < as'.length
        · obtain ⟨b, off, hx, hc⟩ := HA0.out (by omega)
          subst hx
          obtain ⟨rv, hat⟩ := hc k hlt
          have hlb : b < w.heap.size := World.block_lt_of_cell? w _ hat.p
          have p0 := (hb.cell (p := ⟨b, _, none⟩) hlb).trans hat.p
          have p1 := (hb.cell (p := ⟨b, _, none⟩) hlb).trans hat.r
          have p2 := (hb.cell (p := ⟨b, _, none⟩) hlb).trans hat.v
          have p3 := (hb.cell (p := ⟨b, _, none⟩) hlb).trans hat.s
          have hrv := hat.rv.below ⟨hb.os, hb.tape, hb.output, hb.size, hb.block⟩
          have hlen := rsum_mem as' k hlt
          have htk := cr_take as' k hlt
          obtain ⟨xr, hown, hdone⟩ := hoc
          obtain ⟨wo, rfl⟩ : ∃ x : World, x = wr := ⟨_, rfl⟩
          generalize as'.getD k Cr.zero = c at *
          obtain ⟨cp1, cr1, crs, cs1⟩ := c
          have hlen' : (crs.getD []).length ≤ 1048576 := Nat.le_trans hlen (by omega)
          have hll : (xs ++ as'.take k).length ≤ 3000000 := by simp; omega
          have g0 : (0 : Int) ≤ (k : Int) := by omega
          have g1 : (k : Int) < (as'.length : Int) := by omega
          generalize hLL : (xs ++ as'.take k) = LL at *
          have HLL := hid hLL
          have HO := hid hown
          have HD := hid hdone
          have HB := hid hb
          have HRV := hid hrv
          have HTK := hid htk
          have hsz := hb.size
          clear hLL hown hdone hb hrv htk hat hc hlen HA0
          simp only at p0 p1 p3
          go_wp2_with fail
          go_region_held3 (fun w' => w'.cell? ⟨b, off + k * 4, none⟩ = some (.int .i64 cp1) ∧ w'.cell? ⟨b, off + k * 4 + 1, none⟩ = some (.int .i64 cr1) ∧ w'.cell? ⟨b, off + k * 4 + 2, none⟩ = some rv ∧ w'.cell? ⟨b, off + k * 4 + 3, none⟩ = some (.int .i64 cs1))
            (first | go_keep | (go_split_ands; refine ⟨?_, ?_, ?_, ?_⟩ <;> (rw [hb1.cell (by simp; omega)]; assumption)) | (exact far_four hgrow hlb2 hlw (below_of_drew hb1) (Nat.lt_of_lt_of_le hlb hsz) p0 p1 p2 p3))
            (first | (go_at_call 12; refine (clone_any rv (crs.getD []) _ (by exact Ints.cells HRV.out.1 (fun _ => rfl)) (by omega)).mono ?_; rintro e w1 ⟨v', rfl, ho, hn, hb1⟩; obtain ⟨av, cv, rfl⟩ := own_form ho; have hlw2 : wo.heap.size ≤ w1.heap.size := hb1.size; have hlw : b < w1.heap.size := Nat.lt_of_lt_of_le (Nat.lt_of_lt_of_le hlb hsz) hb1.size) | (refine step_append_lies _ (by rfl) (.tmp 51) (.tmp 74) 27 (by rfl) w.heap.size 43 i0 _ 4 48 Try.underlying27 hi hz0 hz1 hz2 (by rfl) (by decide) _ LL.length xr (by rfl) ((own_below HO.out (below_of_drew hb1)).alloc _) ⟨w1.heap.size, 0, none⟩ 1 1 [.int .i64 cp1, .int .i64 cr1, .slice av (crs.getD []).length cv, .int .i64 cs1] (by rfl) (by rfl) (World.news_of_block (heap_alloc_new _ _)) cr_oneCell (by decide) (by unfold maxLen; omega) (by omega) (by simp; omega) _ rfl ?_; intro g cp w2 hown2 hgrow hat2 hlt2; have hlb2 := row_low HO.out hlb))
          have hbw := below_of_drew hb1
          have hR := join_step (c := ⟨cp1, cr1, crs, cs1⟩) (own_below HO.out hbw) (fun i hi => by obtain ⟨rv', h1, h2⟩ := HD.out i hi; exact ⟨rv', h1, h2.below hbw⟩) ⟨ho.mono (by exact hsz), hn.trans HRV.out.2⟩ hgrow hown2
          have hBW := ((HB.out.trans (hbw.mono hsz)).alloc (Nat.le_trans hsz hlw2) _).grown hgrow (by simp; omega) (fun k h => (World.ownsRow.lt HO.out k h).1)
          have HR := hid hR
          have HBW := hid hBW
          clear hR hBW hgrow hown2 hbw ho hn hb1 hat2 hlt2
          go_wp2_with fail
          go_roundw
          case rel => exact ⟨k + 1, by omega, by go_num, by rw [HTK.out, ← List.append_assoc, HLL.out]; exact HR.out, HBW.out⟩
          case measure => simp [intOf]; omega
        · have hfin : OwnCrs wr w.heap.size 43 u5 (xs ++ as') := by rw [List.take_of_length_le (by omega)] at hoc; exact hoc
          clear hoc HA0
          go_wp2_with fail
          go_ret
          exact ⟨_, rfl, hfin, hb⟩

end Go.Proofs.Qxb6601873a
