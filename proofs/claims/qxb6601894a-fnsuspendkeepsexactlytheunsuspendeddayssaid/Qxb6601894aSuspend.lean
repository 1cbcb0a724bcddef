/-
  Seat b6601894a: (*Calendar).Suspend.
-/
import Derived.Test.Qxb6601894aCal
import Derived.OwnWalk
namespace Go.Proofs.Qxb6601894a
open Go.RowKit
attribute [local go_sem ↓] Go.wp_at_zero Go.wp_at_succ

/-! ### plain -/
/-- The days that lie in no suspension. -/
def kept (ss : List (Int × Int)) (ds : List Int) : List Int := ds.filter (fun d => (onS ss d).isNone)
theorem kept_yes {ss : List (Int × Int)} {zs : List Int} {k : Nat} (h : k < zs.length) (hn : onS ss (zs.getD k 0) = none) : kept ss (zs.take (k + 1)) = kept ss (zs.take k) ++ [zs.getD k 0] := by
  rw [take_snoc zs k h]
  unfold kept
  rw [List.filter_append, List.filter_cons_of_pos (by rw [hn]; rfl), List.filter_nil]
theorem kept_no {ss : List (Int × Int)} {zs : List Int} {k : Nat} (h : k < zs.length) (p : Int × Int) (hn : onS ss (zs.getD k 0) = some p) : kept ss (zs.take (k + 1)) = kept ss (zs.take k) := by
  rw [take_snoc zs k h]
  unfold kept
  rw [List.filter_append, List.filter_cons_of_neg (by rw [hn]; simp), List.filter_nil, List.append_nil]
theorem kept_len (ss : List (Int × Int)) (zs : List Int) : (kept ss zs).length ≤ zs.length := List.length_filter_le _ _
theorem on_end {ss : List (Int × Int)} {d : Int} (h : ∀ j, j < ss.length → (nth ss j).2 < d) : onS ss d = none := find_none (fun k hk => holds_no (.inr (h k hk)))
theorem on_at {ss : List (Int × Int)} {d : Int} {n : Nat} (hn : n < ss.length) (h : ∀ j, j < n → (nth ss j).2 < d) (hh : holds d (nth ss n) = true) : onS ss d = some (nth ss n) :=
  find_at n hn hh (fun k hk => holds_no (.inr (h k hk)))
theorem on_past {ss : List (Int × Int)} {d : Int} {n : Nat} (hw : wellB ss = true) (hn : n < ss.length) (h : ∀ j, j < n → (nth ss j).2 < d) (hd : ¬ (nth ss n).2 < d) (hh : holds d (nth ss n) = false) : onS ss d = none := by
  have hdf : d < (nth ss n).1 := by
    rcases Int.lt_or_le d (nth ss n).1 with h' | h'
    · exact h'
    · rw [holds_yes h' (by omega)] at hh; cases hh
  refine find_none (fun k hk => ?_)
  rcases Nat.lt_or_ge k n with hkn | hkn
  · exact holds_no (.inr (h k hkn))
  · refine holds_no (.inl ?_)
    by_cases he : n = k
    · subst he; exact hdf
    · have h1 := well_to hw n k (by omega) hk
      have h2 := (well_at hw n hn).1
      omega

/-- The slice of dates v is the call's own (the call began in w) and holds L; below, nothing has turned. -/
def OD (w wr : World) (v : Value) (L : List Int) : Prop := wr.ownsRow w.heap.size 29 1 v L.length (L.map (Value.int .i64)) ∧ Below w.heap.size w wr
theorem OD.alloc {w wr : World} {v : Value} {L : List Int} (h : OD w wr v L) (o : Obj) : OD w (wr.alloc o) v L := ⟨h.1.alloc o, h.2.alloc h.2.size o⟩
theorem OD.below {w wr wr' : World} {v : Value} {L : List Int} (h : OD w wr v L) (hb : Below wr.heap.size wr wr') : OD w wr' v L := ⟨own_below h.1 hb, h.2.trans (hb.mono h.2.size)⟩
theorem ints_oneCell (L : List Int) : ∀ u ∈ L.map (Value.int .i64), u.oneCell' = true := by
  intro u hu
  obtain ⟨x, _, rfl⟩ := List.mem_map.1 hu
  rfl

/-- 'append' of dates onto a row of dates of the call's own. -/
theorem app48 {ops : Array Oper} {rest : List Oper} {o : Oper} {a : Act} {Q : Exit → Act → World → Prop} (w : World) (hgd : o.guard = none) (s x : Operand)
    (ho : o.op = .call { callee := .builtin .append, args := #[s, x], argTypes := #[48, 48] })
    (w0 : World) (v : Value) (L : List Int) (hs : a.eval s = v) (hown : OD w0 w v L)
    (ad : Addr) (m c : Nat) (N : List Int) (hx : a.eval x = .slice (some ad) m c) (hm : N.length = m) (hnews : ∀ j u, (N.map (Value.int .i64))[j]? = some u → w.cell? (ad.add j) = some u)
    (hlen : L.length + N.length ≤ 1099511627776)
    (h : ∀ v' w', OD w0 w' v' (L ++ N) → wpList Try.prog ops Q rest (a.put o.dst v') w') : wpList Try.prog ops Q (o :: rest) a w := by
  obtain ⟨i0, hi, hz0, hz1, hz2⟩ := info_parts Try.info29
  refine wpList_append_own w hgd s x 48 ho w0.heap.size 29 i0 _ 1 8 Try.underlying48 hi hz0 hz1 hz2 rfl (by decide) v _ _ hs hown.1 ad m c (N.map (Value.int .i64)) hx (by simp [hm]) hnews (ints_oneCell _) (by unfold maxLen; omega) (by omega) hown.2.size ?_
  intro v' w' ho' hg _
  refine h v' w' ⟨?_, hown.2.grown hg hown.2.size (fun k h => (hown.1.lt k h).1)⟩
  rw [List.length_append, hm, List.map_append]
  exact ho'

theorem suspend_none (v : Value) (a : Option Addr) (cap : Nat) (w : World) : Calls Try.prog 23 #[v, .slice a 0 cap] w fun e w' => e = .returned v ∧ w' = w := by
  go_enter Try.func23, Try.ntmps23
  go_wp2
  go_ret
  exact ⟨rfl, rfl⟩

set_option maxHeartbeats 4000000 in
theorem suspend_some (cv : Value) (zs : List Int) (f t : Int) (sv : Value) (ss : List (Int × Int)) (w : World) (hc : Cal w cv zs f t) (hs : Prs w sv ss) (hlz : zs.length ≤ 1073741824) (hls : ss.length ≤ 1073741824)
    (hne : 0 < ss.length) (hwell : wellB ss = true) (hasc : Asc zs) :
    Calls Try.prog 23 #[cv, sv] w fun e w' => ∃ v', e = .returned v' ∧ Cal w' v' (kept ss zs) f t ∧ Below w.heap.size w w' := by
  obtain ⟨i0, hi, hz0, hz1, hz2⟩ := info_parts Try.info29
  obtain ⟨B, dv, rfl, hblk, hdv⟩ := hc
  have hB : B < w.heap.size := by
    rcases Nat.lt_or_ge B w.heap.size with h' | h'
    · exact h'
    · rw [Array.getElem?_eq_none h'] at hblk; cases hblk
  have k0 := cell_of_row w B 0 _ _ _ hblk
  have k1 := cell_of_row w B 1 _ _ _ hblk
  have k2 := cell_of_row w B 2 _ _ _ hblk
  simp at k0 k1 k2
  obtain ⟨a, cap, rfl, _, hd0⟩ := hdv
  obtain ⟨sa, scap, rfl, _, hs0⟩ := hs
  obtain ⟨sb, soff, hsx, hsc⟩ := hs0 hne
  subst hsx
  have HD0 := hide hd0
  have HSC := hide hsc
  have HW := hide hwell
  have HA := hide hasc
  have hlz' : zs.length ≤ maxLen := by unfold maxLen; omega
  clear hd0 hs0 hsc hwell hasc hblk
  go_enter Try.func23, Try.ntmps23
  go_wp2_with (at_make; refine wpList_make_own _ rfl _ _ 48 rfl w.heap.size 29 i0 _ 1 Try.underlying48 hi hz0 hz1 _ _ _ zs.length rfl rfl rfl (by rw [hz2]; omega) hlz' (Nat.le_refl _) ?_; intro w1 hown1 hgrow1; have hb0 : Below w.heap.size w w1 := (Below.refl _ _).grown hgrow1 (Nat.le_refl _) (fun k h => by cases h); have k01 := (hb0.cell (p := ⟨B, 0, none⟩) hB).trans k0)
  have HO1 : Hid (OD w w1 (.slice (some ⟨w.heap.size, 0, none⟩) 0 zs.length) (kept ss (zs.take 0))) := ⟨hown1, hb0⟩
  clear hown1 hgrow1 hb0 k01
  go_loopw [5, 6, 24] (fun v n i wr => ∃ k nx : Nat, k ≤ zs.length ∧ nx ≤ ss.length ∧ n = .int .i64 nx ∧ i = .int .i64 k ∧ OD w wr v (kept ss (zs.take k)) ∧ Hid (∀ j, j < nx → ∀ q, k ≤ q → q < zs.length → (nth ss j).2 < zs.getD q 0)) (fun _ _ i _ => zs.length - (intOf i).toNat)
  case atStart => exact ⟨0, 0, Nat.zero_le _, Nat.zero_le _, rfl, rfl, HO1.out, fun j h => by omega⟩
  case round =>
    obtain ⟨k, nx, hk, hnx, rfl, rfl, hod, HN⟩ := hrel
    clear HO1
    by_cases hlt : k < zs.length
    · obtain ⟨b, off, hx, hcc⟩ := HD0.out (by omega)
      subst hx
      have hlb : b < w.heap.size := World.block_lt_of_cell? w _ (hcc k hlt)
      have hsb : sb < w.heap.size := World.block_lt_of_cell? w _ (HSC.out 0 hne).1
      have c0 := (hod.2.cell (p := ⟨b, _, none⟩) hlb).trans (hcc k hlt)
      have HSW := hide (fun j hj => And.intro ((hod.2.cell (p := ⟨sb, _, none⟩) hsb).trans (HSC.out j hj).1) ((hod.2.cell (p := ⟨sb, _, none⟩) hsb).trans (HSC.out j hj).2))
      have hkl := kept_len ss (zs.take k)
      rw [List.length_take] at hkl
      have HOD := hide hod
      have hszo := hod.2.size
      have hN0 : ∀ j, j < nx → (nth ss j).2 < zs.getD k 0 := fun j hj => HN.out j hj k (Nat.le_refl _) hlt
      have hNext : ∀ m, (∀ j, j < m → (nth ss j).2 < zs.getD k 0) → ∀ j, j < m → ∀ q, k + 1 ≤ q → q < zs.length → (nth ss j).2 < zs.getD q 0 := fun m hm j hj q hq1 hq2 => by
        have := HA.out.lt k q (by omega) hq2
        have := hm j hj
        omega
      have hKY := @kept_yes ss zs k hlt
      have hKN := @kept_no ss zs k hlt
      generalize zs.getD k 0 = d at *
      have HN0 := hide hN0
      have HNX := hide hNext
      have HKY := hide hKY
      have HKN := hide hKN
      obtain ⟨wo, rfl⟩ : ∃ x : World, x = wr := ⟨_, rfl⟩
      have g0 : (0 : Int) ≤ (k : Int) := by omega
      have g1 : (k : Int) < (zs.length : Int) := by omega
      clear hcc hod hN0 hNext hKY hKN HD0 HN HA
      go_wp2_with fail
      have hbx : (wo.alloc (.cells #[.int .i64 d] 29)).heap[wo.heap.size]? = some (.cells #[.int .i64 d] 29 (0, 0)) := heap_alloc_new wo _
      have HBX := hide hbx
      clear hbx c0
      go_loopw [6] (fun n wr => ∃ m : Nat, m ≤ ss.length ∧ n = .int .i64 m ∧ Hid (∀ j, j < m → (nth ss j).2 < d) ∧ Below (wo.heap.size + 1) (wo.alloc (.cells #[.int .i64 d] 29)) wr) (fun n _ => ss.length - (intOf n).toNat)
      case atStart => exact ⟨nx, hnx, rfl, HN0, Below.refl _ _⟩
      case round =>
        obtain ⟨m, hm, rfl, HM, hb⟩ := hrel
        have hcb : wr.cell? ⟨wo.heap.size, 0, none⟩ = some (.int .i64 d) := by
          rw [hb.cell (p := ⟨wo.heap.size, 0, none⟩) (by simp), cell_of_row _ _ _ _ _ _ HBX.out]; rfl
        have hbo : Below wo.heap.size wo wr := (one_below wo _).trans (hb.mono (by omega))
        have hszr : wo.heap.size + 1 ≤ wr.heap.size := by have := hb.size; simpa using this
        have HB := hide hb
        have HBO := hide hbo
        obtain ⟨wi, rfl⟩ : ∃ x : World, x = wr := ⟨_, rfl⟩
        by_cases hml : m < ss.length
        · have hsbo : sb < wo.heap.size := by omega
          have c1 := (hbo.cell (p := ⟨sb, _, none⟩) hsbo).trans (HSW.out m hml).1
          have c2 := (hbo.cell (p := ⟨sb, _, none⟩) hsbo).trans (HSW.out m hml).2
          have hStep : (nth ss m).2 < d → ∀ j, j < m + 1 → (nth ss j).2 < d := fun h j hj => by
            by_cases he : j = m
            · subst he; exact h
            · exact HM.out j (by omega)
          have hAt := fun h => @on_at ss d m hml HM.out h
          have hPast := fun h1 h2 => @on_past ss d m HW.out hml HM.out h1 h2
          change (ss.getD m (0, 0)).2 < d → _ at hStep
          change holds d (ss.getD m (0, 0)) = true → onS ss d = some (ss.getD m (0, 0)) at hAt
          change ¬ (ss.getD m (0, 0)).2 < d → holds d (ss.getD m (0, 0)) = false → onS ss d = none at hPast
          generalize ss.getD m (0, 0) = pr at *
          obtain ⟨f', t'⟩ := pr
          simp only at c1 c2 hStep hPast
          have HST := hide hStep
          have HAT := hide hAt
          have HPS := hide hPast
          have g2 : (0 : Int) ≤ (m : Int) := by omega
          have g3 : (m : Int) < (ss.length : Int) := by omega
          clear hStep hAt hPast hb hbo HN0
          go_wp2_with fail
          go_region_held3 (fun w' => w'.cell? ⟨sb, soff + m * 2 + 1, none⟩ = some (.int .i64 t') ∧ w'.cell? ⟨wo.heap.size, 0, none⟩ = some (.int .i64 d))
            (first | go_keep | (go_split_ands; refine ⟨?_, ?_⟩ <;> (rw [hb1.cell (by simp; omega)]; assumption)))
            ((go_at_call 34; refine (before_any t' d _).mono ?_; rintro e w1 ⟨rfl, hb1⟩))
          have hb1' := below_of_drew hb1
          have HB2 := hide (HB.out.trans (hb1'.mono hszr))
          have HBO2 := hide (HBO.out.trans (hb1'.mono HBO.out.size))
          have hszw : wo.heap.size + 1 ≤ w1.heap.size := Nat.le_trans hszr hb1'.size
          have c1' := (hb1'.cell (p := ⟨sb, soff + m * 2, none⟩) (by simp; omega)).trans c1
          have c2' := (hb1'.cell (p := ⟨sb, soff + m * 2 + 1, none⟩) (by simp; omega)).trans c2
          have cb' := (hb1'.cell (p := ⟨wo.heap.size, 0, none⟩) (by simp; omega)).trans hcb
          clear hb1 hb1' HB HBO c1 c2 hcb
          by_cases htd : t' < d
          · have hd : decide (t' < d) = true := decide_eq_true htd
            have HN := hide (HST.out htd)
            clear HST HAT HPS HM
            go_wp2_with fail
            go_roundw
            case rel => exact ⟨m + 1, by omega, by go_num, HN, HB2.out⟩
            case measure => simp [intOf]; omega
          · have hd : decide (t' < d) = false := decide_eq_false htd
            have hme : ((m : Int) == (ss.length : Int)) = false := by simp; omega
            clear HST HB2
            go_wp2_with fail
            obtain ⟨wj, rfl⟩ : ∃ x : World, x = w1 := ⟨_, rfl⟩
            go_region_held3 (fun w' => w'.cell? ⟨sb, soff + m * 2, none⟩ = some (.int .i64 f') ∧ w'.cell? ⟨sb, soff + m * 2 + 1, none⟩ = some (.int .i64 t') ∧ w'.cell? ⟨wo.heap.size, 0, none⟩ = some (.int .i64 d))
              (first | go_keep | (go_split_ands; refine ⟨?_, ?_, ?_⟩ <;> (rw [hb1.cell (by simp; omega)]; assumption)))
              ((go_at_call 35; refine (contains_any f' t' d _).mono ?_; rintro e w2 ⟨rfl, hb1⟩))
            have hb1' := below_of_drew hb1
            have hszx : wo.heap.size + 1 ≤ w2.heap.size := Nat.le_trans hszw hb1'.size
            have HBO3 := hide (HBO2.out.trans (hb1'.mono HBO2.out.size))
            have cb2 := (hb1'.cell (p := ⟨wo.heap.size, 0, none⟩) (by simp; omega)).trans cb'
            clear hb1 hb1' HBO2 c1' c2' cb'
            have HOD2 := hide (HOD.out.below HBO3.out)
            cases hh : holds d (f', t') with
            | true =>
              have HR := hide (HKN.out _ (HAT.out hh))
              have HX := hide (HNX.out m HM.out)
              clear hh HAT HPS
              go_wp2_with fail
              go_roundw
              case rel => exact ⟨k + 1, m, by omega, hm, rfl, by go_num, (by rw [HR.out]; exact HOD2.out), HX⟩
              case measure => simp [intOf]; omega
            | false =>
              have HR := hide (HKY.out (HPS.out htd hh))
              have HX := hide (HNX.out m HM.out)
              clear hh HAT HPS
              go_wp2_with (at_builtin; refine app48 _ rfl (.tmp 58) (.tmp 60) rfl w _ _ rfl (HOD2.out.alloc _) ⟨w2.heap.size, 0, none⟩ 1 1 [d] rfl rfl (World.news_of_block (heap_alloc_new _ _)) (by simp; omega) ?_; intro v3 w3 hol3)
              go_roundw
              case rel => exact ⟨k + 1, m, by omega, hm, rfl, by go_num, (by rw [HR.out]; exact hol3), HX⟩
              case measure => simp [intOf]; omega
        · obtain rfl : m = ss.length := by omega
          have hd : decide ((ss.length : Int) < (ss.length : Int)) = false := decide_eq_false (by omega)
          have HR := hide (HKY.out (on_end HM.out))
          have HX := hide (HNX.out _ HM.out)
          have HOD2 := hide (HOD.out.below HBO.out)
          clear HB hb hbo HBO HN0
          go_wp2_with fail
          go_quiet (fail)
          go_wp2_with fail
          go_quiet (fail)
          go_wp2_with (at_builtin; refine app48 _ rfl (.tmp 58) (.tmp 60) rfl w _ _ rfl ((HOD2.out.below (below_drewN (Below.refl _ _) _)).alloc _) ⟨wi.heap.size, 0, none⟩ 1 1 [d] rfl rfl (World.news_of_block (heap_alloc_new _ _)) (by simp; omega) ?_; intro v3 w3 hol3)
          go_roundw
          case rel => exact ⟨k + 1, ss.length, by omega, hm, rfl, by go_num, (by rw [HR.out]; exact hol3), HX⟩
          case measure => simp [intOf]; omega
    · have k01 := (hod.2.cell (p := ⟨B, 1, none⟩) hB).trans k1
      have k02 := (hod.2.cell (p := ⟨B, 2, none⟩) hB).trans k2
      have e : zs.take k = zs := List.take_of_length_le (by omega)
      rw [e] at hod
      have HOD := hide hod
      obtain ⟨a', c', hform⟩ := own_form hod.1
      subst hform
      clear hod HN HD0 HA
      go_wp2_with fail
      go_ret
      refine ⟨_, rfl, ⟨wr.heap.size, _, rfl, heap_alloc_new _ _, (Ints.of_own HOD.out.1).below (one_below _ _)⟩, HOD.out.2.alloc HOD.out.2.size _⟩

end Go.Proofs.Qxb6601894a
