/-
  Seat b6003131a: serialOrder, ZZSerialOrder.
-/
import Derived.Test.Qxb6003131aBase
import Derived.Deep.DrawnRows
import Derived.Deep.AppendLies
namespace Go.Proofs.Qxb6003131a
open Go.RowKit
attribute [local go_sem ↓] Go.wp_at_zero Go.wp_at_succ

theorem num_le (c : Int) (ss : List Int) (k : Nat) : (Pl.idxs c ss k).length ≤ k := by
  unfold Pl.idxs
  rw [List.length_map]
  exact Nat.le_trans (List.length_filter_le _ _) (by simp)

/-- The slice v holds L; below, nothing has turned since w; where there is a slot at all, the row is the call's own. -/
structure GV (w wr : World) (n : Nat) (v : Value) (L : List Int) : Prop where
  nums : Nums .i64 wr v L
  below : Below w.heap.size w wr
  own : 0 < n → wr.ownsRow w.heap.size 3 1 v L.length (L.map (Value.int .i64))
theorem GV.alloc {w wr : World} {n : Nat} {v : Value} {L : List Int} (h : GV w wr n v L) (o : Obj) : GV w (wr.alloc o) n v L :=
  ⟨h.nums.below ((Below.refl _ _).alloc (Nat.le_refl _) o), h.below.alloc h.below.size o, fun hn => (h.own hn).alloc o⟩
theorem GV.form {w wr : World} {n : Nat} {v : Value} {L : List Int} (h : GV w wr n v L) : ∃ a c, v = .slice a L.length c := by
  obtain ⟨a, c, h, _⟩ := h.nums
  exact ⟨a, c, h⟩

/-- 'append' of one number onto it. -/
theorem app1 {ops : Array Oper} {rest : List Oper} {o : Oper} {a : Act} {Q : Exit → Act → World → Prop} (w : World) (hgd : o.guard = none) (s x : Operand)
    (ho : o.op = .call { callee := .builtin .append, args := #[s, x], argTypes := #[22, 22] })
    (w0 : World) (n : Nat) (v : Value) (L : List Int) (hs : a.eval s = v) (hg : GV w0 w n v L) (hn : 0 < n)
    (ad : Addr) (y : Int) (hx : a.eval x = .slice (some ad) 1 1) (hnews : ∀ j u, [Value.int .i64 y][j]? = some u → w.cell? (ad.add j) = some u)
    (hlen : L.length + 1 ≤ 1099511627776)
    (h : ∀ v' w', GV w0 w' n v' (L ++ [y]) → wpList Try.prog ops Q rest (a.put o.dst v') w') : wpList Try.prog ops Q (o :: rest) a w := by
  obtain ⟨i0, hi, hz0, hz1, hz2⟩ := info_parts Try.info3
  have hown := hg.own hn
  refine wpList_append_own w hgd s x 22 ho w0.heap.size 3 i0 (.int .i64 0) 1 8 Try.underlying22 hi hz0 hz1 hz2 rfl (by decide) v _ _ hs hown ad 1 1 [.int .i64 y] hx rfl hnews (by intro u hu; simp at hu; subst hu; rfl) (by unfold maxLen; omega) (by omega) hg.below.size ?_
  intro v' w' ho' hgr _
  have ho2 : w'.ownsRow w0.heap.size 3 1 v' (L ++ [y]).length ((L ++ [y]).map (Value.int .i64)) := by
    rw [List.length_append, List.map_append]
    exact ho'
  exact h v' w' ⟨Nums.of_own ho2, hg.below.grown hgr hg.below.size (fun k h => (hown.lt k h).1), fun _ => ho2⟩

set_option maxHeartbeats 4000000 in
theorem order_any (a : Option Addr) (zs : List Int) (sv : Value) (ss : List Int) (w : World) (hv : Nums .i64 w (.slice a zs.length zs.length) zs) (hs : Nums .u8 w sv ss) (hl : zs.length ≤ 1073741824) (hls : ss.length ≤ 1073741824) :
    Calls Try.prog 15 #[.slice a zs.length zs.length, sv] w fun e w' => ∃ v', e = .returned v' ∧ Nums .i64 w' v' (zs ++ Pl.ord ss ss.length) ∧ Below w.heap.size w w' := by
  have HG : Hid (Calls Try.prog 17 #[.slice a zs.length zs.length, .int .i64 ss.length] w fun e w' => ∃ v, e = .returned v ∧ GV w w' ss.length v zs) := by
    by_cases h0 : 0 < ss.length
    · refine (grow_grow a zs ss.length w hv hl hls h0).mono ?_
      rintro e w' ⟨v, rfl, ho, hb⟩
      exact ⟨v, rfl, Nums.of_own ho, hb, fun _ => ho⟩
    · have hz : ((ss.length : Nat) : Int) = 0 := by omega
      unfold Hid
      rw [hz]
      refine (grow_room a zs.length w).mono ?_
      rintro e w' ⟨rfl, rfl⟩
      exact ⟨_, rfl, hv, Below.refl _ _, fun h => absurd h h0⟩
  obtain ⟨sa, scap, rfl, _, hc0⟩ := hs
  have HC0 := hide hc0
  clear hv hc0
  go_enter Try.func15, Try.ntmps15
  go_wp2_with fail
  refine HG.out.mono ?_
  rintro e w1 ⟨v1, rfl, hg1⟩
  clear HG
  have HG0 : Hid (GV w w1 ss.length v1 (zs ++ Pl.idxs 2 ss 0)) := by unfold Hid; rw [Pl.idxs_zero, List.append_nil]; exact hg1
  clear hg1
  go_wp2_with fail
  go_loopw [0, 18] (fun v i wr => ∃ k : Nat, k ≤ ss.length ∧ i = .int .i64 k ∧ GV w wr ss.length v (zs ++ Pl.idxs 2 ss k)) (fun _ i _ => ss.length - (intOf i).toNat)
  case atStart => exact ⟨0, Nat.zero_le _, rfl, HG0.out⟩
  case round =>
    obtain ⟨k, hk, rfl, hg⟩ := hrel
    clear HG0
    by_cases hlt : k < ss.length
    · obtain ⟨b, off, hx, hc⟩ := HC0.out (by omega)
      subst hx
      have hlb : b < w.heap.size := World.block_lt_of_cell? w _ (hc k hlt)
      have c0 := (hg.below.cell (p := ⟨b, _, none⟩) hlb).trans (hc k hlt)
      have hY := @Pl.idxs_yes 2 ss k
      have hN := @Pl.idxs_no 2 ss k
      have hnl := num_le 2 ss k
      generalize ss.getD k 0 = y at *
      have HY := hide hY
      have HN := hide hN
      have HGV := hide hg
      have hlen : (zs ++ Pl.idxs 2 ss k).length + 1 ≤ 1099511627776 := by rw [List.length_append]; omega
      have HLEN := hide hlen
      have g0 : (0 : Int) ≤ (k : Int) := by omega
      have g1 : (k : Int) < (ss.length : Int) := by omega
      clear hY hN hg hc hlen hnl
      by_cases hq : y = 2
      · have hq' : (y == 2) = true := by simp [hq]
        have HE := hide (HY.out hq)
        clear hq HY HN HC0
        go_wp2_with (at_builtin; refine app1 _ rfl (.tmp 25) (.tmp 27) rfl w ss.length _ _ rfl (HGV.out.alloc _) (by omega) ⟨wr.heap.size, 0, none⟩ k rfl (World.news_of_block (heap_alloc_new _ _)) HLEN.out ?_; intro v3 w3 hg3)
        go_roundw
        case rel => exact ⟨k + 1, by omega, by go_num, by rw [HE.out, ← List.append_assoc]; exact hg3⟩
        case measure => simp [intOf]; omega
      · have hq' : (y == 2) = false := by simp [hq]
        have HE := hide (HN.out hq)
        clear hq HY HN HC0
        go_wp2_with fail
        go_roundw
        case rel => exact ⟨k + 1, by omega, by go_num, by rw [HE.out]; exact HGV.out⟩
        case measure => simp [intOf]; omega
    · obtain rfl : k = ss.length := by omega
      clear hlt hk
      obtain ⟨H, hH⟩ : ∃ H, zs ++ Pl.idxs 2 ss ss.length = H := ⟨_, rfl⟩
      have hHl : H.length ≤ 2147483648 := by have := num_le 2 ss ss.length; rw [← hH, List.length_append]; omega
      rw [hH] at hg
      have HH := hide hH
      clear hH
      have HG0 : Hid (GV w wr ss.length u0 (H ++ ([] : List Int).reverse)) := by unfold Hid; rw [List.reverse_nil, List.append_nil]; exact hg
      clear hg
      obtain ⟨wa, rfl⟩ : ∃ x : World, x = wr := ⟨_, rfl⟩
      go_wp2_with fail
      go_loopw [0, 7] (fun v i wr => ∃ (p : Nat) (T : List Int), p ≤ ss.length ∧ i = .int .i64 ((p : Int) - 1) ∧ Hid (Pl.idxs 3 ss ss.length = Pl.idxs 3 ss p ++ T) ∧ GV w wr ss.length v (H ++ T.reverse)) (fun _ i _ => (intOf i + 1).toNat)
      case atStart => exact ⟨ss.length, [], Nat.le_refl _, by go_num, by unfold Hid; rw [List.append_nil], HG0.out⟩
      case round =>
        obtain ⟨p, T, hk, rfl, HT, hg⟩ := hrel
        clear HG0
        cases p with
        | succ k =>
          have hlt : k < ss.length := by omega
          have ek : ((k + 1 : Nat) : Int) - 1 = (k : Int) := by omega
          rw [ek]
          obtain ⟨b, off, hx, hc⟩ := HC0.out (by omega)
          subst hx
          have hlb : b < w.heap.size := World.block_lt_of_cell? w _ (hc k hlt)
          have c0 := (hg.below.cell (p := ⟨b, _, none⟩) hlb).trans (hc k hlt)
          have hY := @Pl.idxs_yes 3 ss k
          have hN := @Pl.idxs_no 3 ss k
          generalize ss.getD k 0 = y at *
          have HY := hide hY
          have HN := hide hN
          have HGV := hide hg
          have hTl : T.length ≤ ss.length := by have h1 := num_le 3 ss ss.length; rw [HT.out, List.length_append] at h1; omega
          have hlen : (H ++ T.reverse).length + 1 ≤ 1099511627776 := by rw [List.length_append, List.length_reverse]; omega
          have HLEN := hide hlen
          have g0 : (0 : Int) ≤ (k : Int) := by omega
          have g1 : (k : Int) < (ss.length : Int) := by omega
          clear hY hN hg hc hlen hTl ek
          by_cases hq : y = 3
          · have hq' : (y == 3) = true := by simp [hq]
            have HE : Hid (Pl.idxs 3 ss ss.length = Pl.idxs 3 ss k ++ ((k : Int) :: T)) := by unfold Hid; rw [HT.out, HY.out hq, List.append_assoc]; rfl
            clear hq HY HN HC0 HT
            go_wp2_with (at_builtin; refine app1 _ rfl (.tmp 42) (.tmp 44) rfl w ss.length _ _ rfl (HGV.out.alloc _) (by omega) ⟨wr.heap.size, 0, none⟩ k rfl (World.news_of_block (heap_alloc_new _ _)) HLEN.out ?_; intro v3 w3 hg3)
            go_roundw
            case rel => exact ⟨k, (k : Int) :: T, by omega, by go_num, HE, by rw [List.reverse_cons, ← List.append_assoc]; exact hg3⟩
            case measure => simp [intOf]
          · have hq' : (y == 3) = false := by simp [hq]
            have HE : Hid (Pl.idxs 3 ss ss.length = Pl.idxs 3 ss k ++ T) := by unfold Hid; rw [HT.out, HN.out hq]
            clear hq HY HN HC0 HT
            go_wp2_with fail
            go_roundw
            case rel => exact ⟨k, T, by omega, by go_num, HE, HGV.out⟩
            case measure => simp [intOf]
        | zero =>
          have ez : ((0 : Nat) : Int) - 1 = -1 := by omega
          rw [ez]
          clear ez
          have hT : T = Pl.idxs 3 ss ss.length := by have := HT.out; rw [Pl.idxs_zero, List.nil_append] at this; exact this.symm
          subst hT
          obtain ⟨H3, hH3⟩ : ∃ H3, H ++ (Pl.idxs 3 ss ss.length).reverse = H3 := ⟨_, rfl⟩
          have hHl3 : H3.length ≤ 4294967296 := by have := num_le 3 ss ss.length; rw [← hH3, List.length_append, List.length_reverse]; omega
          rw [hH3] at hg
          have HH3 := hide hH3
          clear hH3 HT hk
          obtain ⟨wb, rfl⟩ : ∃ x : World, x = wr := ⟨_, rfl⟩
          have HG0 : Hid (GV w wb ss.length u0 (H3 ++ Pl.idxs 0 ss 0)) := by unfold Hid; rw [Pl.idxs_zero, List.append_nil]; exact hg
          clear hg
          go_wp2_with fail
          go_loopw [0, 48] (fun v i wr => ∃ k : Nat, k ≤ ss.length ∧ i = .int .i64 k ∧ GV w wr ss.length v (H3 ++ Pl.idxs 0 ss k)) (fun _ i _ => ss.length - (intOf i).toNat)
          case atStart => exact ⟨0, Nat.zero_le _, rfl, HG0.out⟩
          case round =>
            obtain ⟨k, hk, rfl, hg⟩ := hrel
            clear HG0
            by_cases hlt : k < ss.length
            · obtain ⟨b, off, hx, hc⟩ := HC0.out (by omega)
              subst hx
              have hlb : b < w.heap.size := World.block_lt_of_cell? w _ (hc k hlt)
              have c0 := (hg.below.cell (p := ⟨b, _, none⟩) hlb).trans (hc k hlt)
              have hY := @Pl.idxs_yes 0 ss k
              have hN := @Pl.idxs_no 0 ss k
              have hnl := num_le 0 ss k
              generalize ss.getD k 0 = y at *
              have HY := hide hY
              have HN := hide hN
              have HGV := hide hg
              have hlen : (H3 ++ Pl.idxs 0 ss k).length + 1 ≤ 1099511627776 := by rw [List.length_append]; omega
              have HLEN := hide hlen
              have g0 : (0 : Int) ≤ (k : Int) := by omega
              have g1 : (k : Int) < (ss.length : Int) := by omega
              clear hY hN hg hc hlen hnl
              by_cases hq : y = 0
              · have hq' : (y == 0) = true := by simp [hq]
                have HE := hide (HY.out hq)
                clear hq HY HN HC0
                go_wp2_with (at_builtin; refine app1 _ rfl (.tmp 55) (.tmp 57) rfl w ss.length _ _ rfl (HGV.out.alloc _) (by omega) ⟨wr.heap.size, 0, none⟩ k rfl (World.news_of_block (heap_alloc_new _ _)) HLEN.out ?_; intro v3 w3 hg3)
                go_roundw
                case rel => exact ⟨k + 1, by omega, by go_num, by rw [HE.out, ← List.append_assoc]; exact hg3⟩
                case measure => simp [intOf]; omega
              · have hq' : (y == 0) = false := by simp [hq]
                have HE := hide (HN.out hq)
                clear hq HY HN HC0
                go_wp2_with fail
                go_roundw
                case rel => exact ⟨k + 1, by omega, by go_num, by rw [HE.out]; exact HGV.out⟩
                case measure => simp [intOf]; omega
            · obtain rfl : k = ss.length := by omega
              clear hlt hk
              obtain ⟨H4, hH4⟩ : ∃ H4, H3 ++ Pl.idxs 0 ss ss.length = H4 := ⟨_, rfl⟩
              have hHl4 : H4.length ≤ 8589934592 := by have := num_le 0 ss ss.length; rw [← hH4, List.length_append]; omega
              rw [hH4] at hg
              have HH4 := hide hH4
              clear hH4
              obtain ⟨wc, rfl⟩ : ∃ x : World, x = wr := ⟨_, rfl⟩
              have HG0 : Hid (GV w wc ss.length u0 (H4 ++ Pl.idxs 4 ss 0)) := by unfold Hid; rw [Pl.idxs_zero, List.append_nil]; exact hg
              clear hg
              go_wp2_with fail
              go_loopw [0, 62] (fun v i wr => ∃ k : Nat, k ≤ ss.length ∧ i = .int .i64 k ∧ GV w wr ss.length v (H4 ++ Pl.idxs 4 ss k)) (fun _ i _ => ss.length - (intOf i).toNat)
              case atStart => exact ⟨0, Nat.zero_le _, rfl, HG0.out⟩
              case round =>
                obtain ⟨k, hk, rfl, hg⟩ := hrel
                clear HG0
                by_cases hlt : k < ss.length
                · obtain ⟨b, off, hx, hc⟩ := HC0.out (by omega)
                  subst hx
                  have hlb : b < w.heap.size := World.block_lt_of_cell? w _ (hc k hlt)
                  have c0 := (hg.below.cell (p := ⟨b, _, none⟩) hlb).trans (hc k hlt)
                  have hY := @Pl.idxs_yes 4 ss k
                  have hN := @Pl.idxs_no 4 ss k
                  have hnl := num_le 4 ss k
                  generalize ss.getD k 0 = y at *
                  have HY := hide hY
                  have HN := hide hN
                  have HGV := hide hg
                  have hlen : (H4 ++ Pl.idxs 4 ss k).length + 1 ≤ 1099511627776 := by rw [List.length_append]; omega
                  have HLEN := hide hlen
                  have g0 : (0 : Int) ≤ (k : Int) := by omega
                  have g1 : (k : Int) < (ss.length : Int) := by omega
                  clear hY hN hg hc hlen hnl
                  by_cases hq : y = 4
                  · have hq' : (y == 4) = true := by simp [hq]
                    have HE := hide (HY.out hq)
                    clear hq HY HN HC0
                    go_wp2_with (at_builtin; refine app1 _ rfl (.tmp 69) (.tmp 71) rfl w ss.length _ _ rfl (HGV.out.alloc _) (by omega) ⟨wr.heap.size, 0, none⟩ k rfl (World.news_of_block (heap_alloc_new _ _)) HLEN.out ?_; intro v3 w3 hg3)
                    go_roundw
                    case rel => exact ⟨k + 1, by omega, by go_num, by rw [HE.out, ← List.append_assoc]; exact hg3⟩
                    case measure => simp [intOf]; omega
                  · have hq' : (y == 4) = false := by simp [hq]
                    have HE := hide (HN.out hq)
                    clear hq HY HN HC0
                    go_wp2_with fail
                    go_roundw
                    case rel => exact ⟨k + 1, by omega, by go_num, by rw [HE.out]; exact HGV.out⟩
                    case measure => simp [intOf]; omega
                · obtain rfl : k = ss.length := by omega
                  clear hlt hk
                  have hE : H4 ++ Pl.idxs 4 ss ss.length = zs ++ Pl.ord ss ss.length := by rw [← HH4.out, ← HH3.out, ← HH.out]; unfold Pl.ord; simp
                  rw [hE] at hg
                  have HGV := hide hg
                  clear hg hE HC0
                  go_wp2_with fail
                  go_ret
                  exact ⟨_, rfl, HGV.out.nums, HGV.out.below⟩

/-! ### ZZSerialOrder -/
set_option maxHeartbeats 1000000 in
theorem zz_any (a : Option Addr) (zs : List Int) (sv : Value) (ss : List Int) (w : World) (hv : Nums .i64 w (.slice a zs.length zs.length) zs) (hs : Nums .u8 w sv ss) (hl : zs.length ≤ 1073741824) (hls : ss.length ≤ 1073741824) :
    Calls Try.prog 9 #[.slice a zs.length zs.length, sv] w fun e w' => ∃ v', e = .returned v' ∧ Nums .i64 w' v' (zs ++ Pl.ord ss ss.length) ∧ Below w.heap.size w w' := by
  obtain ⟨i0, hi, hz0, hz1, hz2⟩ := info_parts Try.info41
  have HV := hide hv
  obtain ⟨sa, scap, rfl, _, hc0⟩ := hs
  have HC0 := hide hc0
  have hml : ss.length ≤ maxLen := by unfold maxLen; omega
  clear hv hc0
  go_enter Try.func9, Try.ntmps9
  go_wp2_with (at_make; refine wpList_make_full _ rfl _ _ 40 rfl w.heap.size 41 i0 (.int .u8 0) 1 Try.underlying40 hi hz0 hz1 _ _ _ _ ss.length rfl rfl rfl rfl (by rw [hz2]; omega) hml (Nat.le_refl _) ?_; intro w1 hown hgrow)
  have hown0 : w1.ownsRow w.heap.size 41 1 (.slice (some ⟨w.heap.size, 0, none⟩) ss.length ss.length) ss.length (part .u8 ss 0) := by
    have e : (madeCells (Value.int IntKind.u8 0).cells (ss.length * 1)).toList = part .u8 ss 0 := by
      rw [part_zero, Nat.mul_one]; exact toList_madeCells_one _ _
    rw [← e]; exact hown
  have hb0 : Below w.heap.size w w1 := (Below.refl _ _).grown hgrow (Nat.le_refl _) (fun k h => by cases h)
  clear hown hgrow
  go_loopw [6] (fun i wr => ∃ k : Nat, k ≤ ss.length ∧ i = .int .i64 k ∧ wr.ownsRow w.heap.size 41 1 (.slice (some ⟨w.heap.size, 0, none⟩) ss.length ss.length) ss.length (part .u8 ss k) ∧ Below w.heap.size w wr) (fun i _ => ss.length - (intOf i).toNat)
  case atStart => exact ⟨0, Nat.zero_le _, rfl, hown0, hb0⟩
  case round =>
    obtain ⟨k, hk, rfl, hown, hb⟩ := hrel
    clear hown0 hb0
    by_cases hlt : k < ss.length
    · obtain ⟨b, off, hx, hc⟩ := HC0.out (by omega)
      subst hx
      have hlt' := World.block_lt_of_cell? w _ (hc k hlt)
      have hcell : wr.cell? ⟨b, off + k, none⟩ = some (.int .u8 (ss.getD k 0)) := (hb.cell hlt').trans (hc k hlt)
      have hnew : wr.cell? ⟨w.heap.size, k, none⟩ = some (.int .u8 0) := (hown.cellAt k (by omega)).trans (part_at .u8 ss k hlt)
      have hfz : wr.frozen? ⟨w.heap.size, k, none⟩ = false := hown.frozenAt k
      have hst := hown.stored k (.int .u8 (ss.getD k 0))
      rw [part_set .u8 ss k hlt] at hst
      generalize ss.getD k 0 = y at hcell hst
      have HS := hide hst
      have HB := hide hb
      clear hst hc hlt' hown hb HC0
      go_wp2_with fail
      go_roundw
      case rel => exact ⟨k + 1, by omega, by go_num, HS.out.1, HB.out.setCell (by simp) _⟩
      case measure => simp [intOf]; omega
    · have hown2 : wr.ownsRow w.heap.size 41 1 (.slice (some ⟨w.heap.size, 0, none⟩) ss.length ss.length) ss.length (ss.map (Value.int .u8)) := by rw [← part_all .u8 ss k (by omega)]; exact hown
      have HO := hide (Nums.of_own hown2)
      have HB := hide hb
      have HV2 := hide (HV.out.below hb)
      clear hown hown2 hb HC0
      go_wp2_with fail
      refine (order_any a zs _ ss _ HV2.out HO.out hl hls).mono ?_
      rintro e w2 ⟨v2, rfl, hn2, hb2⟩
      have HN := hide hn2
      have HB2 := hide (HB.out.trans (hb2.mono HB.out.size))
      clear hn2 hb2
      go_wp2_with fail
      go_ret
      exact ⟨_, rfl, HN.out, HB2.out⟩

end Go.Proofs.Qxb6003131a
