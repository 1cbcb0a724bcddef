/-
  Seat b6003131a: the law FnSerialOrderMatchesRanks, walked.
-/
import Derived.Test.Qxb6003131aOrder
namespace Go.Proofs.Qxb6003131a
open Go.RowKit

/-- Block B holds the array (a, b, c, d). -/
def Arr (w : World) (B : Nat) (a b c d : Int) : Prop := w.heap[B]? = some (.cells #[.int .i64 a, .int .i64 b, .int .i64 c, .int .i64 d] 27 (0, 0))
section
variable {w w' : World} {B : Nat} {a b c d : Int}
theorem Arr.lt (h : Arr w B a b c d) : B < w.heap.size := (Array.getElem?_eq_some_iff.1 h).1
theorem Arr.c0 (h : Arr w B a b c d) : w.cell? ⟨B, 0, none⟩ = some (.int .i64 a) := by rw [cell_of_row w B 0 _ _ _ h]; rfl
theorem Arr.c1 (h : Arr w B a b c d) : w.cell? ⟨B, 1, none⟩ = some (.int .i64 b) := by rw [cell_of_row w B 1 _ _ _ h]; rfl
theorem Arr.c2 (h : Arr w B a b c d) : w.cell? ⟨B, 2, none⟩ = some (.int .i64 c) := by rw [cell_of_row w B 2 _ _ _ h]; rfl
theorem Arr.c3 (h : Arr w B a b c d) : w.cell? ⟨B, 3, none⟩ = some (.int .i64 d) := by rw [cell_of_row w B 3 _ _ _ h]; rfl
theorem Arr.fz (h : Arr w B a b c d) (j : Nat) : w.frozen? ⟨B, j, none⟩ = false := frozen_of_row w B j _ _ h
theorem Arr.s0 (h : Arr w B a b c d) (x : Int) : Arr (w.setCell ⟨B, 0, none⟩ (.int .i64 x)) B x b c d := heap_setCell_same w B 0 _ _ _ h
theorem Arr.s1 (h : Arr w B a b c d) (x : Int) : Arr (w.setCell ⟨B, 1, none⟩ (.int .i64 x)) B a x c d := heap_setCell_same w B 1 _ _ _ h
theorem Arr.s2 (h : Arr w B a b c d) (x : Int) : Arr (w.setCell ⟨B, 2, none⟩ (.int .i64 x)) B a b x d := heap_setCell_same w B 2 _ _ _ h
theorem Arr.s3 (h : Arr w B a b c d) (x : Int) : Arr (w.setCell ⟨B, 3, none⟩ (.int .i64 x)) B a b c x := heap_setCell_same w B 3 _ _ _ h
theorem Arr.far (h : Arr w B a b c d) {p : Addr} (hp : B ≠ p.block) (x : Value) : Arr (w.setCell p x) B a b c d := by
  unfold Arr
  rw [Below.heap_setCell w p x B hp]
  exact h
theorem Arr.below (h : Arr w B a b c d) {N : Nat} (hb : Below N w w') (hN : B < N) : Arr w' B a b c d := by
  unfold Arr
  rw [hb.block B hN]
  exact h
end
theorem own_far {w : World} {base : Nat} {e : TypeId} {size : Nat} {g n cap : Nat} {xs : List Value} (h : w.ownsRow base e size (.slice (some ⟨g, 0, none⟩) n cap) n xs) {p : Addr} (hp : g ≠ p.block) (x : Value) : (w.setCell p x).ownsRow base e size (.slice (some ⟨g, 0, none⟩) n cap) n xs := by
  refine ⟨h.1, ?_⟩
  rcases h.2 with ⟨h', _⟩ | ⟨g', cap', cur, h', hb, hg, rest⟩
  · simp at h'
  · simp only [Value.slice.injEq, Option.some.injEq, Addr.mk.injEq, and_true, true_and] at h'
    obtain ⟨rfl, rfl⟩ := h'
    exact .inr ⟨g, cap, cur, rfl, hb, by rw [Below.heap_setCell w p x g hp]; exact hg, rest⟩
theorem far_cell {w : World} {p : Addr} {x : Value} {B j : Nat} (h : B ≠ p.block) : (w.setCell p x).cell? ⟨B, j, none⟩ = w.cell? ⟨B, j, none⟩ := World.cell?_of_block (Below.heap_setCell w p x B h)
theorem far_froz {w : World} {p : Addr} {x : Value} {B j : Nat} (h : B ≠ p.block) : (w.setCell p x).frozen? ⟨B, j, none⟩ = w.frozen? ⟨B, j, none⟩ := World.frozen?_of_block (Below.heap_setCell w p x B h)
theorem size_set {w : World} {p : Addr} {x : Value} : (w.setCell p x).heap.size = w.heap.size := by simp [World.setCell]

/-- The serial's copy so far, with T more places. -/
def fill (zs : List Int) (T k : Nat) : List Int := zs.take k ++ List.replicate (zs.length - k + T) 0
theorem fill_zero (zs : List Int) (T : Nat) : (fill zs T 0).map (Value.int .i64) = List.replicate (zs.length + T) (.int .i64 0) := by simp [fill]
theorem fill_end (zs : List Int) (T : Nat) : fill zs T zs.length = zs ++ List.replicate T 0 := by simp [fill]
theorem fill_set (zs : List Int) (T k : Nat) (h : k < zs.length) : ((fill zs T k).map (Value.int .i64)).set k (.int .i64 (zs.getD k 0)) = (fill zs T (k + 1)).map (Value.int .i64) := by
  rw [← List.map_set]
  congr 1
  unfold fill
  rw [take_snoc zs k h]
  have e1 : zs.length - k + T = (zs.length - (k + 1) + T) + 1 := by omega
  rw [e1, List.replicate_succ]
  have e2 : (zs.take k).length = k := by simp; omega
  rw [List.set_append_right _ _ (by omega), e2, Nat.sub_self, List.set_cons_zero]
  simp
theorem fill_len (zs : List Int) (T k : Nat) (h : k ≤ zs.length) : (fill zs T k).length = zs.length + T := by
  unfold fill
  simp
  omega

set_option maxRecDepth 1000000 in
set_option maxHeartbeats 8000000 in
theorem law_any (v : Value) (zs : List Int) (u : Value) (ss : List Int) (w : World) (hv : Nums .i64 w v zs) (hlz : zs.length ≤ maxLen) (hu : Nums .u8 w u ss) (hls : ss.length ≤ maxLen) :
    Calls Try.prog 3 #[v, u] w fun e w' => e = .returned (.bool true) ∧ Below w.heap.size w w' := by
  obtain ⟨a, cap, rfl, hv'⟩ := hv
  have HV := hide (show Nums .i64 w (.slice a zs.length cap) zs from ⟨a, cap, rfl, hv'⟩)
  obtain ⟨sa, scap, rfl, hu'⟩ := hu
  have HU := hide (show Nums .u8 w (.slice sa ss.length scap) ss from ⟨sa, scap, rfl, hu'⟩)
  clear hv' hu'
  go_enter Try.func3, Try.ntmps3
  go_wp2_with fail
  refine (bytes5 a zs.length cap sa ss.length scap _ hlz hls).mono ?_
  rintro e w' ⟨⟨r, rfl⟩, rfl⟩
  unfold maxLen at hlz hls
  cases r with
  | false =>
    go_wp2_with fail
    go_ret
    exact ⟨rfl, Below.refl _ _⟩
  | true =>
    obtain ⟨W0, rfl⟩ : ∃ x : World, x = w' := ⟨_, rfl⟩
    by_cases h1 : 131072 < zs.length
    · go_wp2_with fail
      go_ret
      exact ⟨rfl, Below.refl _ _⟩
    have h1' : decide (131072 < zs.length) = false := decide_eq_false h1
    by_cases h2 : 1048576 < ss.length
    · go_wp2_with fail
      go_ret
      exact ⟨rfl, Below.refl _ _⟩
    have h2' : decide (1048576 < ss.length) = false := decide_eq_false h2
    by_cases h3 : 1048576 < 8 * zs.length + ss.length
    · go_wp2_with fail
      go_ret
      exact ⟨rfl, Below.refl _ _⟩
    go_wp2_with fail
    refine (ints_any _ zs _ HV.out (by omega)).mono ?_
    rintro e w1 ⟨za, rfl, hz1, hb1⟩
    have HU1 := hide (HU.out.below hb1)
    have HZ1 := hide hz1
    have HB1 := hide hb1
    clear hb1 hz1 HV HU
    go_wp2_with fail
    refine (byts_any _ ss _ HU1.out (by omega)).mono ?_
    rintro e w2 ⟨bv, rfl, hs2, hb2⟩
    have HZ2 := hide (HZ1.out.below hb2)
    have HS2 := hide hs2
    have HB2 := hide (HB1.out.trans (hb2.mono HB1.out.size))
    obtain ⟨ba, bcap, rfl, _, hbc⟩ := hs2
    have HBC := hide hbc
    clear hb2 HZ1 HU1 HB1 hbc h1' h2' h1 h2
    obtain ⟨zb, zcap, hzf, _, hzc⟩ := HZ2.out
    simp only [Value.slice.injEq] at hzf
    obtain ⟨rfl, _, rfl⟩ := hzf
    have HZC := hide hzc
    clear hzc
    have hn : ss.length ≤ 1048576 := by omega
    have hm : zs.length ≤ 131072 := by omega
    clear h3 hlz hls
    go_wp2_with fail
    have hA0 : Arr (w2.alloc (.cells #[.int .i64 0, .int .i64 0, .int .i64 0, .int .i64 0] 27)) w2.heap.size (Pl.num 2 ss 0 : Nat) (Pl.num 3 ss 0 : Nat) (Pl.num 0 ss 0 : Nat) (Pl.num 4 ss 0 : Nat) := heap_alloc_new w2 _
    have HA0 := hide hA0
    clear hA0
    go_loopw [6] (fun i wr => ∃ k : Nat, k ≤ ss.length ∧ i = .int .i64 k ∧ wr.heap.size = w2.heap.size + 1 ∧ Below w2.heap.size w2 wr ∧ Arr wr w2.heap.size (Pl.num 2 ss k : Nat) (Pl.num 3 ss k : Nat) (Pl.num 0 ss k : Nat) (Pl.num 4 ss k : Nat)) (fun i _ => ss.length - (intOf i).toNat)
    case atStart => exact ⟨0, Nat.zero_le _, rfl, by simp, (Below.refl _ _).alloc (Nat.le_refl _) _, HA0.out⟩
    case round =>
      obtain ⟨k, hk, rfl, hsz, hb, hA⟩ := hrel
      clear HA0
      have hsum := Pl.num_sum ss k
      by_cases hlt : k < ss.length
      · obtain ⟨b, off, hx, hc⟩ := HBC.out (by omega)
        subst hx
        have hlb : b < w2.heap.size := World.block_lt_of_cell? w2 _ (hc k hlt)
        have p0 := (hb.cell (p := ⟨b, _, none⟩) hlb).trans (hc k hlt)
        have y2 := @Pl.num_yes 2 ss k
        have n2 := @Pl.num_no 2 ss k
        have y3 := @Pl.num_yes 3 ss k
        have n3 := @Pl.num_no 3 ss k
        have y0 := @Pl.num_yes 0 ss k
        have n0 := @Pl.num_no 0 ss k
        have y4 := @Pl.num_yes 4 ss k
        have n4 := @Pl.num_no 4 ss k
        generalize ss.getD k 0 = y at *
        have Y2 := hide y2
        have N2 := hide n2
        have Y3 := hide y3
        have N3 := hide n3
        have Y0 := hide y0
        have N0 := hide n0
        have Y4 := hide y4
        have N4 := hide n4
        clear y2 n2 y3 n3 y0 n0 y4 n4 hc HBC
        generalize Pl.num 2 ss k = a2 at *
        generalize Pl.num 3 ss k = a3 at *
        generalize Pl.num 0 ss k = a0 at *
        generalize Pl.num 4 ss k = a4 at *
        have HA := hide hA
        have HB := hide hb
        have HSZ := hide hsz
        have c0 := hA.c0
        have c1 := hA.c1
        have c2 := hA.c2
        have c3 := hA.c3
        have f0 := hA.fz 0
        have f1 := hA.fz 1
        have f2 := hA.fz 2
        have f3 := hA.fz 3
        have g0 : (0 : Int) ≤ (k : Int) := by omega
        have g1 : (k : Int) < (ss.length : Int) := by omega
        obtain ⟨wo, rfl⟩ : ∃ x : World, x = wr := ⟨_, rfl⟩
        clear hA hb hsz HS2 HZC HZ2
        go_wp2_with fail
        refine (class_any y _).mono ?_
        rintro e wx ⟨rfl, rfl⟩
        obtain ⟨wo, rfl⟩ : ∃ x : World, x = wx := ⟨_, rfl⟩
        by_cases q2 : y = 2
        · have hcl : cls y = 0 := by rw [q2]; rfl
          rw [hcl]
          have E2 := hide (Y2.out q2)
          have E3 := hide (N3.out (by omega))
          have E0 := hide (N0.out (by omega))
          have E4 := hide (N4.out (by omega))
          clear hcl Y2 N2 Y3 N3 Y0 N0 Y4 N4 q2
          go_wp2_with fail
          go_roundw
          case rel => exact ⟨k + 1, by omega, by go_num, size_set.trans HSZ.out, HB.out.setCell (Nat.le_refl _) _, by rw [E2.out, E3.out, E0.out, E4.out]; exact HA.out.s0 ((a2 : Int) + 1)⟩
          case measure => simp [intOf]; omega
        · skip
          by_cases q3 : y = 3
          · have hcl : cls y = 1 := by rw [q3]; rfl
            rw [hcl]
            have E2 := hide (N2.out (by omega))
            have E3 := hide (Y3.out q3)
            have E0 := hide (N0.out (by omega))
            have E4 := hide (N4.out (by omega))
            clear hcl Y2 N2 Y3 N3 Y0 N0 Y4 N4 q2 q3
            go_wp2_with fail
            go_roundw
            case rel => exact ⟨k + 1, by omega, by go_num, size_set.trans HSZ.out, HB.out.setCell (Nat.le_refl _) _, by rw [E2.out, E3.out, E0.out, E4.out]; exact HA.out.s1 ((a3 : Int) + 1)⟩
            case measure => simp [intOf]; omega
          · skip
            by_cases q0 : y = 0
            · have hcl : cls y = 2 := by rw [q0]; rfl
              rw [hcl]
              have E2 := hide (N2.out (by omega))
              have E3 := hide (N3.out (by omega))
              have E0 := hide (Y0.out q0)
              have E4 := hide (N4.out (by omega))
              clear hcl Y2 N2 Y3 N3 Y0 N0 Y4 N4 q2 q3 q0
              go_wp2_with fail
              go_roundw
              case rel => exact ⟨k + 1, by omega, by go_num, size_set.trans HSZ.out, HB.out.setCell (Nat.le_refl _) _, by rw [E2.out, E3.out, E0.out, E4.out]; exact HA.out.s2 ((a0 : Int) + 1)⟩
              case measure => simp [intOf]; omega
            · skip
              by_cases q4 : y = 4
              · have hcl : cls y = 3 := by rw [q4]; rfl
                rw [hcl]
                have E2 := hide (N2.out (by omega))
                have E3 := hide (N3.out (by omega))
                have E0 := hide (N0.out (by omega))
                have E4 := hide (Y4.out q4)
                clear hcl Y2 N2 Y3 N3 Y0 N0 Y4 N4 q2 q3 q0 q4
                go_wp2_with fail
                go_roundw
                case rel => exact ⟨k + 1, by omega, by go_num, size_set.trans HSZ.out, HB.out.setCell (Nat.le_refl _) _, by rw [E2.out, E3.out, E0.out, E4.out]; exact HA.out.s3 ((a4 : Int) + 1)⟩
                case measure => simp [intOf]; omega
              · skip
                have hcl : cls y = -1 := by unfold cls; rw [if_neg q2, if_neg q3, if_neg q0, if_neg q4]
                rw [hcl]
                have E2 := hide (N2.out q2)
                have E3 := hide (N3.out q3)
                have E0 := hide (N0.out q0)
                have E4 := hide (N4.out q4)
                clear hcl Y2 N2 Y3 N3 Y0 N0 Y4 N4 q2 q3 q0 q4
                go_wp2_with fail
                go_roundw
                case rel => exact ⟨k + 1, by omega, by go_num, HSZ.out, HB.out, by rw [E2.out, E3.out, E0.out, E4.out]; exact HA.out⟩
                case measure => simp [intOf]; omega
      · obtain rfl : k = ss.length := by omega
        obtain ⟨i0, hi, hz0, hz1, hz2⟩ := info_parts Try.info3
        have hT := Pl.tab_zero zs ss ss.length
        have HT := hide hT
        clear hT
        obtain ⟨A2, e2⟩ : ∃ x, Pl.num 2 ss ss.length = x := ⟨_, rfl⟩
        obtain ⟨A3, e3⟩ : ∃ x, Pl.num 3 ss ss.length = x := ⟨_, rfl⟩
        obtain ⟨A0, e0⟩ : ∃ x, Pl.num 0 ss ss.length = x := ⟨_, rfl⟩
        obtain ⟨A4, e4⟩ : ∃ x, Pl.num 4 ss ss.length = x := ⟨_, rfl⟩
        rw [e2, e3, e0, e4] at hA hsum
        have E2 := hide e2
        have E3 := hide e3
        have E0 := hide e0
        have E4 := hide e4
        clear e2 e3 e0 e4 hlt hk
        obtain ⟨w3, rfl⟩ : ∃ x : World, x = wr := ⟨_, rfl⟩
        have hC3 : w2.heap.size < w3.heap.size := by omega
        have q0 : ∀ o, (w3.alloc o).cell? ⟨w2.heap.size, 0, none⟩ = some (.int .i64 A2) := fun o => (((Below.refl _ _).alloc (Nat.le_refl _) o).cell (p := ⟨w2.heap.size, 0, none⟩) hC3).trans hA.c0
        have q1 : ∀ o, (w3.alloc o).cell? ⟨w2.heap.size, 1, none⟩ = some (.int .i64 A3) := fun o => (((Below.refl _ _).alloc (Nat.le_refl _) o).cell (p := ⟨w2.heap.size, 1, none⟩) hC3).trans hA.c1
        have q2 : ∀ o, (w3.alloc o).cell? ⟨w2.heap.size, 2, none⟩ = some (.int .i64 A0) := fun o => (((Below.refl _ _).alloc (Nat.le_refl _) o).cell (p := ⟨w2.heap.size, 2, none⟩) hC3).trans hA.c2
        have q3 : ∀ o, (w3.alloc o).cell? ⟨w2.heap.size, 3, none⟩ = some (.int .i64 A4) := fun o => (((Below.refl _ _).alloc (Nat.le_refl _) o).cell (p := ⟨w2.heap.size, 3, none⟩) hC3).trans hA.c3
        have HA := hide hA
        have HB := hide hb
        have HSZ := hide hsz
        clear hA hb hsz
        have hml : zs.length + (A2 + A3 + A0 + A4) ≤ maxLen := by unfold maxLen; omega
        have hby : i0.bytes * (zs.length + (A2 + A3 + A0 + A4)) ≤ 281474976710656 := by rw [hz2]; omega
        have HBY := hide hby
        have HML := hide hml
        clear hby hml
        go_wp2_with (at_make; refine wpList_make_full _ rfl _ _ 22 rfl w2.heap.size 3 i0 (.int .i64 0) 1 Try.underlying22 hi hz0 hz1 _ _ _ _ (zs.length + (A2 + A3 + A0 + A4)) rfl rfl (by omega) (by omega) HBY.out HML.out (by simp; omega) ?_; intro w5 hown hgrow)
        obtain ⟨X, hX⟩ : ∃ X, X = (Obj.cells #[.int .i64 0, .int .i64 A2, .int .i64 ((A2 : Int) + A3), .int .i64 ((A2 : Int) + A3 + A0)] 27) := ⟨_, rfl⟩
        rw [← hX] at hown hgrow
        have hsX : (w3.alloc X).heap.size = w3.heap.size + 1 := by simp
        have hb5 : Below (w3.heap.size + 1) (w3.alloc X) w5 := (Below.refl _ _).grown hgrow (by rw [hsX]; exact Nat.le_refl _) (fun k h => by cases h)
        rw [hsX] at hown
        have hbX : Below w3.heap.size w3 (w3.alloc X) := (Below.refl _ w3).alloc (Nat.le_refl _) X
        have hAD : Arr w5 w3.heap.size 0 A2 ((A2 : Int) + A3) ((A2 : Int) + A3 + A0) := Arr.below (w := w3.alloc X) (by rw [hX]; exact heap_alloc_new w3 _) hb5 (by omega)
        have hAC : Arr w5 w2.heap.size A2 A3 A0 A4 := Arr.below (w := w3.alloc X) (Arr.below HA.out hbX hC3) hb5 (by omega)
        have hbw5 : Below w2.heap.size w2 w5 := HB.out.trans ((hbX.mono (by omega)).trans (hb5.mono (by omega)))
        have hown1 : w5.ownsRow w2.heap.size 3 1 (.slice (some ⟨w3.heap.size + 1, 0, none⟩) (zs.length + (A2 + A3 + A0 + A4)) (zs.length + (A2 + A3 + A0 + A4))) (zs.length + (A2 + A3 + A0 + A4)) ((fill zs (A2 + A3 + A0 + A4) 0).map (Value.int .i64)) := by
          have e : (madeCells (Value.int IntKind.i64 0).cells ((zs.length + (A2 + A3 + A0 + A4)) * 1)).toList = (fill zs (A2 + A3 + A0 + A4) 0).map (Value.int .i64) := by
            rw [fill_zero, Nat.mul_one]; exact toList_madeCells_one _ _
          rw [← e]; exact hown
        have hs5 : w3.heap.size + 1 < w5.heap.size := (hown1.lt _ rfl).2
        clear hown hgrow hX hsX hb5 hbX q0 q1 q2 q3 HA HB HSZ HBY HML
        have HAD := hide hAD
        have HAC := hide hAC
        have HBW5 := hide hbw5
        have HO1 := hide hown1
        clear hAD hAC hbw5 hown1
        have hNN : zs.length + (A2 + A3 + A0 + A4) ≤ 2000000 := by omega
        have HTT : Hid (zs ++ List.replicate (A2 + A3 + A0 + A4) 0 = Pl.tab zs ss ss.length 0) := by
          have := HT.out
          rw [E2.out, E3.out, E0.out, E4.out] at this
          exact this.symm
        clear HT
        generalize hTe : A2 + A3 + A0 + A4 = T at *
        generalize hNe : zs.length + T = N at *
        have HTE := hide hTe
        have HNE := hide hNe
        have hmN : zs.length ≤ N := by omega
        clear hTe hNe
        go_loopw [12] (fun i wr => ∃ k : Nat, k ≤ zs.length ∧ i = .int .i64 k ∧ wr.ownsRow w2.heap.size 3 1 (.slice (some ⟨w3.heap.size + 1, 0, none⟩) N N) N ((fill zs T k).map (Value.int .i64)) ∧ Below (w3.heap.size + 1) w5 wr) (fun i _ => zs.length - (intOf i).toNat)
        case atStart => exact ⟨0, Nat.zero_le _, rfl, HO1.out, Below.refl _ _⟩
        case round =>
          obtain ⟨k, hk, rfl, hown, hb⟩ := hrel
          clear HO1
          by_cases hlt : k < zs.length
          · obtain ⟨b, off, hx, hc⟩ := HZC.out (by omega)
            subst hx
            have hlb : b < w2.heap.size := World.block_lt_of_cell? w2 _ (hc k hlt)
            have hlb2 : b < w3.heap.size + 1 := by omega
            have p0 := ((hb.cell (p := ⟨b, _, none⟩) hlb2).trans (HBW5.out.cell (p := ⟨b, _, none⟩) hlb)).trans (hc k hlt)
            have hxl := hown.1
            obtain ⟨u, hu⟩ : ∃ u, ((fill zs T k).map (Value.int .i64))[k]? = some u := ⟨_, List.getElem?_eq_getElem (by omega)⟩
            have hnew : wr.cell? ⟨w3.heap.size + 1, k, none⟩ = some u := (hown.cellAt k (by omega)).trans hu
            have hfz : wr.frozen? ⟨w3.heap.size + 1, k, none⟩ = false := hown.frozenAt k
            have hst := (hown.stored k (.int .i64 (zs.getD k 0))).1
            rw [fill_set zs T k hlt] at hst
            generalize zs.getD k 0 = y at *
            have HS := hide hst
            have HB := hide hb
            have g0 : (0 : Int) ≤ (k : Int) := by omega
            have g1 : (k : Int) < (zs.length : Int) := by omega
            have g2 : (k : Int) < (N : Int) := by omega
            clear hst hc hown hb HZC hu hxl HBC HZ2 HS2
            go_wp2_with fail
            go_roundw
            case rel => exact ⟨k + 1, by omega, by go_num, HS.out, HB.out.setCell (Nat.le_refl _) _⟩
            case measure => simp [intOf]; omega
          · obtain rfl : k = zs.length := by omega
            rw [fill_end, HTT.out] at hown
            obtain ⟨w6, rfl⟩ : ∃ x : World, x = wr := ⟨_, rfl⟩
            have hs6 : w3.heap.size + 1 < w6.heap.size := (hown.lt _ rfl).2
            have HO6 := hide hown
            have HB6 := hide hb
            clear hown hb hlt hk HTT HZC
            go_wp2_with fail
            have hAF : Arr (w6.alloc (.cells #[.int .i64 0, .int .i64 0, .int .i64 0, .int .i64 0] 27)) w6.heap.size (Pl.num 2 ss 0 : Nat) (Pl.num 3 ss 0 : Nat) (Pl.num 0 ss 0 : Nat) (Pl.num 4 ss 0 : Nat) := heap_alloc_new w6 _
            have HAF := hide hAF
            clear hAF
            go_loopw [14] (fun i wr => ∃ k : Nat, k ≤ ss.length ∧ i = .int .i64 k ∧ wr.heap.size = w6.heap.size + 1 ∧ Below (w3.heap.size + 1) w5 wr ∧ wr.ownsRow w2.heap.size 3 1 (.slice (some ⟨w3.heap.size + 1, 0, none⟩) N N) N ((Pl.tab zs ss ss.length k).map (Value.int .i64)) ∧
              Arr wr w6.heap.size (Pl.num 2 ss k : Nat) (Pl.num 3 ss k : Nat) (Pl.num 0 ss k : Nat) (Pl.num 4 ss k : Nat)) (fun i _ => ss.length - (intOf i).toNat)
            case atStart => exact ⟨0, Nat.zero_le _, rfl, by simp, HB6.out.alloc (by omega) _, HO6.out.alloc _, HAF.out⟩
            case round =>
              obtain ⟨k, hk, rfl, hsz, hb, hown, hA⟩ := hrel
              clear HAF HO6
              by_cases hlt : k < ss.length
              · obtain ⟨b, off, hx, hc⟩ := HBC.out (by omega)
                subst hx
                have hlb : b < w2.heap.size := World.block_lt_of_cell? w2 _ (hc k hlt)
                have hlb2 : b < w3.heap.size + 1 := by omega
                have p0 := ((hb.cell (p := ⟨b, _, none⟩) hlb2).trans (HBW5.out.cell (p := ⟨b, _, none⟩) hlb)).trans (hc k hlt)
                have y2 := @Pl.num_yes 2 ss k
                have n2 := @Pl.num_no 2 ss k
                have y3 := @Pl.num_yes 3 ss k
                have n3 := @Pl.num_no 3 ss k
                have y0 := @Pl.num_yes 0 ss k
                have n0 := @Pl.num_no 0 ss k
                have y4 := @Pl.num_yes 4 ss k
                have n4 := @Pl.num_no 4 ss k
                have m2 := Pl.num_mono 2 ss (show k + 1 ≤ ss.length by omega)
                have m3 := Pl.num_mono 3 ss (show k + 1 ≤ ss.length by omega)
                have m0 := Pl.num_mono 0 ss (show k + 1 ≤ ss.length by omega)
                have m4 := Pl.num_mono 4 ss (show k + 1 ≤ ss.length by omega)
                have t2 := @Pl.tab_2 zs ss ss.length k hlt
                have t3 := @Pl.tab_3 zs ss ss.length k hlt
                have t0 := @Pl.tab_0 zs ss ss.length k hlt
                have t4 := @Pl.tab_4 zs ss ss.length k hlt
                have tn := @Pl.tab_other zs ss ss.length k
                rw [E2.out] at m2 t3 t0 t4
                rw [E3.out] at m3 t3 t0 t4
                rw [E0.out] at m0 t4
                rw [E4.out] at m4
                generalize ss.getD k 0 = y at *
                have Y2 := hide y2
                have N2 := hide n2
                have Y3 := hide y3
                have N3 := hide n3
                have Y0 := hide y0
                have N0 := hide n0
                have Y4 := hide y4
                have N4 := hide n4
                have T2 := hide t2
                have T3 := hide t3
                have T0 := hide t0
                have T4 := hide t4
                have TN := hide tn
                have M2 := hide m2
                have M3 := hide m3
                have M0 := hide m0
                have M4 := hide m4
                clear y2 n2 y3 n3 y0 n0 y4 n4 t2 t3 t0 t4 tn m2 m3 m0 m4 hc HBC
                generalize Pl.num 2 ss k = a2 at *
                generalize Pl.num 3 ss k = a3 at *
                generalize Pl.num 0 ss k = a0 at *
                generalize Pl.num 4 ss k = a4 at *
                have hAC := HAC.out.below hb (by omega)
                have hAD := HAD.out.below hb (by omega)
                have r1 := hAC.c1
                have d0 := hAD.c0
                have d1 := hAD.c1
                have d2 := hAD.c2
                have d3 := hAD.c3
                have c0 := hA.c0
                have c1 := hA.c1
                have c2 := hA.c2
                have c3 := hA.c3
                have HA := hide hA
                have HB := hide hb
                have HSZ := hide hsz
                have HOW := hide hown
                have hxl := hown.1
                have hNT := HNE.out
                have hTA := HTE.out
                have hEF : w3.heap.size + 1 ≠ w6.heap.size := by omega
                have g0 : (0 : Int) ≤ (k : Int) := by omega
                have g1 : (k : Int) < (ss.length : Int) := by omega
                obtain ⟨wo, rfl⟩ : ∃ x : World, x = wr := ⟨_, rfl⟩
                have HEF := hide hEF
                have HXL := hide hxl
                have HNT := hide hNT
                have HTA := hide hTA
                clear hA hb hsz hown hAC hAD HAC HAD HS2 HZ2 HBW5 HB6 hxl hNT hTA hEF HNE HTE
                go_wp2_with fail
                refine (class_any y _).mono ?_
                rintro e wx ⟨rfl, rfl⟩
                obtain ⟨wo, rfl⟩ : ∃ x : World, x = wx := ⟨_, rfl⟩
                by_cases q2 : y = 2
                · have hcl : cls y = 0 := by rw [q2]; rfl
                  rw [hcl]
                  have E2' := hide (Y2.out q2)
                  have E3' := hide (N3.out (by omega))
                  have E0' := hide (N0.out (by omega))
                  have E4' := hide (N4.out (by omega))
                  have TE := hide (T2.out q2)
                  have hM := M2.out
                  rw [E2'.out] at hM
                  have hNT := HNT.out
                  have hTA := HTA.out
                  obtain ⟨ix, hix⟩ : ∃ j : Nat, zs.length + a2 = j := ⟨_, rfl⟩
                  rw [hix] at TE
                  have hixe : (zs.length : Int) + (a2 : Int) = (ix : Int) := by omega
                  have hixl : ix < N := by omega
                  have g2 : (0 : Int) ≤ (ix : Int) := by omega
                  have g3 : (ix : Int) < (N : Int) := by omega
                  obtain ⟨u, hu⟩ : ∃ u, ((Pl.tab zs ss ss.length k).map (Value.int .i64))[ix]? = some u := ⟨_, List.getElem?_eq_getElem (by have := HXL.out; omega)⟩
                  have hnew : wo.cell? ⟨w3.heap.size + 1, ix, none⟩ = some u := (HOW.out.cellAt ix (by omega)).trans hu
                  have hfz : wo.frozen? ⟨w3.heap.size + 1, ix, none⟩ = false := HOW.out.frozenAt ix
                  have hs1 : (wo.setCell ⟨w3.heap.size + 1, ix, none⟩ (.int .i64 k)).cell? ⟨w6.heap.size, 0, none⟩ = some (.int .i64 a2) := (far_cell HEF.out.symm).trans c0
                  have hs2 : (wo.setCell ⟨w3.heap.size + 1, ix, none⟩ (.int .i64 k)).frozen? ⟨w6.heap.size, 0, none⟩ = false := (far_froz HEF.out.symm).trans (HA.out.fz 0)
                  have hTS : ((Pl.tab zs ss ss.length k).map (Value.int .i64)).set ix (.int .i64 k) = (Pl.tab zs ss ss.length (k + 1)).map (Value.int .i64) := by rw [← List.map_set, TE.out]
                  have hst := own_far (p := ⟨w6.heap.size, 0, none⟩) (hTS ▸ (HOW.out.stored ix (.int .i64 k)).1) HEF.out (.int .i64 ((a2 : Int) + 1))
                  have HST := hide hst
                  clear hcl Y2 N2 Y3 N3 Y0 N0 Y4 N4 T2 T3 T0 T4 TN M2 M3 M0 M4 q2 hM hNT hTA hix hu hTS hst TE
                  go_wp2_with fail
                  go_roundw
                  case rel => exact ⟨k + 1, by omega, by go_num, size_set.trans (size_set.trans HSZ.out), (HB.out.setCell (Nat.le_refl _) _).setCell (by have := hs6; simp only; omega) _, HST.out, by rw [E2'.out, E3'.out, E0'.out, E4'.out]; exact (HA.out.far (p := ⟨w3.heap.size + 1, ix, none⟩) HEF.out.symm _).s0 ((a2 : Int) + 1)⟩
                  case measure => simp [intOf]; omega
                · skip
                  by_cases q3 : y = 3
                  · have hcl : cls y = 1 := by rw [q3]; rfl
                    rw [hcl]
                    have E2' := hide (N2.out (by omega))
                    have E3' := hide (Y3.out q3)
                    have E0' := hide (N0.out (by omega))
                    have E4' := hide (N4.out (by omega))
                    have TE := hide (T3.out q3)
                    have hM := M3.out
                    rw [E3'.out] at hM
                    have hNT := HNT.out
                    have hTA := HTA.out
                    obtain ⟨f3, hf3⟩ : ∃ f : Nat, A3 - 1 - a3 = f := ⟨_, rfl⟩
                    rw [hf3] at TE
                    have hof : (A3 : Int) - 1 - (a3 : Int) = (f3 : Int) := by omega
                    have hA3 : A3 ≤ 1048576 := by omega
                    have hA3' : a3 < A3 := by omega
                    have hA3'' : f3 ≤ 1048576 := by omega
                    have hA2' : A2 ≤ 1048576 := by omega
                    obtain ⟨ix, hix⟩ : ∃ j : Nat, zs.length + A2 + f3 = j := ⟨_, rfl⟩
                    rw [hix] at TE
                    have hixe : (zs.length : Int) + (A2 : Int) + (f3 : Int) = (ix : Int) := by omega
                    have hixl : ix < N := by omega
                    have g2 : (0 : Int) ≤ (ix : Int) := by omega
                    have g3 : (ix : Int) < (N : Int) := by omega
                    obtain ⟨u, hu⟩ : ∃ u, ((Pl.tab zs ss ss.length k).map (Value.int .i64))[ix]? = some u := ⟨_, List.getElem?_eq_getElem (by have := HXL.out; omega)⟩
                    have hnew : wo.cell? ⟨w3.heap.size + 1, ix, none⟩ = some u := (HOW.out.cellAt ix (by omega)).trans hu
                    have hfz : wo.frozen? ⟨w3.heap.size + 1, ix, none⟩ = false := HOW.out.frozenAt ix
                    have hs1 : (wo.setCell ⟨w3.heap.size + 1, ix, none⟩ (.int .i64 k)).cell? ⟨w6.heap.size, 1, none⟩ = some (.int .i64 a3) := (far_cell HEF.out.symm).trans c1
                    have hs2 : (wo.setCell ⟨w3.heap.size + 1, ix, none⟩ (.int .i64 k)).frozen? ⟨w6.heap.size, 1, none⟩ = false := (far_froz HEF.out.symm).trans (HA.out.fz 1)
                    have hTS : ((Pl.tab zs ss ss.length k).map (Value.int .i64)).set ix (.int .i64 k) = (Pl.tab zs ss ss.length (k + 1)).map (Value.int .i64) := by rw [← List.map_set, TE.out]
                    have hst := own_far (p := ⟨w6.heap.size, 1, none⟩) (hTS ▸ (HOW.out.stored ix (.int .i64 k)).1) HEF.out (.int .i64 ((a3 : Int) + 1))
                    have HST := hide hst
                    clear hcl Y2 N2 Y3 N3 Y0 N0 Y4 N4 T2 T3 T0 T4 TN M2 M3 M0 M4 q2 q3 hM hNT hTA hix hu hTS hst TE
                    go_wp2_with fail
                    go_roundw
                    case rel => exact ⟨k + 1, by omega, by go_num, size_set.trans (size_set.trans HSZ.out), (HB.out.setCell (Nat.le_refl _) _).setCell (by have := hs6; simp only; omega) _, HST.out, by rw [E2'.out, E3'.out, E0'.out, E4'.out]; exact (HA.out.far (p := ⟨w3.heap.size + 1, ix, none⟩) HEF.out.symm _).s1 ((a3 : Int) + 1)⟩
                    case measure => simp [intOf]; omega
                  · skip
                    by_cases q0 : y = 0
                    · have hcl : cls y = 2 := by rw [q0]; rfl
                      rw [hcl]
                      have E2' := hide (N2.out (by omega))
                      have E3' := hide (N3.out (by omega))
                      have E0' := hide (Y0.out q0)
                      have E4' := hide (N4.out (by omega))
                      have TE := hide (T0.out q0)
                      have hM := M0.out
                      rw [E0'.out] at hM
                      have hNT := HNT.out
                      have hTA := HTA.out
                      obtain ⟨ix, hix⟩ : ∃ j : Nat, zs.length + (A2 + A3) + a0 = j := ⟨_, rfl⟩
                      rw [hix] at TE
                      have hixe : (zs.length : Int) + ((A2 : Int) + (A3 : Int)) + (a0 : Int) = (ix : Int) := by omega
                      have hixl : ix < N := by omega
                      have g2 : (0 : Int) ≤ (ix : Int) := by omega
                      have g3 : (ix : Int) < (N : Int) := by omega
                      obtain ⟨u, hu⟩ : ∃ u, ((Pl.tab zs ss ss.length k).map (Value.int .i64))[ix]? = some u := ⟨_, List.getElem?_eq_getElem (by have := HXL.out; omega)⟩
                      have hnew : wo.cell? ⟨w3.heap.size + 1, ix, none⟩ = some u := (HOW.out.cellAt ix (by omega)).trans hu
                      have hfz : wo.frozen? ⟨w3.heap.size + 1, ix, none⟩ = false := HOW.out.frozenAt ix
                      have hs1 : (wo.setCell ⟨w3.heap.size + 1, ix, none⟩ (.int .i64 k)).cell? ⟨w6.heap.size, 2, none⟩ = some (.int .i64 a0) := (far_cell HEF.out.symm).trans c2
                      have hs2 : (wo.setCell ⟨w3.heap.size + 1, ix, none⟩ (.int .i64 k)).frozen? ⟨w6.heap.size, 2, none⟩ = false := (far_froz HEF.out.symm).trans (HA.out.fz 2)
                      have hTS : ((Pl.tab zs ss ss.length k).map (Value.int .i64)).set ix (.int .i64 k) = (Pl.tab zs ss ss.length (k + 1)).map (Value.int .i64) := by rw [← List.map_set, TE.out]
                      have hst := own_far (p := ⟨w6.heap.size, 2, none⟩) (hTS ▸ (HOW.out.stored ix (.int .i64 k)).1) HEF.out (.int .i64 ((a0 : Int) + 1))
                      have HST := hide hst
                      clear hcl Y2 N2 Y3 N3 Y0 N0 Y4 N4 T2 T3 T0 T4 TN M2 M3 M0 M4 q2 q3 q0 hM hNT hTA hix hu hTS hst TE
                      go_wp2_with fail
                      go_roundw
                      case rel => exact ⟨k + 1, by omega, by go_num, size_set.trans (size_set.trans HSZ.out), (HB.out.setCell (Nat.le_refl _) _).setCell (by have := hs6; simp only; omega) _, HST.out, by rw [E2'.out, E3'.out, E0'.out, E4'.out]; exact (HA.out.far (p := ⟨w3.heap.size + 1, ix, none⟩) HEF.out.symm _).s2 ((a0 : Int) + 1)⟩
                      case measure => simp [intOf]; omega
                    · skip
                      by_cases q4 : y = 4
                      · have hcl : cls y = 3 := by rw [q4]; rfl
                        rw [hcl]
                        have E2' := hide (N2.out (by omega))
                        have E3' := hide (N3.out (by omega))
                        have E0' := hide (N0.out (by omega))
                        have E4' := hide (Y4.out q4)
                        have TE := hide (T4.out q4)
                        have hM := M4.out
                        rw [E4'.out] at hM
                        have hNT := HNT.out
                        have hTA := HTA.out
                        obtain ⟨ix, hix⟩ : ∃ j : Nat, zs.length + (A2 + A3 + A0) + a4 = j := ⟨_, rfl⟩
                        rw [hix] at TE
                        have hixe : (zs.length : Int) + ((A2 : Int) + (A3 : Int) + (A0 : Int)) + (a4 : Int) = (ix : Int) := by omega
                        have hixl : ix < N := by omega
                        have g2 : (0 : Int) ≤ (ix : Int) := by omega
                        have g3 : (ix : Int) < (N : Int) := by omega
                        obtain ⟨u, hu⟩ : ∃ u, ((Pl.tab zs ss ss.length k).map (Value.int .i64))[ix]? = some u := ⟨_, List.getElem?_eq_getElem (by have := HXL.out; omega)⟩
                        have hnew : wo.cell? ⟨w3.heap.size + 1, ix, none⟩ = some u := (HOW.out.cellAt ix (by omega)).trans hu
                        have hfz : wo.frozen? ⟨w3.heap.size + 1, ix, none⟩ = false := HOW.out.frozenAt ix
                        have hs1 : (wo.setCell ⟨w3.heap.size + 1, ix, none⟩ (.int .i64 k)).cell? ⟨w6.heap.size, 3, none⟩ = some (.int .i64 a4) := (far_cell HEF.out.symm).trans c3
                        have hs2 : (wo.setCell ⟨w3.heap.size + 1, ix, none⟩ (.int .i64 k)).frozen? ⟨w6.heap.size, 3, none⟩ = false := (far_froz HEF.out.symm).trans (HA.out.fz 3)
                        have hTS : ((Pl.tab zs ss ss.length k).map (Value.int .i64)).set ix (.int .i64 k) = (Pl.tab zs ss ss.length (k + 1)).map (Value.int .i64) := by rw [← List.map_set, TE.out]
                        have hst := own_far (p := ⟨w6.heap.size, 3, none⟩) (hTS ▸ (HOW.out.stored ix (.int .i64 k)).1) HEF.out (.int .i64 ((a4 : Int) + 1))
                        have HST := hide hst
                        clear hcl Y2 N2 Y3 N3 Y0 N0 Y4 N4 T2 T3 T0 T4 TN M2 M3 M0 M4 q2 q3 q0 q4 hM hNT hTA hix hu hTS hst TE
                        go_wp2_with fail
                        go_roundw
                        case rel => exact ⟨k + 1, by omega, by go_num, size_set.trans (size_set.trans HSZ.out), (HB.out.setCell (Nat.le_refl _) _).setCell (by have := hs6; simp only; omega) _, HST.out, by rw [E2'.out, E3'.out, E0'.out, E4'.out]; exact (HA.out.far (p := ⟨w3.heap.size + 1, ix, none⟩) HEF.out.symm _).s3 ((a4 : Int) + 1)⟩
                        case measure => simp [intOf]; omega
                      · skip
                        have hcl : cls y = -1 := by unfold cls; rw [if_neg q2, if_neg q3, if_neg q0, if_neg q4]
                        rw [hcl]
                        have E2' := hide (N2.out q2)
                        have E3' := hide (N3.out q3)
                        have E0' := hide (N0.out q0)
                        have E4' := hide (N4.out q4)
                        have TE := hide (TN.out q2 q3 q0 q4)
                        clear hcl Y2 N2 Y3 N3 Y0 N0 Y4 N4 T2 T3 T0 T4 TN M2 M3 M0 M4 q2 q3 q0 q4
                        go_wp2_with fail
                        go_roundw
                        case rel => exact ⟨k + 1, by omega, by go_num, HSZ.out, HB.out, by rw [TE.out]; exact HOW.out, by rw [E2'.out, E3'.out, E0'.out, E4'.out]; exact HA.out⟩
                        case measure => simp [intOf]; omega
              · obtain rfl : k = ss.length := by omega
                rw [Pl.tab_end] at hown
                have hLN : (zs ++ Pl.ord ss ss.length).length = N := by
                  have h1 := Pl.ord_len ss ss.length
                  rw [E2.out, E3.out, E0.out, E4.out] at h1
                  have h2 := HNE.out
                  have h3 := HTE.out
                  rw [List.length_append, h1]
                  omega
                obtain ⟨L, hL⟩ : ∃ L, zs ++ Pl.ord ss ss.length = L := ⟨_, rfl⟩
                rw [hL] at hown hLN
                have HL := hide hL
                have hbw : Below w2.heap.size w2 wr := HBW5.out.trans (hb.mono (by omega))
                have HBW := hide hbw
                have HZ := hide (HZ2.out.below hbw)
                have HS := hide (HS2.out.below hbw)
                have HOW := hide hown
                obtain ⟨w7, rfl⟩ : ∃ x : World, x = wr := ⟨_, rfl⟩
                clear hA hb hsz hown hL hlt hk HAC HAD HBW5 HB6 hbw HZ2 HS2 HBC E2 E3 E0 E4 HNE HTE
                go_wp2_with fail
                refine (zz_any za zs _ ss _ HZ.out HS.out (by omega) (by omega)).mono ?_
                rintro e w8 ⟨gv, rfl, hg8, hb8⟩
                rw [HL.out] at hg8
                obtain ⟨ga, gcap, rfl, _, hgc⟩ := hg8
                rw [hLN] at hgc ⊢
                have HO8 := hide (own_below HOW.out hb8)
                have HB8 := hide (HB2.out.trans ((HBW.out.mono HB2.out.size).trans (hb8.mono (by have := HBW.out.size; have := HB2.out.size; omega))))
                have HGC := hide hgc
                clear hgc hb8 HOW HBW HZ HS HB2 HL
                have hNN' : ((N : Int) != (N : Int)) = false := by simp
                go_wp2_with fail
                go_loopw [18] (fun i wr => ∃ k : Nat, k ≤ N ∧ i = .int .i64 k ∧ Below w8.heap.size w8 wr) (fun i _ => N - (intOf i).toNat)
                case atStart => exact ⟨0, Nat.zero_le _, rfl, Below.refl _ _⟩
                case round =>
                  obtain ⟨k, hk, rfl, hb⟩ := hrel
                  by_cases hlt : k < N
                  · obtain ⟨b, off, hx, hc⟩ := HGC.out (by omega)
                    subst hx
                    have hlb : b < w8.heap.size := World.block_lt_of_cell? w8 _ (hc k hlt)
                    have p0 := (hb.cell (p := ⟨b, _, none⟩) hlb).trans (hc k hlt)
                    have hLk : (L.map (Value.int IntKind.i64))[k]? = some (.int .i64 (L.getD k 0)) := by
                      have : k < L.length := by omega
                      simp [List.getD, this]
                    have hE8 : w3.heap.size + 1 < w8.heap.size := (HO8.out.lt _ rfl).2
                    have p1 := (hb.cell (p := ⟨w3.heap.size + 1, k, none⟩) hE8).trans ((HO8.out.cellAt k (by omega)).trans hLk)
                    generalize L.getD k 0 = y at *
                    have HB := hide hb
                    have g0 : (0 : Int) ≤ (k : Int) := by omega
                    have g1 : (k : Int) < (N : Int) := by omega
                    have hyy : (y != y) = false := by simp
                    clear hc hb hLk HGC HO8
                    go_wp2_with fail
                    go_quiet (fail)
                    go_wp2_with fail
                    go_roundw
                    case rel => exact ⟨k + 1, by omega, by go_num, below_drewN HB.out _⟩
                    case measure => simp [intOf]; omega
                  · clear HGC HO8
                    go_wp2_with fail
                    go_ret
                    exact ⟨rfl, HB8.out.trans (hb.mono HB8.out.size)⟩

end Go.Proofs.Qxb6003131a
