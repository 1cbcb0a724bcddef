/-
  Seat b6601873a: slices of crashes that a call makes; cloneCrashes, toCrashes.
-/
import Derived.Test.Qxb6601873aBytes
import Derived.Deep.RegionHeld3
import Derived.Deep.DrawnRows
import Derived.Deep.Onto
namespace Go.Proofs.Qxb6601873a
open Go.RowKit
attribute [local go_sem ↓] Go.wp_at_zero Go.wp_at_succ

theorem Try.info43 : (Try.prog.info? 43).map (fun i => (i.zero, i.size, i.bytes)) = some (some (.agg #[.int .i64 0, .int .i64 0, .slice none 0 0, .int .i64 0]), 4, 48) := by kernel_rfl
theorem Try.info42 : (Try.prog.info? 42).map (fun i => (i.zero, i.size, i.bytes)) = some (some (.agg #[.int .i64 0, .int .i64 0, .slice none 0 0, .int .i64 0]), 4, 48) := by kernel_rfl

theorem Ints.cells {w w' : World} {v : Value} {zs : List Int} (h : Ints w v zs) (hc : ∀ p, w'.cell? p = w.cell? p) : Ints w' v zs := by
  obtain ⟨a, cap, rfl, hn, h⟩ := h
  refine ⟨a, cap, rfl, hn, fun hz => ?_⟩
  obtain ⟨b, off, rfl, hcc⟩ := h hz
  exact ⟨b, off, rfl, fun i hi => (hc _).trans (hcc i hi)⟩

theorem own_form {w : World} {base : Nat} {e : TypeId} {size : Nat} {v : Value} {n : Nat} {xs : List Value} (h : w.ownsRow base e size v n xs) : ∃ (a : Option Addr) (c : Nat), v = .slice a n c := by
  rcases h.2 with ⟨rfl, rfl⟩ | ⟨g, cap, cur, rfl, _⟩
  · exact ⟨none, 0, rfl⟩
  · exact ⟨_, cap, rfl⟩

theorem four_below {w w' : World} {B o : Nat} {c0 c1 c2 c3 : Value} (hb : Below w.heap.size w w') (hB : B < w.heap.size)
    (d0 : w.cell? ⟨B, o, none⟩ = some c0) (d1 : w.cell? ⟨B, o + 1, none⟩ = some c1) (d2 : w.cell? ⟨B, o + 2, none⟩ = some c2) (d3 : w.cell? ⟨B, o + 3, none⟩ = some c3)
    (f0 : w.frozen? ⟨B, o, none⟩ = false) (f1 : w.frozen? ⟨B, o + 1, none⟩ = false) (f2 : w.frozen? ⟨B, o + 2, none⟩ = false) (f3 : w.frozen? ⟨B, o + 3, none⟩ = false) :
    w'.cell? ⟨B, o, none⟩ = some c0 ∧ w'.cell? ⟨B, o + 1, none⟩ = some c1 ∧ w'.cell? ⟨B, o + 2, none⟩ = some c2 ∧ w'.cell? ⟨B, o + 3, none⟩ = some c3 ∧
    w'.frozen? ⟨B, o, none⟩ = false ∧ w'.frozen? ⟨B, o + 1, none⟩ = false ∧ w'.frozen? ⟨B, o + 2, none⟩ = false ∧ w'.frozen? ⟨B, o + 3, none⟩ = false :=
  ⟨(hb.cell (p := ⟨B, _, none⟩) hB).trans d0, (hb.cell (p := ⟨B, _, none⟩) hB).trans d1, (hb.cell (p := ⟨B, _, none⟩) hB).trans d2, (hb.cell (p := ⟨B, _, none⟩) hB).trans d3,
    (hb.frozen (p := ⟨B, _, none⟩) hB).trans f0, (hb.frozen (p := ⟨B, _, none⟩) hB).trans f1, (hb.frozen (p := ⟨B, _, none⟩) hB).trans f2, (hb.frozen (p := ⟨B, _, none⟩) hB).trans f3⟩

theorem cell_far {w : World} {p q : Addr} {x : Value} (h : q.block ≠ p.block) : (w.setCell p x).cell? q = w.cell? q := World.cell?_of_block (Below.heap_setCell w p x q.block h)
theorem four_far {w : World} {B b o o0 o1 o2 o3 : Nat} {x0 x1 x2 x3 : Value} (h : b ≠ B) :
    ((((w.setCell ⟨B, o0, none⟩ x0).setCell ⟨B, o1, none⟩ x1).setCell ⟨B, o2, none⟩ x2).setCell ⟨B, o3, none⟩ x3).cell? ⟨b, o, none⟩ = w.cell? ⟨b, o, none⟩ := by
  rw [cell_far h, cell_far h, cell_far h, cell_far h]

/-- rv is a slice of the call's own, from block 'base' on, that reads as rs. -/
def OwnRV (w : World) (base : Nat) (rv : Value) (rs : Option (List Int)) : Prop :=
  w.ownsRow base 3 1 rv (rs.getD []).length ((rs.getD []).map (Value.int .i64)) ∧ (rv = .slice none 0 0 ↔ rs = none)

/-- Four cells of a list: crash i. -/
def Row4 (xs : List Value) (i : Nat) (c : Cr) (rv : Value) : Prop :=
  xs[i * 4]? = some (.int .i64 c.proc) ∧ xs[i * 4 + 1]? = some (.int .i64 c.rnd) ∧ xs[i * 4 + 2]? = some rv ∧ xs[i * 4 + 3]? = some (.int .i64 c.sent)

theorem OwnRV.setCell {w : World} {base : Nat} {rv : Value} {rs : Option (List Int)} (h : OwnRV w base rv rs) {a : Addr} (ha : a.block < base) (u : Value) : OwnRV (w.setCell a u) base rv rs :=
  ⟨ownsRow_setCell_below h.1 ha u, h.2⟩
theorem OwnRV.below {w w' : World} {base : Nat} {rv : Value} {rs : Option (List Int)} (h : OwnRV w base rv rs) (hb : Below w.heap.size w w') : OwnRV w' base rv rs := ⟨own_below h.1 hb, h.2⟩

/-- One round: crash k's four cells are stored into the row. -/
theorem clone_step {w wr w1 : World} {B n k : Nat} {T : TypeId} {cs : List Cr} {xs : List Value} {c : Cr} {v : Value} (hc : cs.getD k Cr.zero = c) (hB : B < wr.heap.size)
    (hown : wr.ownsRow B T 4 (.slice (some ⟨B, 0, none⟩) n n) n xs)
    (hdone : ∀ i, i < k → ∃ rv, Row4 xs i (cs.getD i Cr.zero) rv ∧ OwnRV wr (B + 1) rv (cs.getD i Cr.zero).rs)
    (hb : Below B w wr) (hb1 : Below wr.heap.size wr w1) (hk : k < n)
    (ho : w1.ownsRow wr.heap.size 3 1 v (c.rs.getD []).length ((c.rs.getD []).map (Value.int .i64))) (hn : v = .slice none 0 0 ↔ c.rs = none) :
    ∃ xs', ((((w1.setCell ⟨B, k * 4, none⟩ (.int .i64 c.proc)).setCell ⟨B, k * 4 + 1, none⟩ (.int .i64 c.rnd)).setCell ⟨B, k * 4 + 2, none⟩ v).setCell ⟨B, k * 4 + 3, none⟩ (.int .i64 c.sent)).ownsRow B T 4 (.slice (some ⟨B, 0, none⟩) n n) n xs' ∧
      (∀ i, i < k + 1 → ∃ rv, Row4 xs' i (cs.getD i Cr.zero) rv ∧ OwnRV ((((w1.setCell ⟨B, k * 4, none⟩ (.int .i64 c.proc)).setCell ⟨B, k * 4 + 1, none⟩ (.int .i64 c.rnd)).setCell ⟨B, k * 4 + 2, none⟩ v).setCell ⟨B, k * 4 + 3, none⟩ (.int .i64 c.sent)) (B + 1) rv (cs.getD i Cr.zero).rs) ∧
      Below B w ((((w1.setCell ⟨B, k * 4, none⟩ (.int .i64 c.proc)).setCell ⟨B, k * 4 + 1, none⟩ (.int .i64 c.rnd)).setCell ⟨B, k * 4 + 2, none⟩ v).setCell ⟨B, k * 4 + 3, none⟩ (.int .i64 c.sent)) ∧
      B < ((((w1.setCell ⟨B, k * 4, none⟩ (.int .i64 c.proc)).setCell ⟨B, k * 4 + 1, none⟩ (.int .i64 c.rnd)).setCell ⟨B, k * 4 + 2, none⟩ v).setCell ⟨B, k * 4 + 3, none⟩ (.int .i64 c.sent)).heap.size := by
  have h1 := own_below hown hb1
  have h2 := (h1.stored (k * 4) (.int .i64 c.proc)).1
  have h3 := (h2.stored (k * 4 + 1) (.int .i64 c.rnd)).1
  have h4 := (h3.stored (k * 4 + 2) v).1
  have h5 := (h4.stored (k * 4 + 3) (.int .i64 c.sent)).1
  have hxl : xs.length = n * 4 := hown.1
  have up : ∀ {rv rs}, OwnRV w1 (B + 1) rv rs → OwnRV ((((w1.setCell ⟨B, k * 4, none⟩ (.int .i64 c.proc)).setCell ⟨B, k * 4 + 1, none⟩ (.int .i64 c.rnd)).setCell ⟨B, k * 4 + 2, none⟩ v).setCell ⟨B, k * 4 + 3, none⟩ (.int .i64 c.sent)) (B + 1) rv rs := by
    intro rv rs h
    exact (((h.setCell (by simp) _).setCell (by simp) _).setCell (by simp) _).setCell (by simp) _
  refine ⟨_, h5, ?_, ?_, ?_⟩
  · intro i hi
    by_cases hik : i < k
    · obtain ⟨rv, ⟨r0, r1, r2, r3⟩, hr⟩ := hdone i hik
      refine ⟨rv, ⟨?_, ?_, ?_, ?_⟩, up (hr.below hb1)⟩
      all_goals
        rw [List.getElem?_set_ne (by omega), List.getElem?_set_ne (by omega), List.getElem?_set_ne (by omega), List.getElem?_set_ne (by omega)]
        assumption
    · obtain rfl : i = k := by omega
      rw [hc]
      refine ⟨v, ⟨?_, ?_, ?_, ?_⟩, up ⟨ho.mono (by omega), hn⟩⟩
      · rw [List.getElem?_set_ne (by omega), List.getElem?_set_ne (by omega), List.getElem?_set_ne (by omega), List.getElem?_set_self (by omega)]
      · rw [List.getElem?_set_ne (by omega), List.getElem?_set_ne (by omega), List.getElem?_set_self (by simp; omega)]
      · rw [List.getElem?_set_ne (by omega), List.getElem?_set_self (by simp; omega)]
      · rw [List.getElem?_set_self (by simp; omega)]
  · exact ((((hb.trans (hb1.mono (by omega))).setCell (by simp) _).setCell (by simp) _).setCell (by simp) _).setCell (by simp) _
  · have := hb1.size
    simp [World.setCell]
    omega

set_option maxHeartbeats 1000000 in
theorem cloneCr_some (x : Addr) (cap : Nat) (cs : List Cr) (w : World) (hv : Crs w (.slice (some x) cs.length cap) cs) (hl : cs.length ≤ 1073741824) (hr : rsum cs ≤ 1073741824) :
    Calls Try.prog 19 #[.slice (some x) cs.length cap] w fun e w' => ∃ v xs, e = .returned v ∧ v = .slice (some ⟨w.heap.size, 0, none⟩) cs.length cs.length ∧ w'.ownsRow w.heap.size 43 4 v cs.length xs ∧
      (∀ i, i < cs.length → ∃ rv, Row4 xs i (cs.getD i Cr.zero) rv ∧ OwnRV w' (w.heap.size + 1) rv (cs.getD i Cr.zero).rs) ∧ Below w.heap.size w w' := by
  have q27 : ∀ (w : World) (a : Option Addr) (n c n' c' : Nat), (binOp .eql 27 (.slice a n c) (.slice none n' c')).run Try.prog w = .ok (.bool a.isNone) w := fun w a n c n' c' => Lib.run_eql_slice_nil w _ _ a n c n' c' Try.underlying27
  obtain ⟨i0, hi, hz0, hz1, hz2⟩ := info_parts Try.info43
  obtain ⟨a', cap', ha', _, hc0⟩ := hv
  simp only [Value.slice.injEq] at ha'
  obtain ⟨rfl, _, rfl⟩ := ha'
  have hml : cs.length ≤ maxLen := by unfold maxLen; omega
  go_enter Try.func19, Try.ntmps19
  go_wp2_with (at_make; refine wpList_make_full _ rfl _ _ 27 rfl w.heap.size 43 i0 _ 4 Try.underlying27 hi hz0 hz1 _ _ _ _ cs.length rfl rfl rfl rfl (by rw [hz2]; omega) hml (Nat.le_refl _) ?_; intro w1 hown hgrow)
  have hb0 : Below w.heap.size w w1 := (Below.refl _ _).grown hgrow (Nat.le_refl _) (fun k h => by cases h)
  have hs0 : w.heap.size < w1.heap.size := (hown.lt w.heap.size rfl).2
  clear hgrow
  go_loopw [4] (fun i wr => ∃ k : Nat, k ≤ cs.length ∧ i = .int .i64 k ∧ ∃ xs, wr.ownsRow w.heap.size 43 4 (.slice (some ⟨w.heap.size, 0, none⟩) cs.length cs.length) cs.length xs ∧
      (∀ i, i < k → ∃ rv, Row4 xs i (cs.getD i Cr.zero) rv ∧ OwnRV wr (w.heap.size + 1) rv (cs.getD i Cr.zero).rs) ∧ Below w.heap.size w wr ∧ w.heap.size < wr.heap.size) (fun i _ => cs.length - (intOf i).toNat)
  case atStart => exact ⟨0, Nat.zero_le _, rfl, _, hown, fun i h => by omega, hb0, hs0⟩
  case round =>
    obtain ⟨k, hk, rfl, xs, hown, hdone, hb, hsz⟩ := hrel
    clear hb0 hs0
    by_cases hlt : k < cs.length
    · obtain ⟨b, off, hx, hc⟩ := hc0 (by omega)
      obtain rfl := Option.some.inj hx
      clear hx hc0
      obtain ⟨rv, hat⟩ := hc k hlt
      have hlb : b < w.heap.size := World.block_lt_of_cell? w _ hat.p
      have hat' : CrAt wr b (off + k * 4) (cs.getD k Cr.zero) rv := by
        have hrv : RV wr rv (cs.getD k Cr.zero).rs := hat.rv.below ⟨hb.os, hb.tape, hb.output, hb.size, hb.block⟩
        exact ⟨(hb.cell (p := ⟨b, _, none⟩) hlb).trans hat.p, (hb.cell (p := ⟨b, _, none⟩) hlb).trans hat.r, (hb.cell (p := ⟨b, _, none⟩) hlb).trans hat.v, (hb.cell (p := ⟨b, _, none⟩) hlb).trans hat.s, hrv⟩
      have hxl := hown.1
      obtain ⟨c0, e0⟩ : ∃ u, xs[k * 4]? = some u := ⟨_, List.getElem?_eq_getElem (by omega)⟩
      obtain ⟨c1, e1⟩ : ∃ u, xs[k * 4 + 1]? = some u := ⟨_, List.getElem?_eq_getElem (by omega)⟩
      obtain ⟨c2, e2⟩ : ∃ u, xs[k * 4 + 2]? = some u := ⟨_, List.getElem?_eq_getElem (by omega)⟩
      obtain ⟨c3, e3⟩ : ∃ u, xs[k * 4 + 3]? = some u := ⟨_, List.getElem?_eq_getElem (by omega)⟩
      have d0 := (hown.cellAt (k * 4) (by omega)).trans e0
      have d1 := (hown.cellAt (k * 4 + 1) (by omega)).trans e1
      have d2 := (hown.cellAt (k * 4 + 2) (by omega)).trans e2
      have d3 := (hown.cellAt (k * 4 + 3) (by omega)).trans e3
      have f0 := hown.frozenAt (k * 4)
      have f1 := hown.frozenAt (k * 4 + 1)
      have f2 := hown.frozenAt (k * 4 + 2)
      have f3 := hown.frozenAt (k * 4 + 3)
      have p0 := hat'.p
      have p1 := hat'.r
      have p2 := hat'.v
      have p3 := hat'.s
      have hrv := hat'.rv
      have hlen : ((cs.getD k Cr.zero).rs.getD []).length ≤ 1073741824 := Nat.le_trans (rsum_mem cs k hlt) hr
      generalize hcd : cs.getD k Cr.zero = c at *
      have HC : Hid _ := hcd
      have g0 : (0 : Int) ≤ (k : Int) := by omega
      have g1 : (k : Int) < (cs.length : Int) := by omega
      have HD : Hid _ := hdone
      have HO : Hid _ := hown
      have HB : Hid _ := hb
      have HRV : Hid _ := hrv
      clear hat hat' hc hdone hown hb e0 e1 e2 e3 hrv hcd
      go_wp2_with fail
      go_region_held3 (fun w' => w'.cell? ⟨b, off + k * 4, none⟩ = some (.int .i64 c.proc) ∧ w'.cell? ⟨b, off + k * 4 + 1, none⟩ = some (.int .i64 c.rnd) ∧ w'.cell? ⟨b, off + k * 4 + 2, none⟩ = some rv ∧ w'.cell? ⟨b, off + k * 4 + 3, none⟩ = some (.int .i64 c.sent))
        (first | go_keep | (go_split_ands; refine ⟨?_, ?_, ?_, ?_⟩ <;> (rw [hb1.cell (by simp; omega)]; assumption)) | (go_split_ands; refine ⟨?_, ?_, ?_, ?_⟩ <;> (rw [four_far (by omega)]; assumption)))
        ((go_at_call 12; refine (clone_any rv (c.rs.getD []) _ (by exact Ints.cells HRV.out.1 (fun _ => rfl)) (by omega)).mono ?_; rintro e w1 ⟨v', rfl, ho, hn, hb1⟩; obtain ⟨av, cv, rfl⟩ := own_form ho; obtain ⟨D0, D1, D2, D3, F0, F1, F2, F3⟩ := four_below hb1 hsz d0 d1 d2 d3 f0 f1 f2 f3))
      go_wp2_with fail
      obtain ⟨xs', R1, R2, R3, R4⟩ := clone_step HC.out hsz HO.out HD.out HB.out ⟨hb1.os, hb1.tape, hb1.output, hb1.size, hb1.block⟩ hlt ho (hn.trans HRV.out.2)
      go_roundw
      case rel => exact ⟨k + 1, by omega, by go_num, xs', R1, R2, R3, R4⟩
      case measure => simp [intOf]; omega
    · go_wp2_with fail
      go_ret
      obtain rfl : k = cs.length := by omega
      exact ⟨_, xs, rfl, rfl, hown, hdone, hb⟩

set_option maxHeartbeats 1000000 in
theorem toCr_some (x : Addr) (cap : Nat) (cs : List Cr) (w : World) (hv : Crs w (.slice (some x) cs.length cap) cs) (hl : cs.length ≤ 1073741824) (hr : rsum cs ≤ 1073741824) :
    Calls Try.prog 20 #[.slice (some x) cs.length cap] w fun e w' => ∃ v xs, e = .returned v ∧ v = .slice (some ⟨w.heap.size, 0, none⟩) cs.length cs.length ∧ w'.ownsRow w.heap.size 42 4 v cs.length xs ∧
      (∀ i, i < cs.length → ∃ rv, Row4 xs i (cs.getD i Cr.zero) rv ∧ OwnRV w' (w.heap.size + 1) rv (cs.getD i Cr.zero).rs) ∧ Below w.heap.size w w' := by
  have q27 : ∀ (w : World) (a : Option Addr) (n c n' c' : Nat), (binOp .eql 27 (.slice a n c) (.slice none n' c')).run Try.prog w = .ok (.bool a.isNone) w := fun w a n c n' c' => Lib.run_eql_slice_nil w _ _ a n c n' c' Try.underlying27
  obtain ⟨i0, hi, hz0, hz1, hz2⟩ := info_parts Try.info42
  obtain ⟨a', cap', ha', _, hc0⟩ := hv
  simp only [Value.slice.injEq] at ha'
  obtain ⟨rfl, _, rfl⟩ := ha'
  have hml : cs.length ≤ maxLen := by unfold maxLen; omega
  go_enter Try.func20, Try.ntmps20
  go_wp2_with (at_make; refine wpList_make_full _ rfl _ _ 31 rfl w.heap.size 42 i0 _ 4 Try.underlying31 hi hz0 hz1 _ _ _ _ cs.length rfl rfl rfl rfl (by rw [hz2]; omega) hml (Nat.le_refl _) ?_; intro w1 hown hgrow)
  have hb0 : Below w.heap.size w w1 := (Below.refl _ _).grown hgrow (Nat.le_refl _) (fun k h => by cases h)
  have hs0 : w.heap.size < w1.heap.size := (hown.lt w.heap.size rfl).2
  clear hgrow
  go_loopw [4] (fun i wr => ∃ k : Nat, k ≤ cs.length ∧ i = .int .i64 k ∧ ∃ xs, wr.ownsRow w.heap.size 42 4 (.slice (some ⟨w.heap.size, 0, none⟩) cs.length cs.length) cs.length xs ∧
      (∀ i, i < k → ∃ rv, Row4 xs i (cs.getD i Cr.zero) rv ∧ OwnRV wr (w.heap.size + 1) rv (cs.getD i Cr.zero).rs) ∧ Below w.heap.size w wr ∧ w.heap.size < wr.heap.size) (fun i _ => cs.length - (intOf i).toNat)
  case atStart => exact ⟨0, Nat.zero_le _, rfl, _, hown, fun i h => by omega, hb0, hs0⟩
  case round =>
    obtain ⟨k, hk, rfl, xs, hown, hdone, hb, hsz⟩ := hrel
    clear hb0 hs0
    by_cases hlt : k < cs.length
    · obtain ⟨b, off, hx, hc⟩ := hc0 (by omega)
      obtain rfl := Option.some.inj hx
      clear hx hc0
      obtain ⟨rv, hat⟩ := hc k hlt
      have hlb : b < w.heap.size := World.block_lt_of_cell? w _ hat.p
      have hat' : CrAt wr b (off + k * 4) (cs.getD k Cr.zero) rv := by
        have hrv : RV wr rv (cs.getD k Cr.zero).rs := hat.rv.below ⟨hb.os, hb.tape, hb.output, hb.size, hb.block⟩
        exact ⟨(hb.cell (p := ⟨b, _, none⟩) hlb).trans hat.p, (hb.cell (p := ⟨b, _, none⟩) hlb).trans hat.r, (hb.cell (p := ⟨b, _, none⟩) hlb).trans hat.v, (hb.cell (p := ⟨b, _, none⟩) hlb).trans hat.s, hrv⟩
      have hxl := hown.1
      obtain ⟨c0, e0⟩ : ∃ u, xs[k * 4]? = some u := ⟨_, List.getElem?_eq_getElem (by omega)⟩
      obtain ⟨c1, e1⟩ : ∃ u, xs[k * 4 + 1]? = some u := ⟨_, List.getElem?_eq_getElem (by omega)⟩
      obtain ⟨c2, e2⟩ : ∃ u, xs[k * 4 + 2]? = some u := ⟨_, List.getElem?_eq_getElem (by omega)⟩
      obtain ⟨c3, e3⟩ : ∃ u, xs[k * 4 + 3]? = some u := ⟨_, List.getElem?_eq_getElem (by omega)⟩
      have d0 := (hown.cellAt (k * 4) (by omega)).trans e0
      have d1 := (hown.cellAt (k * 4 + 1) (by omega)).trans e1
      have d2 := (hown.cellAt (k * 4 + 2) (by omega)).trans e2
      have d3 := (hown.cellAt (k * 4 + 3) (by omega)).trans e3
      have f0 := hown.frozenAt (k * 4)
      have f1 := hown.frozenAt (k * 4 + 1)
      have f2 := hown.frozenAt (k * 4 + 2)
      have f3 := hown.frozenAt (k * 4 + 3)
      have p0 := hat'.p
      have p1 := hat'.r
      have p2 := hat'.v
      have p3 := hat'.s
      have hrv := hat'.rv
      have hlen : ((cs.getD k Cr.zero).rs.getD []).length ≤ 1073741824 := Nat.le_trans (rsum_mem cs k hlt) hr
      generalize hcd : cs.getD k Cr.zero = c at *
      have HC : Hid _ := hcd
      have g0 : (0 : Int) ≤ (k : Int) := by omega
      have g1 : (k : Int) < (cs.length : Int) := by omega
      have HD : Hid _ := hdone
      have HO : Hid _ := hown
      have HB : Hid _ := hb
      have HRV : Hid _ := hrv
      clear hat hat' hc hdone hown hb e0 e1 e2 e3 hrv hcd
      go_wp2_with fail
      go_region_held3 (fun w' => w'.cell? ⟨b, off + k * 4, none⟩ = some (.int .i64 c.proc) ∧ w'.cell? ⟨b, off + k * 4 + 1, none⟩ = some (.int .i64 c.rnd) ∧ w'.cell? ⟨b, off + k * 4 + 2, none⟩ = some rv ∧ w'.cell? ⟨b, off + k * 4 + 3, none⟩ = some (.int .i64 c.sent))
        (first | go_keep | (go_split_ands; refine ⟨?_, ?_, ?_, ?_⟩ <;> (rw [hb1.cell (by simp; omega)]; assumption)) | (go_split_ands; refine ⟨?_, ?_, ?_, ?_⟩ <;> (rw [four_far (by omega)]; assumption)))
        ((go_at_call 12; refine (clone_any rv (c.rs.getD []) _ (by exact Ints.cells HRV.out.1 (fun _ => rfl)) (by omega)).mono ?_; rintro e w1 ⟨v', rfl, ho, hn, hb1⟩; obtain ⟨av, cv, rfl⟩ := own_form ho; obtain ⟨D0, D1, D2, D3, F0, F1, F2, F3⟩ := four_below hb1 hsz d0 d1 d2 d3 f0 f1 f2 f3))
      go_wp2_with fail
      obtain ⟨xs', R1, R2, R3, R4⟩ := clone_step HC.out hsz HO.out HD.out HB.out ⟨hb1.os, hb1.tape, hb1.output, hb1.size, hb1.block⟩ hlt ho (hn.trans HRV.out.2)
      go_roundw
      case rel => exact ⟨k + 1, by omega, by go_num, xs', R1, R2, R3, R4⟩
      case measure => simp [intOf]; omega
    · go_wp2_with fail
      go_ret
      obtain rfl : k = cs.length := by omega
      exact ⟨_, xs, rfl, rfl, hown, hdone, hb⟩


/-- A slice of crashes of the call's own. -/
def OwnCrs (w : World) (base : Nat) (T : TypeId) (v : Value) (cs : List Cr) : Prop :=
  ∃ xs, w.ownsRow base T 4 v cs.length xs ∧ ∀ i, i < cs.length → ∃ rv, Row4 xs i (cs.getD i Cr.zero) rv ∧ OwnRV w base rv (cs.getD i Cr.zero).rs

theorem OwnCrs.below {w w' : World} {base : Nat} {T : TypeId} {v : Value} {cs : List Cr} (h : OwnCrs w base T v cs) (hb : Below w.heap.size w w') : OwnCrs w' base T v cs := by
  obtain ⟨xs, ho, h⟩ := h
  exact ⟨xs, own_below ho hb, fun i hi => by obtain ⟨rv, h1, h2⟩ := h i hi; exact ⟨rv, h1, h2.below hb⟩⟩

theorem OwnCrs.crs {w : World} {base : Nat} {T : TypeId} {v : Value} {cs : List Cr} (h : OwnCrs w base T v cs) : Crs w v cs := by
  obtain ⟨xs, ho, h⟩ := h
  have ho' := ho
  rcases ho.2 with ⟨rfl, h0⟩ | ⟨g, cap, cur, rfl, _, _, _⟩
  · exact ⟨none, 0, by rw [h0], fun _ => rfl, fun hz => by omega⟩
  · refine ⟨_, cap, rfl, (fun h => by cases h), fun _ => ⟨g, 0, rfl, fun i hi => ?_⟩⟩
    obtain ⟨rv, ⟨r0, r1, r2, r3⟩, hr⟩ := h i hi
    refine ⟨rv, ?_, ?_, ?_, ?_, Ints.of_own hr.1, hr.2⟩
    · rw [Nat.zero_add, ho'.cellAt _ (by omega)]; exact r0
    · rw [Nat.zero_add, ho'.cellAt _ (by omega)]; exact r1
    · rw [Nat.zero_add, ho'.cellAt _ (by omega)]; exact r2
    · rw [Nat.zero_add, ho'.cellAt _ (by omega)]; exact r3

theorem cloneCr_nil (w : World) : Calls Try.prog 19 #[.slice none 0 0] w fun e w' => e = .returned (.slice none 0 0) ∧ w' = w := by
  have q27 : ∀ (w : World) (a : Option Addr) (n c n' c' : Nat), (binOp .eql 27 (.slice a n c) (.slice none n' c')).run Try.prog w = .ok (.bool a.isNone) w := fun w a n c n' c' => Lib.run_eql_slice_nil w _ _ a n c n' c' Try.underlying27
  go_enter Try.func19, Try.ntmps19
  go_wp2
  go_ret
  exact ⟨rfl, rfl⟩
theorem toCr_nil (w : World) : Calls Try.prog 20 #[.slice none 0 0] w fun e w' => e = .returned (.slice none 0 0) ∧ w' = w := by
  have q27 : ∀ (w : World) (a : Option Addr) (n c n' c' : Nat), (binOp .eql 27 (.slice a n c) (.slice none n' c')).run Try.prog w = .ok (.bool a.isNone) w := fun w a n c n' c' => Lib.run_eql_slice_nil w _ _ a n c n' c' Try.underlying27
  go_enter Try.func20, Try.ntmps20
  go_wp2
  go_ret
  exact ⟨rfl, rfl⟩

theorem cloneCr_any (v : Value) (cs : List Cr) (w : World) (hv : Crs w v cs) (hl : cs.length ≤ 1073741824) (hr : rsum cs ≤ 1073741824) :
    Calls Try.prog 19 #[v] w fun e w' => ∃ v', e = .returned v' ∧ OwnCrs w' w.heap.size 43 v' cs ∧ Below w.heap.size w w' := by
  have hv' := hv
  obtain ⟨a, cap, rfl, hn, hc⟩ := hv
  cases a with
  | none =>
    have hz : cs = [] := by
      cases cs with
      | nil => rfl
      | cons x r => obtain ⟨_, _, h, _⟩ := hc (by simp); cases h
    subst hz
    have := hn rfl
    subst this
    refine (cloneCr_nil w).mono ?_
    rintro e w' ⟨rfl, rfl⟩
    exact ⟨_, rfl, ⟨[], World.ownsRow_nil _ _ _ _, fun i h => by simp at h⟩, Below.refl _ _⟩
  | some x =>
    refine (cloneCr_some x cap cs w hv' hl hr).mono ?_
    rintro e w' ⟨v, xs, rfl, rfl, ho, hd, hb⟩
    exact ⟨_, rfl, ⟨xs, ho, fun i hi => by obtain ⟨rv, h1, h2⟩ := hd i hi; exact ⟨rv, h1, h2.1.mono (by omega), h2.2⟩⟩, hb⟩

theorem toCr_any (v : Value) (cs : List Cr) (w : World) (hv : Crs w v cs) (hl : cs.length ≤ 1073741824) (hr : rsum cs ≤ 1073741824) :
    Calls Try.prog 20 #[v] w fun e w' => ∃ v', e = .returned v' ∧ OwnCrs w' w.heap.size 42 v' cs ∧ Below w.heap.size w w' := by
  have hv' := hv
  obtain ⟨a, cap, rfl, hn, hc⟩ := hv
  cases a with
  | none =>
    have hz : cs = [] := by
      cases cs with
      | nil => rfl
      | cons x r => obtain ⟨_, _, h, _⟩ := hc (by simp); cases h
    subst hz
    have := hn rfl
    subst this
    refine (toCr_nil w).mono ?_
    rintro e w' ⟨rfl, rfl⟩
    exact ⟨_, rfl, ⟨[], World.ownsRow_nil _ _ _ _, fun i h => by simp at h⟩, Below.refl _ _⟩
  | some x =>
    refine (toCr_some x cap cs w hv' hl hr).mono ?_
    rintro e w' ⟨v, xs, rfl, rfl, ho, hd, hb⟩
    exact ⟨_, rfl, ⟨xs, ho, fun i hi => by obtain ⟨rv, h1, h2⟩ := hd i hi; exact ⟨rv, h1, h2.1.mono (by omega), h2.2⟩⟩, hb⟩

end Go.Proofs.Qxb6601873a
