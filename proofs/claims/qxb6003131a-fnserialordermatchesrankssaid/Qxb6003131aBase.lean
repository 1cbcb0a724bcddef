/-
  Seat b6003131a: rows of numbers; copyIntsB1, copyBytesB1, classB1, zzBytes, slices.Grow.
-/
import Derived.Test.Qxb6003131aChecked
import Derived.Test.Qxb6003131aPlain
import Derived.WalkKit
import Derived.WalkSpells
import Derived.Deep.QuietTactic
import Derived.BigQuiet
import Derived.Lib.AppendZerosOnto
import Derived.OwnWalk
namespace Go.Proofs.Qxb6003131a
open Go.RowKit

theorem hide {p : Prop} (h : p) : Hid p := h
theorem below_drewN {B : Nat} {a w : World} (h : Below B a w) (n : Nat) : Below B a (w.drewN n) := ⟨h.os, h.tape, h.output, h.size, h.block⟩
theorem grown_of_below {w w' : World} (h : Below w.heap.size w w') : w.grownBy w' none := ⟨h.os, h.tape, h.output, h.size, fun k hk _ => h.block k hk⟩
theorem own_below {w w' : World} {base : Nat} {e : TypeId} {size : Nat} {v : Value} {n : Nat} {xs : List Value} (h : w.ownsRow base e size v n xs) (hb : Below w.heap.size w w') : w'.ownsRow base e size v n xs :=
  h.kept (grown_of_below hb) (by cases v.ownBlock <;> simp)

/-- v is a slice of numbers of the kind q (one cell each) whose elements are zs, as it lies in w. -/
def Nums (q : IntKind) (w : World) (v : Value) (zs : List Int) : Prop :=
  ∃ (a : Option Addr) (cap : Nat), v = .slice a zs.length cap ∧ (a = none → cap = 0) ∧
    (0 < zs.length → ∃ b off, a = some ⟨b, off, none⟩ ∧ ∀ i, i < zs.length → w.cell? ⟨b, off + i, none⟩ = some (.int q (zs.getD i 0)))

theorem Nums.below {q : IntKind} {w w' : World} {v : Value} {zs : List Int} (h : Nums q w v zs) (hb : Below w.heap.size w w') : Nums q w' v zs := by
  obtain ⟨a, cap, rfl, hn, h⟩ := h
  refine ⟨a, cap, rfl, hn, fun hz => ?_⟩
  obtain ⟨b, off, rfl, hc⟩ := h hz
  refine ⟨b, off, rfl, fun i hi => ?_⟩
  have hlt := World.block_lt_of_cell? w _ (hc i hi)
  rw [hb.cell (p := ⟨b, off + i, none⟩) hlt]
  exact hc i hi
theorem Nums.of_own {q : IntKind} {w : World} {base : Nat} {T : TypeId} {v : Value} {zs : List Int} (h : w.ownsRow base T 1 v zs.length (zs.map (Value.int q))) : Nums q w v zs := by
  have h' := h
  rcases h.2 with ⟨rfl, h0⟩ | ⟨g, cap, cur, rfl, _, _, _⟩
  · exact ⟨none, 0, by rw [h0], fun _ => rfl, fun hz => by omega⟩
  · refine ⟨_, cap, rfl, (fun h => by cases h), fun _ => ⟨g, 0, rfl, fun i hi => ?_⟩⟩
    have := h'.cellAt i (by omega)
    rw [Nat.zero_add, this]
    simp [List.getD, hi]
theorem Nums.nil_of {q : IntKind} {w : World} {cap : Nat} {zs : List Int} (h : Nums q w (.slice none zs.length cap) zs) : zs = [] ∧ cap = 0 := by
  obtain ⟨a, c, he, hn, hc⟩ := h
  simp only [Value.slice.injEq] at he
  obtain ⟨rfl, _, rfl⟩ := he
  refine ⟨?_, hn rfl⟩
  cases zs with
  | nil => rfl
  | cons x r => obtain ⟨_, _, h, _⟩ := hc (by simp); cases h

theorem take_snoc (zs : List Int) (k : Nat) (h : k < zs.length) : zs.take (k + 1) = zs.take k ++ [zs.getD k 0] := by
  rw [List.take_succ_eq_append_getElem h]
  simp [List.getD, h]
/-- What has been copied so far. -/
def part (q : IntKind) (zs : List Int) (k : Nat) : List Value := (zs.take k).map (Value.int q) ++ List.replicate (zs.length - k) (.int q 0)
theorem part_zero (q : IntKind) (zs : List Int) : part q zs 0 = List.replicate zs.length (.int q 0) := by simp [part]
theorem part_all (q : IntKind) (zs : List Int) (k : Nat) (h : zs.length ≤ k) : part q zs k = zs.map (Value.int q) := by
  simp [part, List.take_of_length_le h, show zs.length - k = 0 by omega]
theorem part_set (q : IntKind) (zs : List Int) (k : Nat) (h : k < zs.length) : (part q zs k).set k (.int q (zs.getD k 0)) = part q zs (k + 1) := by
  unfold part
  rw [take_snoc zs k h]
  have e1 : zs.length - k = (zs.length - (k + 1)) + 1 := by omega
  rw [e1, List.replicate_succ]
  have e2 : ((zs.take k).map (Value.int q)).length = k := by simp; omega
  rw [List.set_append_right _ _ (by omega), e2, Nat.sub_self, List.set_cons_zero]
  simp
theorem part_at (q : IntKind) (zs : List Int) (k : Nat) (h : k < zs.length) : (part q zs k)[k]? = some (.int q 0) := by
  unfold part
  have e2 : ((zs.take k).map (Value.int q)).length = k := by simp; omega
  rw [List.getElem?_append_right (by omega), e2, Nat.sub_self, List.getElem?_replicate, if_pos (by omega)]

theorem Try.info3 : (Try.prog.info? 3).map (fun i => (i.zero, i.size, i.bytes)) = some (some (.int .i64 0), 1, 8) := by kernel_rfl
theorem Try.info5 : (Try.prog.info? 5).map (fun i => (i.zero, i.size, i.bytes)) = some (some (.int .u8 0), 1, 1) := by kernel_rfl
theorem Try.info41 : (Try.prog.info? 41).map (fun i => (i.zero, i.size, i.bytes)) = some (some (.int .u8 0), 1, 1) := by kernel_rfl

/-! ### copyIntsB1, copyBytesB1 -/
theorem ints_nil (w : World) : Calls Try.prog 6 #[.slice none 0 0] w fun e w' => e = .returned (.slice none 0 0) ∧ w' = w := by
  have q22 : ∀ (w : World) (a : Option Addr) (n c n' c' : Nat), (binOp .eql 22 (.slice a n c) (.slice none n' c')).run Try.prog w = .ok (.bool a.isNone) w := fun w a n c n' c' => Lib.run_eql_slice_nil w _ _ a n c n' c' Try.underlying22
  go_enter Try.func6, Try.ntmps6
  go_wp2
  go_ret
  exact ⟨rfl, rfl⟩
theorem byts_nil (w : World) : Calls Try.prog 7 #[.slice none 0 0] w fun e w' => e = .returned (.slice none 0 0) ∧ w' = w := by
  have q23 : ∀ (w : World) (a : Option Addr) (n c n' c' : Nat), (binOp .eql 23 (.slice a n c) (.slice none n' c')).run Try.prog w = .ok (.bool a.isNone) w := fun w a n c n' c' => Lib.run_eql_slice_nil w _ _ a n c n' c' Try.underlying23
  go_enter Try.func7, Try.ntmps7
  go_wp2
  go_ret
  exact ⟨rfl, rfl⟩

set_option maxHeartbeats 400000 in
theorem ints_some (x : Addr) (cap : Nat) (zs : List Int) (w : World) (hv : Nums .i64 w (.slice (some x) zs.length cap) zs) (hl : zs.length ≤ 1073741824) :
    Calls Try.prog 6 #[.slice (some x) zs.length cap] w fun e w' => ∃ v, e = .returned v ∧ v = .slice (some ⟨w.heap.size, 0, none⟩) zs.length zs.length ∧ w'.ownsRow w.heap.size 3 1 v zs.length (zs.map (Value.int .i64)) ∧ Below w.heap.size w w' := by
  have q22 : ∀ (w : World) (a : Option Addr) (n c n' c' : Nat), (binOp .eql 22 (.slice a n c) (.slice none n' c')).run Try.prog w = .ok (.bool a.isNone) w := fun w a n c n' c' => Lib.run_eql_slice_nil w _ _ a n c n' c' Try.underlying22
  obtain ⟨i0, hi, hz0, hz1, hz2⟩ := info_parts Try.info3
  obtain ⟨a', cap', ha', _, hc0⟩ := hv
  simp only [Value.slice.injEq] at ha'
  obtain ⟨rfl, _, rfl⟩ := ha'
  have hml : zs.length ≤ maxLen := by unfold maxLen; omega
  go_enter Try.func6, Try.ntmps6
  go_wp2_with (at_make; refine wpList_make_full _ rfl _ _ 22 rfl w.heap.size 3 i0 (.int .i64 0) 1 Try.underlying22 hi hz0 hz1 _ _ _ _ zs.length rfl rfl rfl rfl (by rw [hz2]; omega) hml (Nat.le_refl _) ?_; intro w1 hown hgrow)
  have hown0 : w1.ownsRow w.heap.size 3 1 (.slice (some ⟨w.heap.size, 0, none⟩) zs.length zs.length) zs.length (part .i64 zs 0) := by
    have e : (madeCells (Value.int IntKind.i64 0).cells (zs.length * 1)).toList = part .i64 zs 0 := by
      rw [part_zero, Nat.mul_one]; exact toList_madeCells_one _ _
    rw [← e]; exact hown
  have hb0 : Below w.heap.size w w1 := (Below.refl _ _).grown hgrow (Nat.le_refl _) (fun k h => by cases h)
  clear hown hgrow
  go_loopw [4] (fun i wr => ∃ k : Nat, k ≤ zs.length ∧ i = .int .i64 k ∧ wr.ownsRow w.heap.size 3 1 (.slice (some ⟨w.heap.size, 0, none⟩) zs.length zs.length) zs.length (part .i64 zs k) ∧ Below w.heap.size w wr) (fun i _ => zs.length - (intOf i).toNat)
  case atStart => exact ⟨0, Nat.zero_le _, rfl, hown0, hb0⟩
  case round =>
    obtain ⟨k, hk, rfl, hown, hb⟩ := hrel
    clear hown0 hb0
    by_cases hlt : k < zs.length
    · obtain ⟨b, off, hx, hc⟩ := hc0 (by omega)
      obtain rfl := Option.some.inj hx
      clear hx hc0
      have hlt' := World.block_lt_of_cell? w _ (hc k hlt)
      have hcell : wr.cell? ⟨b, off + k, none⟩ = some (.int .i64 (zs.getD k 0)) := (hb.cell hlt').trans (hc k hlt)
      have hnew : wr.cell? ⟨w.heap.size, k, none⟩ = some (.int .i64 0) := (hown.cellAt k (by omega)).trans (part_at .i64 zs k hlt)
      have hfz : wr.frozen? ⟨w.heap.size, k, none⟩ = false := hown.frozenAt k
      have hst := hown.stored k (.int .i64 (zs.getD k 0))
      rw [part_set .i64 zs k hlt] at hst
      generalize zs.getD k 0 = y at hcell hst
      have HS := hide hst
      have HB := hide hb
      clear hst hc hlt' hown hb
      go_wp2
      go_roundw
      case rel => exact ⟨k + 1, by omega, by go_num, HS.out.1, HB.out.setCell (by simp) _⟩
      case measure => simp [intOf]; omega
    · go_wp2
      go_ret
      exact ⟨_, rfl, rfl, by rw [← part_all .i64 zs k (by omega)]; exact hown, hb⟩

set_option maxHeartbeats 400000 in
theorem byts_some (x : Addr) (cap : Nat) (zs : List Int) (w : World) (hv : Nums .u8 w (.slice (some x) zs.length cap) zs) (hl : zs.length ≤ 1073741824) :
    Calls Try.prog 7 #[.slice (some x) zs.length cap] w fun e w' => ∃ v, e = .returned v ∧ w'.ownsRow w.heap.size 5 1 v zs.length (zs.map (Value.int .u8)) ∧ Below w.heap.size w w' := by
  have q23 : ∀ (w : World) (a : Option Addr) (n c n' c' : Nat), (binOp .eql 23 (.slice a n c) (.slice none n' c')).run Try.prog w = .ok (.bool a.isNone) w := fun w a n c n' c' => Lib.run_eql_slice_nil w _ _ a n c n' c' Try.underlying23
  obtain ⟨i0, hi, hz0, hz1, hz2⟩ := info_parts Try.info5
  obtain ⟨a', cap', ha', _, hc0⟩ := hv
  simp only [Value.slice.injEq] at ha'
  obtain ⟨rfl, _, rfl⟩ := ha'
  have hml : zs.length ≤ maxLen := by unfold maxLen; omega
  go_enter Try.func7, Try.ntmps7
  go_wp2_with (at_make; refine wpList_make_full _ rfl _ _ 23 rfl w.heap.size 5 i0 (.int .u8 0) 1 Try.underlying23 hi hz0 hz1 _ _ _ _ zs.length rfl rfl rfl rfl (by rw [hz2]; omega) hml (Nat.le_refl _) ?_; intro w1 hown hgrow)
  have hown0 : w1.ownsRow w.heap.size 5 1 (.slice (some ⟨w.heap.size, 0, none⟩) zs.length zs.length) zs.length (part .u8 zs 0) := by
    have e : (madeCells (Value.int IntKind.u8 0).cells (zs.length * 1)).toList = part .u8 zs 0 := by
      rw [part_zero, Nat.mul_one]; exact toList_madeCells_one _ _
    rw [← e]; exact hown
  have hb0 : Below w.heap.size w w1 := (Below.refl _ _).grown hgrow (Nat.le_refl _) (fun k h => by cases h)
  clear hown hgrow
  go_loopw [4] (fun i wr => ∃ k : Nat, k ≤ zs.length ∧ i = .int .i64 k ∧ wr.ownsRow w.heap.size 5 1 (.slice (some ⟨w.heap.size, 0, none⟩) zs.length zs.length) zs.length (part .u8 zs k) ∧ Below w.heap.size w wr) (fun i _ => zs.length - (intOf i).toNat)
  case atStart => exact ⟨0, Nat.zero_le _, rfl, hown0, hb0⟩
  case round =>
    obtain ⟨k, hk, rfl, hown, hb⟩ := hrel
    clear hown0 hb0
    by_cases hlt : k < zs.length
    · obtain ⟨b, off, hx, hc⟩ := hc0 (by omega)
      obtain rfl := Option.some.inj hx
      clear hx hc0
      have hlt' := World.block_lt_of_cell? w _ (hc k hlt)
      have hcell : wr.cell? ⟨b, off + k, none⟩ = some (.int .u8 (zs.getD k 0)) := (hb.cell hlt').trans (hc k hlt)
      have hnew : wr.cell? ⟨w.heap.size, k, none⟩ = some (.int .u8 0) := (hown.cellAt k (by omega)).trans (part_at .u8 zs k hlt)
      have hfz : wr.frozen? ⟨w.heap.size, k, none⟩ = false := hown.frozenAt k
      have hst := hown.stored k (.int .u8 (zs.getD k 0))
      rw [part_set .u8 zs k hlt] at hst
      generalize zs.getD k 0 = y at hcell hst
      have HS := hide hst
      have HB := hide hb
      clear hst hc hlt' hown hb
      go_wp2
      go_roundw
      case rel => exact ⟨k + 1, by omega, by go_num, HS.out.1, HB.out.setCell (by simp) _⟩
      case measure => simp [intOf]; omega
    · go_wp2
      go_ret
      exact ⟨_, rfl, by rw [← part_all .u8 zs k (by omega)]; exact hown, hb⟩

/-- copyIntsB1: a slice of the same elements, with no spare room. -/
theorem ints_any (v : Value) (zs : List Int) (w : World) (hv : Nums .i64 w v zs) (hl : zs.length ≤ 1073741824) :
    Calls Try.prog 6 #[v] w fun e w' => ∃ a, e = .returned (.slice a zs.length zs.length) ∧ Nums .i64 w' (.slice a zs.length zs.length) zs ∧ Below w.heap.size w w' := by
  have hv' := hv
  obtain ⟨a, cap, rfl, hn, hc⟩ := hv
  cases a with
  | none =>
    obtain ⟨rfl, rfl⟩ := hv'.nil_of
    refine (ints_nil w).mono ?_
    rintro e w' ⟨rfl, rfl⟩
    exact ⟨none, rfl, hv', Below.refl _ _⟩
  | some x =>
    refine (ints_some x cap zs w hv' hl).mono ?_
    rintro e w' ⟨v, rfl, rfl, ho, hb⟩
    exact ⟨_, rfl, Nums.of_own ho, hb⟩
theorem byts_any (v : Value) (zs : List Int) (w : World) (hv : Nums .u8 w v zs) (hl : zs.length ≤ 1073741824) :
    Calls Try.prog 7 #[v] w fun e w' => ∃ v', e = .returned v' ∧ Nums .u8 w' v' zs ∧ Below w.heap.size w w' := by
  have hv' := hv
  obtain ⟨a, cap, rfl, hn, hc⟩ := hv
  cases a with
  | none =>
    obtain ⟨rfl, rfl⟩ := hv'.nil_of
    refine (byts_nil w).mono ?_
    rintro e w' ⟨rfl, rfl⟩
    exact ⟨_, rfl, hv', Below.refl _ _⟩
  | some x =>
    refine (byts_some x cap zs w hv' hl).mono ?_
    rintro e w' ⟨v, rfl, ho, hb⟩
    exact ⟨_, rfl, Nums.of_own ho, hb⟩

/-! ### zzBytes, classB1 -/
def IsBool (e : Ending) : Prop := ∃ r : Bool, e = .returned (.bool r)
theorem isBool (r : Bool) : IsBool (.returned (.bool r)) := ⟨r, rfl⟩
theorem bytes5 (a : Option Addr) (n c : Nat) (a' : Option Addr) (n' c' : Nat) (w : World) (hn : n ≤ maxLen) (hn' : n' ≤ maxLen) :
    Calls Try.prog 5 #[.slice a n c, .slice a' n' c'] w fun e w' => IsBool e ∧ w' = w := by
  unfold maxLen at hn hn'
  go_enter Try.func5, Try.ntmps5
  by_cases h1 : 1048576 < n
  · go_wp2
    all_goals
      go_ret
      exact ⟨isBool _, rfl⟩
  · by_cases h2 : 1048576 < n'
    · go_wp2
      all_goals
        go_ret
        exact ⟨isBool _, rfl⟩
    · go_wp2
      all_goals
        go_ret
        exact ⟨isBool _, rfl⟩

/-- A slot's class. -/
def cls (x : Int) : Int := if x = 2 then 0 else if x = 3 then 1 else if x = 0 then 2 else if x = 4 then 3 else -1
theorem class_any (x : Int) (w : World) : Calls Try.prog 8 #[.int .u8 x] w fun e w' => e = .returned (.int .i64 (cls x)) ∧ w' = w := by
  by_cases h2 : x = 2
  · subst h2
    go_enter Try.func8, Try.ntmps8
    go_wp2
    go_ret
    exact ⟨rfl, rfl⟩
  · have e2 : (x == 2) = false := by simp [h2]
    by_cases h3 : x = 3
    · subst h3
      go_enter Try.func8, Try.ntmps8
      go_wp2
      go_ret
      exact ⟨rfl, rfl⟩
    · have e3 : (x == 3) = false := by simp [h3]
      by_cases h0 : x = 0
      · subst h0
        go_enter Try.func8, Try.ntmps8
        go_wp2
        go_ret
        exact ⟨rfl, rfl⟩
      · have e0 : (x == 0) = false := by simp [h0]
        by_cases h4 : x = 4
        · subst h4
          go_enter Try.func8, Try.ntmps8
          go_wp2
          go_ret
          exact ⟨rfl, rfl⟩
        · have e4 : (x == 4) = false := by simp [h4]
          have HC : Hid (cls x = -1) := by unfold Hid cls; rw [if_neg h2, if_neg h3, if_neg h0, if_neg h4]
          clear h2 h3 h0 h4
          go_enter Try.func8, Try.ntmps8
          go_wp2
          go_ret
          exact ⟨by rw [HC.out]; rfl, rfl⟩

/-! ### slices.Grow -/
theorem addr_add (b o j : Nat) : (⟨b, o, none⟩ : Addr).add j = ⟨b, o + j, none⟩ := by unfold Addr.add; split <;> simp_all
theorem grow_room (a : Option Addr) (l : Nat) (w : World) : Calls Try.prog 17 #[.slice a l l, .int .i64 0] w fun e w' => e = .returned (.slice a l l) ∧ w' = w := by
  go_enter Try.func17, Try.ntmps17
  go_wp2
  go_ret
  exact ⟨rfl, rfl⟩

set_option maxHeartbeats 2000000 in
theorem grow_grow (a : Option Addr) (zs : List Int) (n : Nat) (w : World) (hv : Nums .i64 w (.slice a zs.length zs.length) zs) (hl : zs.length ≤ 1073741824) (hn : n ≤ 1073741824) (h0 : 0 < n) :
    Calls Try.prog 17 #[.slice a zs.length zs.length, .int .i64 n] w fun e w' => ∃ v, e = .returned v ∧ w'.ownsRow w.heap.size 3 1 v zs.length (zs.map (Value.int .i64)) ∧ Below w.heap.size w w' := by
  obtain ⟨i0, hi, hz0, hz1, hz2⟩ := info_parts Try.info3
  have hold : (Builtin.firstCells i0.size zs.length (.slice a zs.length zs.length)).run Try.prog w.drew = .ok (zs.map (Value.int .i64)).toArray w.drew := by
    cases a with
    | none =>
      obtain ⟨rfl, _⟩ := hv.nil_of
      exact run_firstCells_none w.drew i0.size 0 0 0
    | some x =>
      refine run_firstCells_some w.drew i0.size zs.length x zs.length zs.length _ (by rw [hz1]; simp) (fun j v hj => ?_)
      obtain ⟨_, _, he, _, hc⟩ := hv
      simp only [Value.slice.injEq] at he
      have hjl : j < zs.length := by
        rcases Nat.lt_or_ge j zs.length with h | h
        · exact h
        · rw [List.getElem?_eq_none (by simpa using h)] at hj; cases hj
      obtain ⟨b, off, hx, hc⟩ := hc (by omega)
      obtain rfl := Option.some.inj (he.1.trans hx)
      have h1 := hc j hjl
      rw [addr_add]
      have h2 : (zs.map (Value.int IntKind.i64))[j]? = some (.int .i64 (zs.getD j 0)) := by simp [List.getD, hjl]
      rw [h2] at hj
      obtain rfl := Option.some.inj hj
      exact h1
  have hrz : ∀ ty, (Builtin.append_ #[22, 3] ty #[.slice a zs.length zs.length, .int .i64 n]).run Try.prog w = _ := fun ty =>
    Lib.run_append_grow_zeros w 22 3 ty 3 i0 (.int .i64 0) .i64 .i64 Try.underlying22 Try.underlying3 hi hz0 a zs.length zs.length (zs.map (Value.int .i64)) hold n h0 (by rw [hz1]; decide) (by omega) (by omega) (by rw [hz2]; omega) (growslice_fits (by omega) (by rw [hz2]; omega))
  have hGn : zs.length + n ≤ grownCap w (zs.length + n) zs.length 3 := grownCap_ge w _ _ _
  have hGm : grownCap w (zs.length + n) zs.length 3 ≤ maxLen := grownCap_le_maxLen w _ _ _ (by unfold maxLen; omega)
  obtain ⟨G, hG⟩ : ∃ G, G = grownCap w (zs.length + n) zs.length 3 := ⟨_, rfl⟩
  rw [← hG] at hrz hGn hGm
  clear hG hold
  have hown : ∀ cs : Array Value, cs.size = G → cs.toList.take zs.length = zs.map (Value.int .i64) → (w.drew.alloc (.cells cs 3)).ownsRow w.heap.size 3 1 (.slice (some ⟨w.heap.size, 0, none⟩) zs.length G) zs.length (zs.map (Value.int .i64)) := fun cs h1 h2 =>
    ⟨by simp, .inr ⟨w.heap.size, G, cs, rfl, Nat.le_refl _, heap_alloc_new w.drew _, by omega, hGm, by omega, by rw [Nat.mul_one]; exact h2⟩⟩
  have HOWN := hide hown
  have HRZ := hide hrz
  clear hown hrz hv
  unfold maxLen at hGm
  go_enter Try.func17, Try.ntmps17
  cases a with
  | none =>
    go_wp2_with (at_builtin; refine Lib.wpList_append_run _ rfl _ _ _ _ rfl _ _ rfl rfl _ _ (HRZ.out _) ?_)
    go_ret
    exact ⟨_, rfl, HOWN.out _ (by simp [Builtin.zeroCells]; omega) (by simp), (Below.refl _ _).drew.alloc (by simp) _⟩
  | some x =>
    obtain ⟨xb, xo, xs⟩ := x
    go_wp2_with (at_builtin; refine Lib.wpList_append_run _ rfl _ _ _ _ rfl _ _ rfl rfl _ _ (HRZ.out _) ?_)
    go_ret
    exact ⟨_, rfl, HOWN.out _ (by simp [Builtin.zeroCells]; omega) (by simp), (Below.refl _ _).drew.alloc (by simp) _⟩

end Go.Proofs.Qxb6003131a
