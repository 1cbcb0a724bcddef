/-
  Seat b6601873a: slices of crashes that are read; crashesOver and the bounds on total length.
-/
import Derived.Test.Qxb6601873aClone
namespace Go.Proofs.Qxb6601873a
open Go.RowKit

/-- A crash as data: 'rs' is none where Reaches is nil. -/
structure Cr where
  proc : Int
  rnd : Int
  rs : Option (List Int)
  sent : Int

/-- Its Reaches as a list. -/
def Cr.lst (c : Cr) : List Int := c.rs.getD []
def Cr.zero : Cr := ⟨0, 0, none, 0⟩

/-- rv is a slice value that reads as rs: nil exactly where rs is none. -/
def RV (w : World) (rv : Value) (rs : Option (List Int)) : Prop := Ints w rv (rs.getD []) ∧ (rv = .slice none 0 0 ↔ rs = none)

theorem RV.below {w w' : World} {v : Value} {rs : Option (List Int)} (h : RV w v rs) (hb : Below w.heap.size w w') : RV w' v rs := ⟨h.1.below hb, h.2⟩

/-- The four cells of crash c from offset o of block b on, rv being its Reaches. -/
structure CrAt (w : World) (b o : Nat) (c : Cr) (rv : Value) : Prop where
  p : w.cell? ⟨b, o, none⟩ = some (.int .i64 c.proc)
  r : w.cell? ⟨b, o + 1, none⟩ = some (.int .i64 c.rnd)
  v : w.cell? ⟨b, o + 2, none⟩ = some rv
  s : w.cell? ⟨b, o + 3, none⟩ = some (.int .i64 c.sent)
  rv : RV w rv c.rs

theorem CrAt.below {w w' : World} {b o : Nat} {c : Cr} {rv : Value} (h : CrAt w b o c rv) (hb : Below w.heap.size w w') : CrAt w' b o c rv := by
  have hlt : b < w.heap.size := World.block_lt_of_cell? w _ h.p
  exact ⟨(hb.cell (p := ⟨b, o, none⟩) hlt).trans h.p, (hb.cell (p := ⟨b, o + 1, none⟩) hlt).trans h.r, (hb.cell (p := ⟨b, o + 2, none⟩) hlt).trans h.v, (hb.cell (p := ⟨b, o + 3, none⟩) hlt).trans h.s, h.rv.below hb⟩

/-- v is a slice of crashes whose elements are cs, as it lies in w. -/
def Crs (w : World) (v : Value) (cs : List Cr) : Prop :=
  ∃ (a : Option Addr) (cap : Nat), v = .slice a cs.length cap ∧ (a = none → cap = 0) ∧
    (0 < cs.length → ∃ b off, a = some ⟨b, off, none⟩ ∧ ∀ i, i < cs.length → ∃ rv, CrAt w b (off + i * 4) (cs.getD i Cr.zero) rv)

theorem Crs.below {w w' : World} {v : Value} {cs : List Cr} (h : Crs w v cs) (hb : Below w.heap.size w w') : Crs w' v cs := by
  obtain ⟨a, cap, rfl, hn, h⟩ := h
  refine ⟨a, cap, rfl, hn, fun hz => ?_⟩
  obtain ⟨b, off, rfl, hc⟩ := h hz
  refine ⟨b, off, rfl, fun i hi => ?_⟩
  obtain ⟨rv, hr⟩ := hc i hi
  exact ⟨rv, hr.below hb⟩

/-- The length of a slice value that reads as rs. -/
theorem RV.form {w : World} {rv : Value} {rs : Option (List Int)} (h : RV w rv rs) : ∃ (a : Option Addr) (cap : Nat), rv = .slice a (rs.getD []).length cap := by
  obtain ⟨⟨a, cap, rfl, _⟩, _⟩ := h
  exact ⟨a, cap, rfl⟩

/-- The sum of the lengths of the Reaches. -/
def rsum : List Cr → Nat
  | [] => 0
  | c :: r => c.lst.length + rsum r
theorem rsum_append (l m : List Cr) : rsum (l ++ m) = rsum l + rsum m := by
  induction l with
  | nil => simp [rsum]
  | cons c r ih => simp [rsum, ih]; omega
theorem cr_take (cs : List Cr) (k : Nat) (h : k < cs.length) : cs.take (k + 1) = cs.take k ++ [cs.getD k Cr.zero] := by
  rw [List.take_succ_eq_append_getElem h]
  simp [List.getD, h]
theorem rsum_step (cs : List Cr) (k : Nat) (h : k < cs.length) : rsum (cs.take (k + 1)) = rsum (cs.take k) + (cs.getD k Cr.zero).lst.length := by
  rw [cr_take cs k h, rsum_append]
  simp [rsum]
theorem rsum_mem (cs : List Cr) (k : Nat) (h : k < cs.length) : (cs.getD k Cr.zero).lst.length ≤ rsum cs := by
  have h1 := rsum_step cs k h
  have h2 : rsum cs = rsum (cs.take (k + 1)) + rsum (cs.drop (k + 1)) := by rw [← rsum_append, List.take_append_drop]
  omega

/-! ### crashesOver -/
/-- What crashesOver answers. -/
def overB (cs : List Cr) (L : Nat) : Bool := decide (L < 48 * cs.length + 8 * rsum cs)
theorem over_yes {cs : List Cr} {L : Nat} (h : L < 48 * cs.length + 8 * rsum cs) : overB cs L = true := decide_eq_true h
theorem over_no {cs : List Cr} {L : Nat} (h : 48 * cs.length + 8 * rsum cs ≤ L) : overB cs L = false := decide_eq_false (by omega)
theorem over_le {cs : List Cr} {L : Nat} (h : overB cs L = false) : 48 * cs.length + 8 * rsum cs ≤ L := by have := of_decide_eq_false h; omega
theorem rsum_le (cs : List Cr) (k : Nat) : rsum (cs.take k) ≤ rsum cs := by
  have h2 : rsum cs = rsum (cs.take k) + rsum (cs.drop k) := by rw [← rsum_append, List.take_append_drop]
  omega
theorem ret_bool {a b : Bool} (h : a = b) : Ending.returned (.bool a) = .returned (.bool b) := by rw [h]

set_option maxHeartbeats 400000 in
theorem over_any (v : Value) (cs : List Cr) (L : Nat) (w : World) (hv : Crs w v cs) (hl : cs.length ≤ maxLen) (hr : ∀ i, i < cs.length → (cs.getD i Cr.zero).lst.length ≤ maxLen) (hL : L ≤ 1073741824) :
    Calls Try.prog 18 #[v, .int .i64 L] w fun e w' => e = .returned (.bool (overB cs L)) ∧ w' = w := by
  obtain ⟨a, cap, rfl, _, hc0⟩ := hv
  unfold maxLen at hl hr
  by_cases hbig : L / 48 < cs.length
  · have HY : Hid _ := over_yes (cs := cs) (L := L) (by omega)
    go_enter Try.func18, Try.ntmps18
    go_wp2
    go_ret
    exact ⟨ret_bool HY.out.symm, rfl⟩
  · go_enter Try.func18, Try.ntmps18
    go_wp2
    go_loop [5, 6, 7] (fun t i _ => ∃ k : Nat, k ≤ cs.length ∧ i = .int .i64 k ∧ ∃ T : Nat, t = .int .i64 T ∧ T ≤ L ∧ Hid (T = 48 * cs.length + 8 * rsum (cs.take k))) (fun _ i _ => cs.length - (intOf i).toNat)
    case atStart => exact ⟨0, Nat.zero_le _, rfl, 48 * cs.length, by go_num, by omega, by unfold Hid; simp [rsum]⟩
    case round =>
      obtain ⟨k, hk, rfl, T, rfl, hT, HT⟩ := hrel
      by_cases hlt : k < cs.length
      · obtain ⟨b, off, hx, hc⟩ := hc0 (by omega)
        subst hx
        obtain ⟨rv, hat⟩ := hc k hlt
        have hcv := hat.v
        obtain ⟨ra, rcap, rfl⟩ := hat.rv.form
        have hs := rsum_step cs k hlt
        have hrl := hr k hlt
        have hle := rsum_le cs (k + 1)
        change rsum (cs.take (k + 1)) = rsum (cs.take k) + ((cs.getD k Cr.zero).rs.getD []).length at hs
        change ((cs.getD k Cr.zero).rs.getD []).length ≤ _ at hrl
        generalize ((cs.getD k Cr.zero).rs.getD []).length = m at hcv hs hrl
        have HS : Hid _ := hs
        have HL : Hid _ := hle
        clear hat hc hs hc0 hr hle
        by_cases hm : (L - T) / 8 < m
        · have hm' : ((L : Int) - (T : Int)) / 8 < (m : Int) := by omega
          have HY : Hid _ := over_yes (cs := cs) (L := L) (by have h1 := HS.out; have h2 := HL.out; have h3 := HT.out; omega)
          clear hm
          go_wp2
          go_ret
          exact ⟨ret_bool HY.out.symm, rfl⟩
        · have hm' : ¬ ((L : Int) - (T : Int)) / 8 < (m : Int) := by omega
          have hmL : m ≤ 1073741824 := by omega
          go_wp2
          go_round
          case rel => exact ⟨k + 1, by omega, by go_num, T + 8 * m, by go_num, by omega, by have h1 := HS.out; have h3 := HT.out; unfold Hid; omega⟩
          case measure => simp [intOf]; omega
      · have HY : Hid _ := over_no (cs := cs) (L := L) (by have := HT.out; rw [List.take_of_length_le (by omega)] at this; omega)
        go_wp2
        go_ret
        exact ⟨ret_bool HY.out.symm, rfl⟩

end Go.Proofs.Qxb6601873a
