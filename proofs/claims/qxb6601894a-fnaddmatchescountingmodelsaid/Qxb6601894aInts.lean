/-
  Seat b6601894a: slices of int that are read.
-/
import Derived.Test.Qxb6601894aBase
namespace Go.Proofs.Qxb6601894a
open Go.RowKit

/-- v is a slice of cells that hold one int each, whose elements are zs (nil, empty or not), as it lies in w. -/
def Ints (w : World) (v : Value) (zs : List Int) : Prop :=
  ∃ (a : Option Addr) (cap : Nat), v = .slice a zs.length cap ∧ (a = none → cap = 0) ∧
    (0 < zs.length → ∃ b off, a = some ⟨b, off, none⟩ ∧ ∀ i, i < zs.length → w.cell? ⟨b, off + i, none⟩ = some (.int .i64 (zs.getD i 0)))

theorem Ints.below {w w' : World} {v : Value} {zs : List Int} (h : Ints w v zs) (hb : Below w.heap.size w w') : Ints w' v zs := by
  obtain ⟨a, cap, rfl, hn, h⟩ := h
  refine ⟨a, cap, rfl, hn, fun hz => ?_⟩
  obtain ⟨b, off, rfl, hc⟩ := h hz
  refine ⟨b, off, rfl, fun i hi => ?_⟩
  have hlt := World.block_lt_of_cell? w _ (hc i hi)
  rw [hb.cell (p := ⟨b, off + i, none⟩) hlt]
  exact hc i hi

theorem Ints.of_own {w : World} {base : Nat} {T : TypeId} {v : Value} {zs : List Int} (h : w.ownsRow base T 1 v zs.length (zs.map (Value.int .i64))) : Ints w v zs := by
  have h' := h
  rcases h.2 with ⟨rfl, h0⟩ | ⟨g, cap, cur, rfl, _, _, _⟩
  · exact ⟨none, 0, by rw [h0], fun _ => rfl, fun hz => by omega⟩
  · refine ⟨_, cap, rfl, (fun h => by cases h), fun _ => ⟨g, 0, rfl, fun i hi => ?_⟩⟩
    have := h'.cellAt i (by omega)
    rw [Nat.zero_add, this]
    simp [List.getD, hi]

theorem take_snoc (zs : List Int) (k : Nat) (h : k < zs.length) : zs.take (k + 1) = zs.take k ++ [zs.getD k 0] := by
  rw [List.take_succ_eq_append_getElem h]
  simp [List.getD, h]

end Go.Proofs.Qxb6601894a
