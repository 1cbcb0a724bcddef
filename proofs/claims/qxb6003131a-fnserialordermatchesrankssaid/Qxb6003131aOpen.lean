/-
  Seat b6003131a: the arguments as they are read: slices of int, slices of bytes.
-/
import Derived.Test.Qxb6003131aBase
import Derived.ProofKit
namespace Go.Proofs.Qxb6003131a
open Go.RowKit Go.ChangeShapes Go.WideShapes

theorem Try.cells3 : Try.prog.cellsOf 3 = 1 := by kernel_rfl
theorem Try.cells5 : Try.prog.cellsOf 5 = 1 := by kernel_rfl

section
variable {H : Type} {enc : TypeId × Value → H} {w : World}

theorem ints_of_trod {fuel : Nat} {v : Value} {x : DataW H × List MemPlace} (h : DataW.trod enc Try.prog w 0 (fun _ => true) true fuel 22 [v] = some x) :
    ∃ zs : List Int, Nums .i64 w v zs ∧ zs.length ≤ maxLen := by
  rcases open_ints Try.underlying22 Try.underlying3 Try.cells3 h with ⟨hcs, _⟩ | ⟨a, len, cap, zs, hcs, _, hl, hm, hz, _, hcell, _⟩
  · obtain rfl := List.singleton_inj.1 hcs
    exact ⟨[], ⟨none, 0, rfl, fun _ => rfl, fun h => by simp at h⟩, by simp⟩
  · obtain rfl := List.singleton_inj.1 hcs
    simp only [if_true] at hz
    have hlen : (zs.take len).length = len := by simp; omega
    refine ⟨zs.take len, ⟨some a, cap, by rw [hlen], (fun h => by cases h), fun h0 => ?_⟩, by omega⟩
    rw [hlen] at h0 ⊢
    obtain ⟨b, off, spot⟩ := a
    have hspot : spot = none := by simpa [Addr.add] using World.cell?_spot (hcell 0 (by omega))
    subst hspot
    refine ⟨b, off, rfl, fun i hi => ?_⟩
    have := hcell i (by omega)
    rw [add_plain] at this
    rw [this]
    simp [List.getD, hi]

theorem byts_of_trod {fuel : Nat} {v : Value} {x : DataW H × List MemPlace} (h : DataW.trod enc Try.prog w 0 (fun _ => true) true fuel 23 [v] = some x) :
    ∃ zs : List Int, Nums .u8 w v zs ∧ zs.length ≤ maxLen := by
  rcases open_ints Try.underlying23 Try.underlying5 Try.cells5 h with ⟨hcs, _⟩ | ⟨a, len, cap, zs, hcs, _, hl, hm, hz, _, hcell, _⟩
  · obtain rfl := List.singleton_inj.1 hcs
    exact ⟨[], ⟨none, 0, rfl, fun _ => rfl, fun h => by simp at h⟩, by simp⟩
  · obtain rfl := List.singleton_inj.1 hcs
    simp only [if_true] at hz
    have hlen : (zs.take len).length = len := by simp; omega
    refine ⟨zs.take len, ⟨some a, cap, by rw [hlen], (fun h => by cases h), fun h0 => ?_⟩, by omega⟩
    rw [hlen] at h0 ⊢
    obtain ⟨b, off, spot⟩ := a
    have hspot : spot = none := by simpa [Addr.add] using World.cell?_spot (hcell 0 (by omega))
    subst hspot
    refine ⟨b, off, rfl, fun i hi => ?_⟩
    have := hcell i (by omega)
    rw [add_plain] at this
    rw [this]
    simp [List.getD, hi]
end

end Go.Proofs.Qxb6003131a
