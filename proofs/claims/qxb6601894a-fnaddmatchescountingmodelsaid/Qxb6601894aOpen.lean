/-
  Seat b6601894a: the arguments as they are read: slices of int, slices of spans.
-/
import Derived.Test.Qxb6601894aInts
import Derived.Test.Qxb6601894aSusp
import Derived.ProofKit
import Derived.Deep.Slices
namespace Go.Proofs.Qxb6601894a
open Go.RowKit Go.ChangeShapes Go.WideShapes

theorem Try.cells3 : Try.prog.cellsOf 3 = 1 := by kernel_rfl
theorem Try.cells58 : Try.prog.cellsOf 58 = 2 := by kernel_rfl

section
variable {H : Type} {enc : TypeId × Value → H} {w : World}

/-- A slice of int that was read. -/
theorem ints_of_trod {fuel : Nat} {v : Value} {x : DataW H × List MemPlace} (h : DataW.trod enc Try.prog w 0 (fun _ => true) true fuel 22 [v] = some x) :
    ∃ zs : List Int, Ints w v zs ∧ zs.length ≤ maxLen := by
  rcases open_ints Try.underlying22 Try.underlying3 Try.cells3 h with ⟨hcs, _⟩ | ⟨a, len, cap, zs, hcs, _, hl, hm, hz, _, hcell, _⟩
  · obtain rfl := List.singleton_inj.1 hcs
    exact ⟨[], ⟨none, 0, rfl, fun _ => rfl, fun h => by simp at h⟩, by simp⟩
  · obtain rfl := List.singleton_inj.1 hcs
    simp only [if_true] at hz
    have hlen : (zs.take len).length = len := by simp; omega
    refine ⟨zs.take len, ⟨some a, cap, by rw [hlen], (fun h => by cases h), fun h0 => ?_⟩, by omega⟩
    rw [hlen] at h0 ⊢
    obtain ⟨b, off, spot⟩ := a
    have hspot : spot = none := by simpa [Addr.add] using World.cell?_spot (hcell 0 (by omega))
    subst hspot
    refine ⟨b, off, rfl, fun i hi => ?_⟩
    have := hcell i (by omega)
    rw [add_plain] at this
    rw [this]
    simp [List.getD, hi]

/-- One span that was read. -/
theorem pr_of_trod {fuel : Nat} {cs : List Value} {x : DataW H × List MemPlace} (h : DataW.trod enc Try.prog w 0 (fun _ => true) true fuel 58 cs = some x) :
    ∃ p : Int × Int, cs = [.int .i64 p.1, .int .i64 p.2] := by
  obtain ⟨xs, n, _, _, hl, hlen, hf⟩ := DataW.trod_struct Try.underlying58 h
  rw [Try.cells58] at hl
  match cs, hl with
  | [c0, c1], _ =>
    match xs, hlen with
    | [y0, y1], _ =>
      have h0 := hf 0 _ rfl
      have h1 := hf 1 _ rfl
      change DataW.trod enc Try.prog w 0 (fun _ => true) true n 3 (([c0, c1].drop 0).take (Try.prog.cellsOf 3)) = some y0 at h0
      change DataW.trod enc Try.prog w 0 (fun _ => true) true n 3 (([c0, c1].drop 1).take (Try.prog.cellsOf 3)) = some y1 at h1
      rw [Try.cells3] at h0 h1
      obtain ⟨p, e0, _, _⟩ := DataW.trod_int Try.underlying3 h0
      obtain ⟨r, e1, _, _⟩ := DataW.trod_int Try.underlying3 h1
      simp at e0 e1
      subst e0 e1
      exact ⟨(p, r), rfl⟩

/-- From 'for every i < n there is a pair' to one list. -/
theorem list_of {p : Nat → Int × Int → Prop} (n : Nat) (h : ∀ i, i < n → ∃ c, p i c) : ∃ cs : List (Int × Int), cs.length = n ∧ ∀ i, i < n → p i (cs.getD i (0, 0)) := by
  induction n with
  | zero => exact ⟨[], rfl, fun i hi => absurd hi (Nat.not_lt_zero _)⟩
  | succ n ih =>
    obtain ⟨cs, hl, hp⟩ := ih (fun i hi => h i (by omega))
    obtain ⟨c, hc⟩ := h n (by omega)
    refine ⟨cs ++ [c], by simp [hl], fun i hi => ?_⟩
    by_cases hlt : i < n
    · have e : (cs ++ [c]).getD i (0, 0) = cs.getD i (0, 0) := by simp [List.getD, List.getElem?_append_left (show i < cs.length by omega)]
      rw [e]
      exact hp i hlt
    · obtain rfl : i = n := by omega
      have e : (cs ++ [c]).getD i (0, 0) = c := by rw [← hl]; simp [List.getD]
      rw [e]
      exact hc

/-- A slice of spans that was read. -/
theorem prs_of_trod {fuel : Nat} {v : Value} {x : DataW H × List MemPlace} (h : DataW.trod enc Try.prog w 0 (fun _ => true) true fuel 39 [v] = some x) :
    ∃ ss : List (Int × Int), Prs w v ss ∧ ss.length ≤ maxLen := by
  rcases Deep.open_slice Try.underlying39 h with ⟨hcs, _⟩ | ⟨a, len, cap, m, n, D, Pl, hcs, _, hl, hm, hmm, _, hx⟩
  · obtain rfl := List.singleton_inj.1 hcs
    exact ⟨[], ⟨none, 0, rfl, fun _ => rfl, fun h => by simp at h⟩, by simp⟩
  · obtain rfl := List.singleton_inj.1 hcs
    simp only [if_true] at hmm
    rw [hmm] at hx
    rw [Try.cells58] at hx
    obtain ⟨cs, hlen, hp⟩ := list_of (p := fun i c => w.cell? (a.add (i * 2)) = some (.int .i64 c.1) ∧ w.cell? ((a.add (i * 2)).add 1) = some (.int .i64 c.2)) len (fun i hi => by
      obtain ⟨cs', h1, h2⟩ := hx i (by omega)
      obtain ⟨c, rfl⟩ := pr_of_trod h2
      obtain ⟨_, _, hc⟩ := World.cells?_some h1
      have q0 := hc 0 (by omega)
      have q1 := hc 1 (by omega)
      refine ⟨c, ?_, by simpa using q1⟩
      simpa [Addr.add] using q0)
    refine ⟨cs, ⟨some a, cap, by rw [hlen], (fun h => by cases h), fun h0 => ?_⟩, by omega⟩
    rw [hlen] at h0
    obtain ⟨b, off, spot⟩ := a
    have hspot : spot = none := by
      obtain ⟨q, _⟩ := hp 0 h0
      simpa [Addr.add] using World.cell?_spot q
    subst hspot
    refine ⟨b, off, rfl, fun i hi => ?_⟩
    obtain ⟨q0, q1⟩ := hp i (by omega)
    rw [add_plain] at q0 q1
    rw [add_plain] at q1
    exact ⟨q0, q1⟩
end

end Go.Proofs.Qxb6601894a
