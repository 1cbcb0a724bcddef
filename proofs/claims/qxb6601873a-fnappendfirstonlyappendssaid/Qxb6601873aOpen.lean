/-
  Seat b6601873a: the arguments as they are read: slices of int, slices of crashes.
-/
import Derived.Test.Qxb6601873aCrash
import Derived.ProofKit
import Derived.Deep.Slices
namespace Go.Proofs.Qxb6601873a
open Go.RowKit Go.ChangeShapes Go.WideShapes

theorem Try.cells3 : Try.prog.cellsOf 3 = 1 := by kernel_rfl
theorem Try.cells22 : Try.prog.cellsOf 22 = 1 := by kernel_rfl
theorem Try.cells43 : Try.prog.cellsOf 43 = 4 := by kernel_rfl

section
variable {H : Type} {enc : TypeId × Value → H} {w : World}

/-- A slice of int that was read. -/
theorem ints_of_trod {fuel : Nat} {v : Value} {x : DataW H × List MemPlace} (h : DataW.trod enc Try.prog w 0 (fun _ => true) true fuel 22 [v] = some x) :
    ∃ zs : List Int, Ints w v zs ∧ zs.length ≤ maxLen := by
  rcases open_ints Try.underlying22 Try.underlying3 Try.cells3 h with ⟨hcs, _⟩ | ⟨a, len, cap, zs, hcs, _, hl, hm, hz, _, hcell, _⟩
  · obtain rfl := List.singleton_inj.1 hcs
    exact ⟨[], ⟨none, 0, rfl, fun _ => rfl, fun h => by simp at h⟩, by simp⟩
  · obtain rfl := List.singleton_inj.1 hcs
    simp only [if_true] at hz
    have hlen : (zs.take len).length = len := by simp; omega
    refine ⟨zs.take len, ⟨some a, cap, by rw [hlen], (fun h => by cases h), fun h0 => ?_⟩, by omega⟩
    rw [hlen] at h0 ⊢
    obtain ⟨b, off, spot⟩ := a
    have hspot : spot = none := by simpa [Addr.add] using World.cell?_spot (hcell 0 (by omega))
    subst hspot
    refine ⟨b, off, rfl, fun i hi => ?_⟩
    have := hcell i (by omega)
    rw [add_plain] at this
    rw [this]
    simp [List.getD, hi]

/-- It is nil exactly where it leads nowhere: as a crash's Reaches. -/
theorem rv_of_trod {fuel : Nat} {v : Value} {x : DataW H × List MemPlace} (h : DataW.trod enc Try.prog w 0 (fun _ => true) true fuel 22 [v] = some x) :
    ∃ rs : Option (List Int), RV w v rs ∧ (rs.getD []).length ≤ maxLen := by
  obtain ⟨zs, hi, hl⟩ := ints_of_trod h
  by_cases hv : v = .slice none 0 0
  · refine ⟨none, ⟨⟨none, 0, hv, fun _ => rfl, fun h => by simp at h⟩, by simp [hv]⟩, by simp⟩
  · exact ⟨some zs, ⟨hi, by simp [hv]⟩, hl⟩

/-- One crash that was read. -/
theorem cr_of_trod {fuel : Nat} {cs : List Value} {x : DataW H × List MemPlace} (h : DataW.trod enc Try.prog w 0 (fun _ => true) true fuel 43 cs = some x) :
    ∃ (c : Cr) (rv : Value), cs = [.int .i64 c.proc, .int .i64 c.rnd, rv, .int .i64 c.sent] ∧ RV w rv c.rs ∧ c.lst.length ≤ maxLen := by
  obtain ⟨xs, n, _, _, hl, hlen, hf⟩ := DataW.trod_struct Try.underlying43 h
  rw [Try.cells43] at hl
  match cs, hl with
  | [c0, c1, c2, c3], _ =>
    match xs, hlen with
    | [y0, y1, y2, y3], _ =>
      have h0 := hf 0 _ rfl
      have h1 := hf 1 _ rfl
      have h2 := hf 2 _ rfl
      have h3 := hf 3 _ rfl
      change DataW.trod enc Try.prog w 0 (fun _ => true) true n 3 (([c0, c1, c2, c3].drop 0).take (Try.prog.cellsOf 3)) = some y0 at h0
      change DataW.trod enc Try.prog w 0 (fun _ => true) true n 3 (([c0, c1, c2, c3].drop 1).take (Try.prog.cellsOf 3)) = some y1 at h1
      change DataW.trod enc Try.prog w 0 (fun _ => true) true n 22 (([c0, c1, c2, c3].drop 2).take (Try.prog.cellsOf 22)) = some y2 at h2
      change DataW.trod enc Try.prog w 0 (fun _ => true) true n 3 (([c0, c1, c2, c3].drop 3).take (Try.prog.cellsOf 3)) = some y3 at h3
      rw [Try.cells3] at h0 h1 h3
      rw [Try.cells22] at h2
      obtain ⟨p, e0, _, _⟩ := DataW.trod_int Try.underlying3 h0
      obtain ⟨r, e1, _, _⟩ := DataW.trod_int Try.underlying3 h1
      obtain ⟨s, e3, _, _⟩ := DataW.trod_int Try.underlying3 h3
      obtain ⟨rs, hrv, hrl⟩ := rv_of_trod (v := c2) h2
      simp at e0 e1 e3
      subst e0 e1 e3
      exact ⟨⟨p, r, rs, s⟩, c2, rfl, hrv, hrl⟩

/-- From 'for every i < n there is a crash' to one list. -/
theorem list_of {p : Nat → Cr → Prop} (n : Nat) (h : ∀ i, i < n → ∃ c, p i c) : ∃ cs : List Cr, cs.length = n ∧ ∀ i, i < n → p i (cs.getD i Cr.zero) := by
  induction n with
  | zero => exact ⟨[], rfl, fun i hi => absurd hi (Nat.not_lt_zero _)⟩
  | succ n ih =>
    obtain ⟨cs, hl, hp⟩ := ih (fun i hi => h i (by omega))
    obtain ⟨c, hc⟩ := h n (by omega)
    refine ⟨cs ++ [c], by simp [hl], fun i hi => ?_⟩
    by_cases hlt : i < n
    · have e : (cs ++ [c]).getD i Cr.zero = cs.getD i Cr.zero := by simp [List.getD, List.getElem?_append_left (show i < cs.length by omega)]
      rw [e]
      exact hp i hlt
    · obtain rfl : i = n := by omega
      have e : (cs ++ [c]).getD i Cr.zero = c := by rw [← hl]; simp [List.getD]
      rw [e]
      exact hc

/-- A slice of crashes that was read. -/
theorem crs_of_trod {fuel : Nat} {v : Value} {x : DataW H × List MemPlace} (h : DataW.trod enc Try.prog w 0 (fun _ => true) true fuel 27 [v] = some x) :
    ∃ cs : List Cr, Crs w v cs ∧ cs.length ≤ maxLen ∧ ∀ i, i < cs.length → (cs.getD i Cr.zero).lst.length ≤ maxLen := by
  rcases Deep.open_slice Try.underlying27 h with ⟨hcs, _⟩ | ⟨a, len, cap, m, n, D, Pl, hcs, _, hl, hm, hmm, _, hx⟩
  · obtain rfl := List.singleton_inj.1 hcs
    exact ⟨[], ⟨none, 0, rfl, fun _ => rfl, fun h => by simp at h⟩, by simp, fun i h => by simp at h⟩
  · obtain rfl := List.singleton_inj.1 hcs
    simp only [if_true] at hmm
    rw [hmm] at hx
    rw [Try.cells43] at hx
    obtain ⟨cs, hlen, hp⟩ := list_of (p := fun i c => ∃ rv, w.cell? (a.add (i * 4)) = some (.int .i64 c.proc) ∧ w.cell? ((a.add (i * 4)).add 1) = some (.int .i64 c.rnd) ∧ w.cell? ((a.add (i * 4)).add 2) = some rv ∧ w.cell? ((a.add (i * 4)).add 3) = some (.int .i64 c.sent) ∧ RV w rv c.rs ∧ c.lst.length ≤ maxLen) len (fun i hi => by
      obtain ⟨cs', h1, h2⟩ := hx i (by omega)
      obtain ⟨c, rv, rfl, hrv, hlr⟩ := cr_of_trod h2
      obtain ⟨_, _, hc⟩ := World.cells?_some h1
      have q0 := hc 0 (by omega)
      have q1 := hc 1 (by omega)
      have q2 := hc 2 (by omega)
      have q3 := hc 3 (by omega)
      refine ⟨c, rv, ?_, by simpa using q1, by simpa using q2, by simpa using q3, hrv, hlr⟩
      simpa [Addr.add] using q0)
    refine ⟨cs, ⟨some a, cap, by rw [hlen], (fun h => by cases h), fun h0 => ?_⟩, by omega, fun i hi => ?_⟩
    · rw [hlen] at h0
      obtain ⟨b, off, spot⟩ := a
      have hspot : spot = none := by
        obtain ⟨rv, q, _⟩ := hp 0 h0
        simpa [Addr.add] using World.cell?_spot q
      subst hspot
      refine ⟨b, off, rfl, fun i hi => ?_⟩
      obtain ⟨rv, q0, q1, q2, q3, hrv, _⟩ := hp i (by omega)
      rw [add_plain] at q0 q1 q2 q3
      rw [add_plain] at q1 q2 q3
      exact ⟨rv, q0, q1, q2, q3, hrv⟩
    · obtain ⟨rv, _, _, _, _, _, hlr⟩ := hp i (by omega)
      exact hlr
end

end Go.Proofs.Qxb6601873a
